import PyProof.Rows.All
import Wide.All
import OpenK.AllK
import Wide.FinOn
import Lean
import PySem.Challenge.RW_rw0107_01
set_option Elab.async false
set_option maxRecDepth 100000
set_option compiler.extract_closed false
set_option linter.all false
set_option hygiene false
namespace Mine
open PySem PySem.W PySem.Spec PySem.Calls PyProof.Rows
section

/-- the pairs of the text's large table, read off the row's own term -/
noncomputable def b3Pairs : List (Int × Str) := match PySem.Challenge.pw_rw0107_01.main.body[3]? with
  | some (Stmt.Assign _ (Expr.Dict ks vs _) _) => (ks.zip vs).filterMap fun
    | (some (Expr.Constant (Const.int k) _ _), Expr.Constant (Const.str s) _ _) => some (k, s)
    | _ => none
  | _ => []
noncomputable def b3EntriesFrom (t : Nat) : List (Int × Str) → List DictEntry
  | [] => []
  | (k, s) :: r => ⟨k, Value.int k t, Value.str s (t + 1)⟩ :: b3EntriesFrom (t + 3) r
/-- of a display's last chunk, which is short -/
noncomputable def b3EntriesEnd (t : Nat) : List (Int × Str) → List DictEntry
  | [] => []
  | (k, s) :: r => ⟨k, Value.int k t, Value.str s (t + 1)⟩ :: b3EntriesEnd (t + 2) r
noncomputable def b3Entries : List DictEntry := b3EntriesFrom 256 (b3Pairs.take 646) ++ b3EntriesEnd 2194 (b3Pairs.drop 646)
noncomputable def b3Obj : Obj := Obj.mk (Value.type "dict") none (Data.dict b3Entries.toArray 650) #[]

/-- what a def statement makes -/
noncomputable def fd (i g : Nat) (pm cd : Value) : FuncData := match PySem.Challenge.pw_rw0107_01.main.body[i]? with
  | some (Stmt.FunctionDef n a b _ _ _ sc _ _ _) => { name := n, qualname := n, params := a, body := FuncBody.stmts b, scope := sc, globals := g, closure := [], defaults := Value.none, kwdefaults := Value.none, pyModule := pm, code := cd }
  | _ => default
noncomputable def classBody : List Stmt := match PySem.Challenge.pw_rw0107_01.main.body[9]? with
  | some (Stmt.ClassDef _ _ _ b _ _ _ _ _ _ _) => b
  | _ => []
noncomputable def fdm (j g : Nat) (pm cd : Value) : FuncData := match classBody[j]?, j with
  | some (Stmt.FunctionDef n a b _ _ _ sc _ _ _), j => { name := n, qualname := (match j with | 0 => Str.ofString "_netrclex.__init__" | 1 => Str.ofString "_netrclex._read_char" | 2 => Str.ofString "_netrclex.get_token" | _ => Str.ofString "_netrclex.push_token"), params := a, body := FuncBody.stmts b, scope := sc, globals := g, closure := [], defaults := Value.none, kwdefaults := Value.none, pyModule := pm, code := cd }
  | _, _ => default

set_option maxHeartbeats 0 in
noncomputable def K (P : Params) : Frag :=
  (nat_lit 2, Obj.mk Value.none none (Data.dict #[]) #[]) ::
  (nat_lit 3, Obj.mk (Value.type "dict") none (Data.dict #[DictEntry.mk (PyData.keyHash P (Str.ofString "__name__")) (Value.str (Str.ofString "__name__") 165) (Value.str (Str.ofString "law_rw0107_01") 2314), DictEntry.mk (PyData.keyHash P (Str.ofString "__doc__")) (Value.str (Str.ofString "__doc__") 166) Value.none, DictEntry.mk (PyData.keyHash P (Str.ofString "__package__")) (Value.str (Str.ofString "__package__") 167) Value.none, DictEntry.mk (PyData.keyHash P (Str.ofString "__loader__")) (Value.str (Str.ofString "__loader__") 168) (Value.builtin "__main__.__loader__#opaque"), DictEntry.mk (PyData.keyHash P (Str.ofString "__spec__")) (Value.str (Str.ofString "__spec__") 169) Value.none, DictEntry.mk (PyData.keyHash P (Str.ofString "__annotations__")) (Value.str (Str.ofString "__annotations__") 170) (Value.ref 6), DictEntry.mk (PyData.keyHash P (Str.ofString "__builtins__")) (Value.str (Str.ofString "__builtins__") 171) (Value.ref 4), DictEntry.mk (PyData.keyHash P (Str.ofString "__file__")) (Value.str (Str.ofString "__file__") 173) (Value.str (Str.ofString "/claim/cut.py") 172), DictEntry.mk (PyData.keyHash P (Str.ofString "__cached__")) (Value.str (Str.ofString "__cached__") 174) Value.none, DictEntry.mk (PyData.keyHash P (Str.ofString "b1_set")) (Value.str (Str.ofString "b1_set") 248) (Value.ref 22), DictEntry.mk (PyData.keyHash P (Str.ofString "in_table_b1")) (Value.str (Str.ofString "in_table_b1") 255) (Value.ref 32), DictEntry.mk (PyData.keyHash P (Str.ofString "b3_exceptions")) (Value.str (Str.ofString "b3_exceptions") 2206) (Value.ref 33), DictEntry.mk (PyData.keyHash P (Str.ofString "map_table_b3")) (Value.str (Str.ofString "map_table_b3") 2214) (Value.ref 78), DictEntry.mk (PyData.keyHash P (Str.ofString "rgb_to_hls")) (Value.str (Str.ofString "rgb_to_hls") 2235) (Value.ref 85), DictEntry.mk (PyData.keyHash P (Str.ofString "rgb_to_hsv")) (Value.str (Str.ofString "rgb_to_hsv") 2253) (Value.ref 92), DictEntry.mk (PyData.keyHash P (Str.ofString "_netrclex")) (Value.str (Str.ofString "_netrclex") 2313) (Value.ref 130), DictEntry.mk (PyData.keyHash P (Str.ofString "_law_lexer")) (Value.str (Str.ofString "_law_lexer") 2324) (Value.ref 141), DictEntry.mk (PyData.keyHash P (Str.ofString "_law_written")) (Value.str (Str.ofString "_law_written") 2330) (Value.ref 146), DictEntry.mk (PyData.keyHash P (Str.ofString "_law_prepared")) (Value.str (Str.ofString "_law_prepared") 2336) (Value.ref 151), DictEntry.mk (PyData.keyHash P (Str.ofString "_law_unseen")) (Value.str (Str.ofString "_law_unseen") 2344) (Value.ref 158), DictEntry.mk (PyData.keyHash P (Str.ofString "_law_stray")) (Value.str (Str.ofString "_law_stray") 2352) (Value.ref 165), DictEntry.mk (PyData.keyHash P (Str.ofString "_law_letter")) (Value.str (Str.ofString "_law_letter") 2361) (Value.ref 172), DictEntry.mk (PyData.keyHash P (Str.ofString "_law_words")) (Value.str (Str.ofString "_law_words") 2367) (Value.ref 177), DictEntry.mk (PyData.keyHash P (Str.ofString "_law_image")) (Value.str (Str.ofString "_law_image") 2378) (Value.ref 184), DictEntry.mk (PyData.keyHash P (Str.ofString "_law_closed")) (Value.str (Str.ofString "_law_closed") 2384) (Value.ref 189), DictEntry.mk (PyData.keyHash P (Str.ofString "_law_seen")) (Value.str (Str.ofString "_law_seen") 2390) (Value.ref 194), DictEntry.mk (PyData.keyHash P (Str.ofString "law")) (Value.str (Str.ofString "law") 2396) (Value.ref 199)] 27) #[]) ::
  (nat_lit 22, Obj.mk (Value.type "set") none (Data.set #[(65024, Value.int 65024 205), (65025, Value.int 65025 206), (65026, Value.int 65026 207), (65027, Value.int 65027 208), (65028, Value.int 65028 209), (65029, Value.int 65029 210), (6150, Value.int 6150 191), (65030, Value.int 65030 211), (65031, Value.int 65031 212), (65032, Value.int 65032 213), (65033, Value.int 65033 214), (6155, Value.int 6155 192), (6156, Value.int 6156 193), (6157, Value.int 6157 194), (8203, Value.int 8203 195), (8204, Value.int 8204 196), (8205, Value.int 8205 197), (65034, Value.int 65034 215), (65035, Value.int 65035 216), (65036, Value.int 65036 217), (65037, Value.int 65037 218), (65038, Value.int 65038 219), (65039, Value.int 65039 220), (173, Value.int 173 189), (847, Value.int 847 190), (8288, Value.int 8288 198), (65279, Value.int 65279 199)] 29 (SetTable.mk 127 #[0, 1, 2, 3, 4, 5, 6, 7, 8, 9, 10, 11, 12, 13, 14, 15, 16, 17, 18, 19, 20, 21, 22, 45, 79, 96, 127] #[] 0 (!Params.followText P "set-order") 2 true)) #[]) ::
  (nat_lit 26, Obj.mk (Value.type "tuple") none (Data.seq #[]) #[]) ::
  (nat_lit 28, Obj.mk (Value.type "tuple") none (Data.seq #[Value.str (Str.ofString "code") 252]) #[]) ::
  (nat_lit 29, Obj.mk (Value.type "tuple") none (Data.seq #[]) #[]) ::
  (nat_lit 31, Obj.mk (Value.type "code") none (Data.fields #[Value.str (Str.ofString "in_table_b1") 249, Value.str (Str.ofString "in_table_b1") 250, Value.str (Str.ofString "/claim/cut.py") 251, Value.int 3 0, Value.int 1 0, Value.int 0 0, Value.int 0 0, Value.int 3 0, Value.ref 26, Value.bool true, Value.int 181 0, Value.ref 27, Value.none, Value.ref 28, Value.ref 29, Value.ref 30, Value.int 253 0, Value.int 3 0, Value.str (Str.ofString "/claim/cut.py") 254]) #[]) ::
  (nat_lit 32, Obj.mk (Value.type "function") none (Data.func (fd 2 3 (Value.str (Str.ofString "cpy313.stringprep") 187) (Value.ref 31))) #[]) ::
  (nat_lit 33, b3Obj) ::
  (nat_lit 72, Obj.mk (Value.type "tuple") none (Data.seq #[]) #[]) ::
  (nat_lit 74, Obj.mk (Value.type "tuple") none (Data.seq #[Value.str (Str.ofString "code") 2210, Value.str (Str.ofString "r") 2211]) #[]) ::
  (nat_lit 75, Obj.mk (Value.type "tuple") none (Data.seq #[]) #[]) ::
  (nat_lit 77, Obj.mk (Value.type "code") none (Data.fields #[Value.str (Str.ofString "map_table_b3") 2207, Value.str (Str.ofString "map_table_b3") 2208, Value.str (Str.ofString "/claim/cut.py") 2209, Value.int 6 0, Value.int 1 0, Value.int 0 0, Value.int 0 0, Value.int 3 0, Value.ref 72, Value.bool true, Value.int 181 0, Value.ref 73, Value.none, Value.ref 74, Value.ref 75, Value.ref 76, Value.int 2212 0, Value.int 6 0, Value.str (Str.ofString "/claim/cut.py") 2213]) #[]) ::
  (nat_lit 78, Obj.mk (Value.type "function") none (Data.func (fd 4 3 (Value.str (Str.ofString "cpy313.stringprep") 187) (Value.ref 77))) #[]) ::
  (nat_lit 79, Obj.mk (Value.type "tuple") none (Data.seq #[]) #[]) ::
  (nat_lit 81, Obj.mk (Value.type "tuple") none (Data.seq #[Value.str (Str.ofString "r") 2220, Value.str (Str.ofString "g") 2221, Value.str (Str.ofString "b") 2222, Value.str (Str.ofString "maxc") 2223, Value.str (Str.ofString "minc") 2224, Value.str (Str.ofString "sumc") 2225, Value.str (Str.ofString "rangec") 2226, Value.str (Str.ofString "l") 2227, Value.str (Str.ofString "s") 2228, Value.str (Str.ofString "rc") 2229, Value.str (Str.ofString "gc") 2230, Value.str (Str.ofString "bc") 2231, Value.str (Str.ofString "h") 2232]) #[]) ::
  (nat_lit 82, Obj.mk (Value.type "tuple") none (Data.seq #[]) #[]) ::
  (nat_lit 84, Obj.mk (Value.type "code") none (Data.fields #[Value.str (Str.ofString "rgb_to_hls") 2217, Value.str (Str.ofString "rgb_to_hls") 2218, Value.str (Str.ofString "/claim/cut.py") 2219, Value.int 12 0, Value.int 3 0, Value.int 0 0, Value.int 0 0, Value.int 3 0, Value.ref 79, Value.bool true, Value.int 181 0, Value.ref 80, Value.none, Value.ref 81, Value.ref 82, Value.ref 83, Value.int 2233 0, Value.int 12 0, Value.str (Str.ofString "/claim/cut.py") 2234]) #[]) ::
  (nat_lit 85, Obj.mk (Value.type "function") none (Data.func (fd 6 3 (Value.str (Str.ofString "cpy313.colorsys") 2215) (Value.ref 84))) #[]) ::
  (nat_lit 86, Obj.mk (Value.type "tuple") none (Data.seq #[]) #[]) ::
  (nat_lit 88, Obj.mk (Value.type "tuple") none (Data.seq #[Value.str (Str.ofString "r") 2239, Value.str (Str.ofString "g") 2240, Value.str (Str.ofString "b") 2241, Value.str (Str.ofString "maxc") 2242, Value.str (Str.ofString "minc") 2243, Value.str (Str.ofString "rangec") 2244, Value.str (Str.ofString "v") 2245, Value.str (Str.ofString "s") 2246, Value.str (Str.ofString "rc") 2247, Value.str (Str.ofString "gc") 2248, Value.str (Str.ofString "bc") 2249, Value.str (Str.ofString "h") 2250]) #[]) ::
  (nat_lit 89, Obj.mk (Value.type "tuple") none (Data.seq #[]) #[]) ::
  (nat_lit 91, Obj.mk (Value.type "code") none (Data.fields #[Value.str (Str.ofString "rgb_to_hsv") 2236, Value.str (Str.ofString "rgb_to_hsv") 2237, Value.str (Str.ofString "/claim/cut.py") 2238, Value.int 35 0, Value.int 3 0, Value.int 0 0, Value.int 0 0, Value.int 3 0, Value.ref 86, Value.bool true, Value.int 181 0, Value.ref 87, Value.none, Value.ref 88, Value.ref 89, Value.ref 90, Value.int 2251 0, Value.int 35 0, Value.str (Str.ofString "/claim/cut.py") 2252]) #[]) ::
  (nat_lit 92, Obj.mk (Value.type "function") none (Data.func (fd 7 3 (Value.str (Str.ofString "cpy313.colorsys") 2215) (Value.ref 91))) #[]) ::
  (nat_lit 100, Obj.mk (Value.type "tuple") none (Data.seq #[]) #[]) ::
  (nat_lit 102, Obj.mk (Value.type "tuple") none (Data.seq #[Value.str (Str.ofString "self") 2271, Value.str (Str.ofString "fp") 2272]) #[]) ::
  (nat_lit 103, Obj.mk (Value.type "tuple") none (Data.seq #[]) #[]) ::
  (nat_lit 105, Obj.mk (Value.type "code") none (Data.fields #[Value.str (Str.ofString "__init__") 2268, Value.str (Str.ofString "_netrclex.__init__") 2269, Value.str (Str.ofString "/claim/cut.py") 2270, Value.int 57 0, Value.int 2 0, Value.int 0 0, Value.int 0 0, Value.int 3 0, Value.ref 100, Value.bool true, Value.int 181 0, Value.ref 101, Value.none, Value.ref 102, Value.ref 103, Value.ref 104, Value.int 2273 0, Value.int 57 0, Value.str (Str.ofString "/claim/cut.py") 2274]) #[]) ::
  (nat_lit 106, Obj.mk (Value.type "function") none (Data.func (fdm 0 3 (Value.str (Str.ofString "cpy313.netrc") 2254) (Value.ref 105))) #[]) ::
  (nat_lit 107, Obj.mk (Value.type "tuple") none (Data.seq #[]) #[]) ::
  (nat_lit 109, Obj.mk (Value.type "tuple") none (Data.seq #[Value.str (Str.ofString "self") 2279, Value.str (Str.ofString "ch") 2280]) #[]) ::
  (nat_lit 110, Obj.mk (Value.type "tuple") none (Data.seq #[]) #[]) ::
  (nat_lit 112, Obj.mk (Value.type "code") none (Data.fields #[Value.str (Str.ofString "_read_char") 2276, Value.str (Str.ofString "_netrclex._read_char") 2277, Value.str (Str.ofString "/claim/cut.py") 2278, Value.int 63 0, Value.int 1 0, Value.int 0 0, Value.int 0 0, Value.int 3 0, Value.ref 107, Value.bool true, Value.int 181 0, Value.ref 108, Value.none, Value.ref 109, Value.ref 110, Value.ref 111, Value.int 2281 0, Value.int 63 0, Value.str (Str.ofString "/claim/cut.py") 2282]) #[]) ::
  (nat_lit 113, Obj.mk (Value.type "function") none (Data.func (fdm 1 3 (Value.str (Str.ofString "cpy313.netrc") 2254) (Value.ref 112))) #[]) ::
  (nat_lit 114, Obj.mk (Value.type "tuple") none (Data.seq #[]) #[]) ::
  (nat_lit 116, Obj.mk (Value.type "tuple") none (Data.seq #[Value.str (Str.ofString "self") 2287, Value.str (Str.ofString "token") 2288, Value.str (Str.ofString "fiter") 2289, Value.str (Str.ofString "ch") 2290]) #[]) ::
  (nat_lit 117, Obj.mk (Value.type "tuple") none (Data.seq #[]) #[]) ::
  (nat_lit 119, Obj.mk (Value.type "code") none (Data.fields #[Value.str (Str.ofString "get_token") 2284, Value.str (Str.ofString "_netrclex.get_token") 2285, Value.str (Str.ofString "/claim/cut.py") 2286, Value.int 69 0, Value.int 1 0, Value.int 0 0, Value.int 0 0, Value.int 3 0, Value.ref 114, Value.bool true, Value.int 181 0, Value.ref 115, Value.none, Value.ref 116, Value.ref 117, Value.ref 118, Value.int 2291 0, Value.int 69 0, Value.str (Str.ofString "/claim/cut.py") 2292]) #[]) ::
  (nat_lit 120, Obj.mk (Value.type "function") none (Data.func (fdm 2 3 (Value.str (Str.ofString "cpy313.netrc") 2254) (Value.ref 119))) #[]) ::
  (nat_lit 121, Obj.mk (Value.type "tuple") none (Data.seq #[]) #[]) ::
  (nat_lit 123, Obj.mk (Value.type "tuple") none (Data.seq #[Value.str (Str.ofString "self") 2297, Value.str (Str.ofString "token") 2298]) #[]) ::
  (nat_lit 124, Obj.mk (Value.type "tuple") none (Data.seq #[]) #[]) ::
  (nat_lit 126, Obj.mk (Value.type "code") none (Data.fields #[Value.str (Str.ofString "push_token") 2294, Value.str (Str.ofString "_netrclex.push_token") 2295, Value.str (Str.ofString "/claim/cut.py") 2296, Value.int 96 0, Value.int 2 0, Value.int 0 0, Value.int 0 0, Value.int 3 0, Value.ref 121, Value.bool true, Value.int 181 0, Value.ref 122, Value.none, Value.ref 123, Value.ref 124, Value.ref 125, Value.int 2299 0, Value.int 96 0, Value.str (Str.ofString "/claim/cut.py") 2300]) #[]) ::
  (nat_lit 127, Obj.mk (Value.type "function") none (Data.func (fdm 3 3 (Value.str (Str.ofString "cpy313.netrc") 2254) (Value.ref 126))) #[]) ::
  (nat_lit 128, Obj.mk (Value.type "tuple") none (Data.seq #[Value.str (Str.ofString "instream") 2302, Value.str (Str.ofString "lineno") 2303, Value.str (Str.ofString "pushback") 2304, Value.str (Str.ofString "whitespace") 2305]) #[]) ::
  (nat_lit 129, Obj.mk (Value.type "dict") none (Data.dict #[DictEntry.mk (PyData.keyHash P (Str.ofString "__module__")) (Value.str (Str.ofString "__module__") 2263) (Value.str (Str.ofString "cpy313.netrc") 2254), DictEntry.mk (PyData.keyHash P (Str.ofString "__firstlineno__")) (Value.str (Str.ofString "__firstlineno__") 2267) (Value.int 55 2266), DictEntry.mk (PyData.keyHash P (Str.ofString "__init__")) (Value.str (Str.ofString "__init__") 2275) (Value.ref 106), DictEntry.mk (PyData.keyHash P (Str.ofString "_read_char")) (Value.str (Str.ofString "_read_char") 2283) (Value.ref 113), DictEntry.mk (PyData.keyHash P (Str.ofString "get_token")) (Value.str (Str.ofString "get_token") 2293) (Value.ref 120), DictEntry.mk (PyData.keyHash P (Str.ofString "push_token")) (Value.str (Str.ofString "push_token") 2301) (Value.ref 127), DictEntry.mk (PyData.keyHash P (Str.ofString "__static_attributes__")) (Value.str (Str.ofString "__static_attributes__") 2306) (Value.ref 128), DictEntry.mk (PyData.keyHash P (Str.ofString "__dict__")) (Value.str (Str.ofString "__dict__") 2308) (Value.ref 131), DictEntry.mk (PyData.keyHash P (Str.ofString "__weakref__")) (Value.str (Str.ofString "__weakref__") 2310) (Value.ref 132), DictEntry.mk (PyData.keyHash P (Str.ofString "__doc__")) (Value.str (Str.ofString "__doc__") 2311) Value.none] 4) #[]) ::
  (nat_lit 130, Obj.mk (Value.type "type") none (Data.cls (ClassData.mk (Str.ofString "_netrclex") [Value.type "object"] [Value.ref 130, Value.type "object"] 129 (Str.ofString "_netrclex") true [] [] false none false)) #[none, none, some (Value.str (Str.ofString "_netrclex") 2256), some (Value.str (Str.ofString "_netrclex") 2264), some (Value.builtin "object.__new__"), some (Value.bool true)]) ::
  (nat_lit 131, Obj.mk (Value.type "getset_descriptor") none (Data.fields #[Value.str (Str.ofString "__dict__") 2307, Value.ref 130, Value.builtin "function.__dict__", Value.builtin "function.__dict__#set"]) #[]) ::
  (nat_lit 132, Obj.mk (Value.type "getset_descriptor") none (Data.fields #[Value.str (Str.ofString "__weakref__") 2309, Value.ref 130, Value.builtin "ExceptionGroup.__weakref__", Value.none]) #[]) ::
  (nat_lit 135, Obj.mk (Value.type "tuple") none (Data.seq #[]) #[]) ::
  (nat_lit 137, Obj.mk (Value.type "tuple") none (Data.seq #[Value.str (Str.ofString "text") 2319, Value.str (Str.ofString "stream") 2320]) #[]) ::
  (nat_lit 138, Obj.mk (Value.type "tuple") none (Data.seq #[Value.str (Str.ofString "signs") 2321]) #[]) ::
  (nat_lit 140, Obj.mk (Value.type "code") none (Data.fields #[Value.str (Str.ofString "_law_lexer") 2316, Value.str (Str.ofString "_law_lexer") 2317, Value.str (Str.ofString "/claim/cut.py") 2318, Value.int 99 0, Value.int 1 0, Value.int 0 0, Value.int 0 0, Value.int 3 0, Value.ref 135, Value.bool true, Value.int 181 0, Value.ref 136, Value.none, Value.ref 137, Value.ref 138, Value.ref 139, Value.int 2322 0, Value.int 99 0, Value.str (Str.ofString "/claim/cut.py") 2323]) #[]) ::
  (nat_lit 141, Obj.mk (Value.type "function") none (Data.func (fd 11 3 (Value.str (Str.ofString "law_rw0107_01") 2314) (Value.ref 140))) #[]) ::
  (nat_lit 142, Obj.mk (Value.type "tuple") none (Data.seq #[]) #[]) ::
  (nat_lit 145, Obj.mk (Value.type "code") none (Data.fields #[Value.str (Str.ofString "_law_written") 2325, Value.str (Str.ofString "_law_written") 2326, Value.str (Str.ofString "/claim/cut.py") 2327, Value.int 104 0, Value.int 2 0, Value.int 0 0, Value.int 0 0, Value.int 3 0, Value.ref 142, Value.bool true, Value.int 181 0, Value.ref 143, Value.none, Value.none, Value.none, Value.ref 144, Value.int 2328 0, Value.int 104 0, Value.str (Str.ofString "/claim/cut.py") 2329]) #[]) ::
  (nat_lit 146, Obj.mk (Value.type "function") none (Data.func (fd 12 3 (Value.str (Str.ofString "law_rw0107_01") 2314) (Value.ref 145))) #[]) ::
  (nat_lit 147, Obj.mk (Value.type "tuple") none (Data.seq #[]) #[]) ::
  (nat_lit 150, Obj.mk (Value.type "code") none (Data.fields #[Value.str (Str.ofString "_law_prepared") 2331, Value.str (Str.ofString "_law_prepared") 2332, Value.str (Str.ofString "/claim/cut.py") 2333, Value.int 109 0, Value.int 1 0, Value.int 0 0, Value.int 0 0, Value.int 3 0, Value.ref 147, Value.bool true, Value.int 181 0, Value.ref 148, Value.none, Value.none, Value.none, Value.ref 149, Value.int 2334 0, Value.int 109 0, Value.str (Str.ofString "/claim/cut.py") 2335]) #[]) ::
  (nat_lit 151, Obj.mk (Value.type "function") none (Data.func (fd 13 3 (Value.str (Str.ofString "law_rw0107_01") 2314) (Value.ref 150))) #[]) ::
  (nat_lit 152, Obj.mk (Value.type "tuple") none (Data.seq #[]) #[]) ::
  (nat_lit 154, Obj.mk (Value.type "tuple") none (Data.seq #[Value.str (Str.ofString "form") 2340, Value.str (Str.ofString "codes") 2341]) #[]) ::
  (nat_lit 155, Obj.mk (Value.type "tuple") none (Data.seq #[]) #[]) ::
  (nat_lit 157, Obj.mk (Value.type "code") none (Data.fields #[Value.str (Str.ofString "_law_unseen") 2337, Value.str (Str.ofString "_law_unseen") 2338, Value.str (Str.ofString "/claim/cut.py") 2339, Value.int 114 0, Value.int 1 0, Value.int 0 0, Value.int 0 0, Value.int 3 0, Value.ref 152, Value.bool true, Value.int 181 0, Value.ref 153, Value.none, Value.ref 154, Value.ref 155, Value.ref 156, Value.int 2342 0, Value.int 114 0, Value.str (Str.ofString "/claim/cut.py") 2343]) #[]) ::
  (nat_lit 158, Obj.mk (Value.type "function") none (Data.func (fd 14 3 (Value.str (Str.ofString "law_rw0107_01") 2314) (Value.ref 157))) #[]) ::
  (nat_lit 159, Obj.mk (Value.type "tuple") none (Data.seq #[]) #[]) ::
  (nat_lit 161, Obj.mk (Value.type "tuple") none (Data.seq #[Value.str (Str.ofString "form") 2348, Value.str (Str.ofString "codes") 2349]) #[]) ::
  (nat_lit 162, Obj.mk (Value.type "tuple") none (Data.seq #[]) #[]) ::
  (nat_lit 164, Obj.mk (Value.type "code") none (Data.fields #[Value.str (Str.ofString "_law_stray") 2345, Value.str (Str.ofString "_law_stray") 2346, Value.str (Str.ofString "/claim/cut.py") 2347, Value.int 117 0, Value.int 1 0, Value.int 0 0, Value.int 0 0, Value.int 3 0, Value.ref 159, Value.bool true, Value.int 181 0, Value.ref 160, Value.none, Value.ref 161, Value.ref 162, Value.ref 163, Value.int 2350 0, Value.int 117 0, Value.str (Str.ofString "/claim/cut.py") 2351]) #[]) ::
  (nat_lit 165, Obj.mk (Value.type "function") none (Data.func (fd 15 3 (Value.str (Str.ofString "law_rw0107_01") 2314) (Value.ref 164))) #[]) ::
  (nat_lit 166, Obj.mk (Value.type "tuple") none (Data.seq #[]) #[]) ::
  (nat_lit 168, Obj.mk (Value.type "tuple") none (Data.seq #[Value.str (Str.ofString "letter") 2356, Value.str (Str.ofString "form") 2357, Value.str (Str.ofString "way") 2358]) #[]) ::
  (nat_lit 169, Obj.mk (Value.type "tuple") none (Data.seq #[]) #[]) ::
  (nat_lit 171, Obj.mk (Value.type "code") none (Data.fields #[Value.str (Str.ofString "_law_letter") 2353, Value.str (Str.ofString "_law_letter") 2354, Value.str (Str.ofString "/claim/cut.py") 2355, Value.int 120 0, Value.int 2 0, Value.int 0 0, Value.int 0 0, Value.int 3 0, Value.ref 166, Value.bool true, Value.int 181 0, Value.ref 167, Value.none, Value.ref 168, Value.ref 169, Value.ref 170, Value.int 2359 0, Value.int 120 0, Value.str (Str.ofString "/claim/cut.py") 2360]) #[]) ::
  (nat_lit 172, Obj.mk (Value.type "function") none (Data.func (fd 16 3 (Value.str (Str.ofString "law_rw0107_01") 2314) (Value.ref 171))) #[]) ::
  (nat_lit 173, Obj.mk (Value.type "tuple") none (Data.seq #[]) #[]) ::
  (nat_lit 176, Obj.mk (Value.type "code") none (Data.fields #[Value.str (Str.ofString "_law_words") 2362, Value.str (Str.ofString "_law_words") 2363, Value.str (Str.ofString "/claim/cut.py") 2364, Value.int 125 0, Value.int 2 0, Value.int 0 0, Value.int 0 0, Value.int 3 0, Value.ref 173, Value.bool true, Value.int 181 0, Value.ref 174, Value.none, Value.none, Value.none, Value.ref 175, Value.int 2365 0, Value.int 125 0, Value.str (Str.ofString "/claim/cut.py") 2366]) #[]) ::
  (nat_lit 177, Obj.mk (Value.type "function") none (Data.func (fd 17 3 (Value.str (Str.ofString "law_rw0107_01") 2314) (Value.ref 176))) #[]) ::
  (nat_lit 178, Obj.mk (Value.type "tuple") none (Data.seq #[]) #[]) ::
  (nat_lit 180, Obj.mk (Value.type "tuple") none (Data.seq #[Value.str (Str.ofString "first") 2371, Value.str (Str.ofString "letter") 2372, Value.str (Str.ofString "form") 2373, Value.str (Str.ofString "both") 2374, Value.str (Str.ofString "signs") 2375]) #[]) ::
  (nat_lit 181, Obj.mk (Value.type "tuple") none (Data.seq #[]) #[]) ::
  (nat_lit 183, Obj.mk (Value.type "code") none (Data.fields #[Value.str (Str.ofString "_law_image") 2368, Value.str (Str.ofString "_law_image") 2369, Value.str (Str.ofString "/claim/cut.py") 2370, Value.int 141 0, Value.int 3 0, Value.int 0 0, Value.int 0 0, Value.int 3 0, Value.ref 178, Value.bool true, Value.int 181 0, Value.ref 179, Value.none, Value.ref 180, Value.ref 181, Value.ref 182, Value.int 2376 0, Value.int 141 0, Value.str (Str.ofString "/claim/cut.py") 2377]) #[]) ::
  (nat_lit 184, Obj.mk (Value.type "function") none (Data.func (fd 18 3 (Value.str (Str.ofString "law_rw0107_01") 2314) (Value.ref 183))) #[]) ::
  (nat_lit 185, Obj.mk (Value.type "tuple") none (Data.seq #[]) #[]) ::
  (nat_lit 188, Obj.mk (Value.type "code") none (Data.fields #[Value.str (Str.ofString "_law_closed") 2379, Value.str (Str.ofString "_law_closed") 2380, Value.str (Str.ofString "/claim/cut.py") 2381, Value.int 151 0, Value.int 1 0, Value.int 0 0, Value.int 0 0, Value.int 3 0, Value.ref 185, Value.bool true, Value.int 181 0, Value.ref 186, Value.none, Value.none, Value.none, Value.ref 187, Value.int 2382 0, Value.int 151 0, Value.str (Str.ofString "/claim/cut.py") 2383]) #[]) ::
  (nat_lit 189, Obj.mk (Value.type "function") none (Data.func (fd 19 3 (Value.str (Str.ofString "law_rw0107_01") 2314) (Value.ref 188))) #[]) ::
  (nat_lit 190, Obj.mk (Value.type "tuple") none (Data.seq #[]) #[]) ::
  (nat_lit 193, Obj.mk (Value.type "code") none (Data.fields #[Value.str (Str.ofString "_law_seen") 2385, Value.str (Str.ofString "_law_seen") 2386, Value.str (Str.ofString "/claim/cut.py") 2387, Value.int 154 0, Value.int 2 0, Value.int 0 0, Value.int 0 0, Value.int 3 0, Value.ref 190, Value.bool true, Value.int 181 0, Value.ref 191, Value.none, Value.none, Value.none, Value.ref 192, Value.int 2388 0, Value.int 154 0, Value.str (Str.ofString "/claim/cut.py") 2389]) #[]) ::
  (nat_lit 194, Obj.mk (Value.type "function") none (Data.func (fd 20 3 (Value.str (Str.ofString "law_rw0107_01") 2314) (Value.ref 193))) #[]) ::
  (nat_lit 195, Obj.mk (Value.type "tuple") none (Data.seq #[]) #[]) ::
  (nat_lit 198, Obj.mk (Value.type "code") none (Data.fields #[Value.str (Str.ofString "law") 2391, Value.str (Str.ofString "law") 2392, Value.str (Str.ofString "/claim/cut.py") 2393, Value.int 169 0, Value.int 1 0, Value.int 0 0, Value.int 0 0, Value.int 3 0, Value.ref 195, Value.bool true, Value.int 181 0, Value.ref 196, Value.none, Value.none, Value.none, Value.ref 197, Value.int 2394 0, Value.int 169 0, Value.str (Str.ofString "/claim/cut.py") 2395]) #[]) ::
  (nat_lit 199, Obj.mk (Value.type "function") none (Data.func (fd 21 3 (Value.str (Str.ofString "law_rw0107_01") 2314) (Value.ref 198))) #[]) :: []

noncomputable def q : Program := { PySem.Challenge.pw_rw0107_01 with main := { PySem.Challenge.pw_rw0107_01.main with body := PySem.Challenge.pw_rw0107_01.main.body.drop 21 } }

noncomputable def loose : List Str := [Str.ofString "b1_set", Str.ofString "in_table_b1", Str.ofString "b3_exceptions", Str.ofString "map_table_b3", Str.ofString "rgb_to_hls", Str.ofString "rgb_to_hsv", Str.ofString "_netrclex", Str.ofString "_law_lexer", Str.ofString "_law_written", Str.ofString "_law_prepared", Str.ofString "_law_unseen", Str.ofString "_law_stray", Str.ofString "_law_letter", Str.ofString "_law_words", Str.ofString "_law_image", Str.ofString "_law_closed", Str.ofString "_law_seen"]
end
section

noncomputable abbrev pr : Program := PySem.Challenge.rw_rw0107_01.row.prog

/-- what a call of the def at address f upon vs gives back: a value of which P holds; all that stood stands. j: how much room the def's own calls want -/
noncomputable def Claim (j : Nat) (f : Addr) (vs : List Value) (P : Value → Prop) : Prop :=
  ∀ (w : World) (mean : ExcName → Option Value) (mg mb : Str → Option Value) (news : List (Addr × Obj))
    (dp un : Nat) (gd : Option (List Code)) (cn : Str) (cs : Scope) (a : Addr) (ccd : Value) (cl : List (Str × Addr)) (outer : List Env)
    (A₀ : Around) (base h₀ : Heap) (L : Addr) (m : Str → Option Value) (s : Shared) (Q E : Value → Shared → Prop),
    Below A₀ base outer h₀ → Fr h₀ L s.heap m → (K w.params).In h₀ → News h₀ L s.heap news → Top q loose mean mg mb h₀ → cs.kind = .function →
    dp + 20 + j < recursionLimit → un + 100 + 10 * j < cLine →
    (∀ v h' tk', P v → Fr h₀ L h' m → News h₀ L h' news → Q v { s with heap := h', toks := tk' }) →
    wpAny (model PySem.Challenge.rw_rw0107_01.row.prog w) (ktrTop dp un gd cn cs L a ccd cl outer) (call (.ref f) vs) Q E s
theorem Claim.use {j : Nat} {f : Addr} {vs : List Value} {P : Value → Prop} (C : Claim j f vs P) {w : World} {mean : ExcName → Option Value} {mg mb : Str → Option Value} {news : List (Addr × Obj)}
    {dp un : Nat} {gd : Option (List Code)} {cn : Str} {cs : Scope} {a : Addr} {ccd : Value} {cl : List (Str × Addr)} {outer : List Env}
    {A₀ : Around} {base h₀ : Heap} {L : Addr} {m : Str → Option Value} {s : Shared} {Q E : Value → Shared → Prop}
    (B : Below A₀ base outer h₀) (F : Fr h₀ L s.heap m) (X : (K w.params).In h₀) (N : News h₀ L s.heap news) (T : Top q loose mean mg mb h₀) (hk : cs.kind = .function)
    (hd : dp + 20 + j < recursionLimit) (hu : un + 100 + 10 * j < cLine)
    (ret : ∀ v h' tk', P v → Fr h₀ L h' m → News h₀ L h' news → Q v { s with heap := h', toks := tk' }) :
    wpAny (model PySem.Challenge.rw_rw0107_01.row.prog w) (ktrTop dp un gd cn cs L a ccd cl outer) (call (.ref f) vs) Q E s :=
  C _ _ _ _ _ _ _ _ _ _ _ _ _ _ _ _ _ _ _ _ _ _ B F X N T hk hd hu ret

theorem ne_add {L i j : Nat} (h : Nat.beq i j = false) : ¬ L + i = L + j := fun e => Nat.ne_of_beq_eq_false h (Nat.add_left_cancel e)
noncomputable def Hlt (p : Prop) : Prop := p
theorem hlt {p : Prop} (h : Hlt p) : p := h
/-- marks that tell where a walk is to stop -/
noncomputable def StopRet : Prop := True
noncomputable def StopLen (n : Nat) : Prop := True ∧ n = n
noncomputable def StopCall (f : Addr) : Prop := f = f ∧ True
theorem stop_ret {M : Model} {A : Around} {x : Stmt} {r : Option PySem.Expr} {p : Pos} {env : Env} {Q : Flow → Shared → Prop} {E : Value → Shared → Prop} {s : Shared} (_ : StopRet) (k : Hlt (wpAny M A (execs [x, .Return r p] env) Q E s)) : wpAny M A (execs [x, .Return r p] env) Q E s := k
theorem stop_len {M : Model} {A : Around} {n : Nat} {b : List Stmt} {env : Env} {Q : Flow → Shared → Prop} {E : Value → Shared → Prop} {s : Shared} (_ : StopLen n) (_ : b.length = n) (k : Hlt (wpAny M A (execs b env) Q E s)) : wpAny M A (execs b env) Q E s := k
theorem stop_call {M : Model} {A : Around} {f : Addr} {vs : List Value} {Q : Value → Shared → Prop} {E : Value → Shared → Prop} {s : Shared} (_ : StopCall f) (k : Hlt (wpAny M A (call (.ref f) vs) Q E s)) : wpAny M A (call (.ref f) vs) Q E s := k
theorem sub_nil {α : Type} {B : List α} : ∀ q ∈ ([] : List α), q ∈ B := fun _ h => nomatch h
theorem sub_cons {α : Type} {x : α} {A B : List α} (h : x ∈ B) (k : ∀ q ∈ A, q ∈ B) : ∀ q ∈ x :: A, q ∈ B := fun q hq => by
  rcases List.mem_cons.mp hq with e | hq
  · rw [e]; exact h
  · exact k q hq
theorem sub_app {α : Type} {A A' B : List α} (h : ∀ q ∈ A, q ∈ B) (k : ∀ q ∈ A', q ∈ B) : ∀ q ∈ A ++ A', q ∈ B := fun q hq => by
  rcases List.mem_append.mp hq with hq | hq
  · exact h q hq
  · exact k q hq
/-- what is still to do, by a name -/
noncomputable def Frm {α : Type} (Q Q' : α → Shared → Prop) : Prop := ∀ v s, Q v s → Q' v s
theorem Frm.use {α : Type} {Q Q' : α → Shared → Prop} (k : Frm Q Q') {v : α} {s : Shared} (h : Q v s) : Q' v s := k v s h
theorem wp_frame {M : Model} {A : Around} {α : Type} {t : Sem α} {Q : α → Shared → Prop} {E : Value → Shared → Prop} {s : Shared} (H : ∀ Q', Frm Q Q' → wpAny M A t Q' (fun _ _ => False) s) : wpAny M A t Q E s :=
  wpAny_mono (H Q fun _ _ x => x) (fun _ _ x => x) (fun _ _ x => x.elim)
theorem wp_tok {M : Model} {A : Around} {α : Type} {t : Sem α} {Q : α → Shared → Prop} {E : Value → Shared → Prop} {h : Heap} {g : Array GenState} {d : Drawn} {tk : Nat} {o : OsState} (H : ∀ tk', wpAny M A t Q E ⟨h, g, d, tk', o⟩) : wpAny M A t Q E ⟨h, g, d, tk, o⟩ := H tk
/-- the value is this text | int | bool, whatever its token -/
noncomputable def IsS (x : Str) (v : Value) : Prop := ∃ u, v = .str x u
noncomputable def IsI (i : Int) (v : Value) : Prop := ∃ u, v = .int i u
theorem Claim.useS {j : Nat} {f : Addr} {vs : List Value} {x : Str} (C : Claim j f vs (IsS x)) {w : World} {mean : ExcName → Option Value} {mg mb : Str → Option Value} {news : List (Addr × Obj)}
    {dp un : Nat} {gd : Option (List Code)} {cn : Str} {cs : Scope} {a : Addr} {ccd : Value} {cl : List (Str × Addr)} {outer : List Env}
    {A₀ : Around} {base h₀ : Heap} {L : Addr} {m : Str → Option Value} {s : Shared} {Q E : Value → Shared → Prop}
    (B : Below A₀ base outer h₀) (F : Fr h₀ L s.heap m) (X : (K w.params).In h₀) (N : News h₀ L s.heap news) (T : Top q loose mean mg mb h₀) (hk : cs.kind = .function)
    (hd : dp + 20 + j < recursionLimit) (hu : un + 100 + 10 * j < cLine)
    (ret : ∀ u h' tk', Fr h₀ L h' m → News h₀ L h' news → Q (.str x u) { s with heap := h', toks := tk' }) :
    wpAny (model PySem.Challenge.rw_rw0107_01.row.prog w) (ktrTop dp un gd cn cs L a ccd cl outer) (call (.ref f) vs) Q E s :=
  C.use B F X N T hk hd hu fun _ h' tk' ⟨u, e⟩ F' N' => e ▸ ret u h' tk' F' N'
theorem isS {x y : Str} {u : Tok} (h : y = x) : IsS x (.str y u) := ⟨u, by rw [h]⟩
theorem isI {x y : Int} {u : Tok} (h : y = x) : IsI x (.int y u) := ⟨u, by rw [h]⟩
theorem news_drop {h₀ h : Heap} {L : Addr} {news news' : List (Addr × Obj)} (N : News h₀ L h news') (hs : ∀ p ∈ news, p ∈ news') : News h₀ L h news := fun p hp => N p (hs p hp)


/-! ### the two tables -/
noncomputable def b1List : List Int := [173, 847, 6150, 6155, 6156, 6157, 8203, 8204, 8205, 8288, 65279, 65024, 65025, 65026, 65027, 65028, 65029, 65030, 65031, 65032, 65033, 65034, 65035, 65036, 65037, 65038, 65039]
noncomputable def b1P : List (Int × Nat) := [(65024, 205), (65025, 206), (65026, 207), (65027, 208), (65028, 209), (65029, 210), (6150, 191), (65030, 211), (65031, 212), (65032, 213), (65033, 214), (6155, 192), (6156, 193), (6157, 194), (8203, 195), (8204, 196), (8205, 197), (65034, 215), (65035, 216), (65036, 217), (65037, 218), (65038, 219), (65039, 220), (173, 189), (847, 190), (8288, 198), (65279, 199)]
noncomputable abbrev b1F (p : Int × Nat) : Int × Value := (p.1, .int p.1 p.2)
theorem b1_hash : ∀ p ∈ b1P, hashInt p.1 = p.1 ∧ b1List.contains p.1 = true := by
  have h : (b1P.all fun p => decide (hashInt p.1 = p.1 ∧ b1List.contains p.1 = true)) = true := by decide +kernel
  exact fun p hp => of_decide_eq_true (List.all_eq_true.mp h p hp)
theorem b1_back : ∀ k ∈ b1List, ∃ p ∈ b1P, p.1 = k := by
  have h : (b1List.all fun k => b1P.any fun p => decide (p.1 = k)) = true := by decide +kernel
  intro k hk
  obtain ⟨p, hp, e⟩ := List.any_eq_true.mp (List.all_eq_true.mp h k hk)
  exact ⟨p, hp, of_decide_eq_true e⟩
theorem b1_in {w : World} {A : Around} {E : Value → Shared → Prop} {s : Shared} {k : Int} {t : Tok} {Q : Value → Shared → Prop} (X : (K w.params).In s.heap) (h : Q (.bool (b1List.contains k)) { s with toks := s.toks + 1 }) :
    wpAny (model PySem.Challenge.rw_rw0107_01.row.prog w) A (compareOp .In (.int k t) (.ref 22)) Q E s := by
  refine wpAny_inSet_of (knd := intKind _ w) (S := fun k => b1List.contains k) (n := 27) (intKind_is _ w k t) rfl ?_ h
  refine ⟨_, _, _, _, X 22 _ rfl, ⟨rfl, rfl, rfl⟩, rfl, ?_, ?_, by decide, by rfl, rfl⟩
  · intro e he
    obtain ⟨p, hp, rfl⟩ := List.mem_map.mp (show e ∈ b1P.map b1F from he)
    exact ⟨⟨_, intKind_is _ w _ _, (b1_hash p hp).1.symm⟩, rfl⟩
  · intro k
    show b1List.contains k = true ↔ ∃ e, e ∈ b1P.map b1F ∧ Value.isInt k e.2 = true
    constructor
    · intro hk
      obtain ⟨p, hp, rfl⟩ := b1_back k (List.contains_iff_mem.mp hk)
      exact ⟨_, List.mem_map.mpr ⟨p, hp, rfl⟩, beq_self_eq_true _⟩
    · rintro ⟨e, he, hk⟩
      obtain ⟨p, hp, rfl⟩ := List.mem_map.mp he
      exact eq_of_beq hk ▸ (b1_hash p hp).2

/-- the entries bear these pairs, whatever their tokens -/
inductive EntsOf : List DictEntry → List (Int × Str) → Prop
  | nil : EntsOf [] []
  | cons {e : DictEntry} {x : Int × Str} {l : List DictEntry} {ps : List (Int × Str)} (h : ∃ t u, e = ⟨x.1, .int x.1 t, .str x.2 u⟩) (r : EntsOf l ps) : EntsOf (e :: l) (x :: ps)
theorem ents_from (l : List (Int × Str)) : ∀ t, EntsOf (b3EntriesFrom t l) l := by
  induction l with
  | nil => intro t; exact .nil
  | cons x l ih => intro t; obtain ⟨k, y⟩ := x; exact .cons ⟨t, t + 1, rfl⟩ (ih _)
theorem ents_end (l : List (Int × Str)) : ∀ t, EntsOf (b3EntriesEnd t l) l := by
  induction l with
  | nil => intro t; exact .nil
  | cons x l ih => intro t; obtain ⟨k, y⟩ := x; exact .cons ⟨t, t + 1, rfl⟩ (ih _)
theorem ents_append {a b : List DictEntry} {p r : List (Int × Str)} (h : EntsOf a p) (k : EntsOf b r) : EntsOf (a ++ b) (p ++ r) := by
  induction h with
  | nil => exact k
  | cons e _ ih => exact .cons e ih
theorem ents_b3 : EntsOf b3Entries b3Pairs := by
  have := ents_append (ents_from (b3Pairs.take 646) 256) (ents_end (b3Pairs.drop 646) 2194)
  rwa [List.take_append_drop] at this
theorem b3_keys {l : List DictEntry} {ps : List (Int × Str)} (h : EntsOf l ps) (hh : ∀ x ∈ ps, hashInt x.1 = x.1) : ∀ e ∈ l, ∃ k tk, e.key = .int k tk ∧ e.hash = hashInt k := by
  induction h with
  | nil => intro e he; cases he
  | cons e0 _ ih =>
    intro e he
    rcases List.mem_cons.mp he with rfl | he
    · obtain ⟨t, u, rfl⟩ := e0
      exact ⟨_, t, rfl, (hh _ (.head _)).symm⟩
    · exact ih (fun x hx => hh x (.tail _ hx)) e he
noncomputable def b3At (c : Int) : Option Str := (b3Pairs.find? fun x => decide (c = x.1)).map (·.2)
theorem b3_find {prog : Program} {w : World} (c : Int) {l : List DictEntry} {ps : List (Int × Str)} (h : EntsOf l ps) : ∃ u, findBy (intKind prog w).is l.toArray c = ((ps.find? fun x => decide (c = x.1)).map fun x => Value.str x.2 u) := by
  induction h with
  | nil => exact ⟨0, rfl⟩
  | @cons e x l ps e0 _ ih =>
    obtain ⟨t, v, rfl⟩ := e0
    obtain ⟨k, s⟩ := x
    by_cases h : c = k
    · subst h
      refine ⟨v, ?_⟩
      unfold findBy
      rw [List.find?_toArray]
      simp [intKind, Value.isInt]
    · obtain ⟨u, hu⟩ := ih
      refine ⟨u, ?_⟩
      unfold findBy at hu ⊢
      have h1 : (k == c) = false := beq_eq_false_iff_ne.mpr fun e => h e.symm
      have h2 : decide (c = k) = false := decide_eq_false h
      simpa [List.find?_cons, intKind, Value.isInt, h1, h2] using hu
theorem b3_hashes : ∀ x ∈ b3Pairs, hashInt x.1 = x.1 := by
  have : (b3Pairs.all fun x => decide (hashInt x.1 = x.1)) = true := by decide +kernel
  intro x hx
  exact of_decide_eq_true (List.all_eq_true.mp this x hx)
theorem b3_map {prog : Program} {w : World} {h : Heap} (X : (K w.params).In h) (c : Int) : ∃ u f, h.MapOf (intKind prog w) 33 f ∧ f c = (b3At c).map fun x => Value.str x u := by
  obtain ⟨u, hu⟩ := b3_find (prog := prog) (w := w) c ents_b3
  refine ⟨u, _, ⟨b3Obj, _, _, X 33 _ rfl, ⟨rfl, rfl, rfl⟩, rfl, ?_, fun k => rfl⟩, ?_⟩
  · intro e he
    obtain ⟨k, tk, h1, h2⟩ := b3_keys ents_b3 b3_hashes e (by simpa using he)
    exact ⟨k, by rw [h1]; exact intKind_is _ w k tk, h2⟩
  · rw [hu]; unfold b3At; cases (b3Pairs.find? fun x => decide (c = x.1)) <;> rfl
end
local macro_rules | `(tactic| k_ne) => `(tactic| (refine neN ?_; (try dsimp only); first | exact ne_add rfl | lia))
local macro_rules | `(tactic| walk_at "mine:mem") => `(tactic| first | assumption | (with_reducible exact List.mem_cons_self) | (with_reducible refine List.mem_cons_of_mem _ ?_; walk_at "mine:mem") | (with_reducible refine List.mem_append_left _ ?_; walk_at "mine:mem") | (with_reducible refine List.mem_append_right _ ?_; walk_at "mine:mem"))
local macro_rules | `(tactic| walk_at "mine:sub") => `(tactic| first | (with_reducible refine sub_cons ?_ ?_; (walk_at "mine:mem"); walk_at "mine:sub") | (with_reducible refine sub_app ?_ ?_; (walk_at "mine:sub"); (walk_at "mine:sub")) | (with_reducible exact sub_nil) | (intro _ hq9; walk_at "mine:mem"))
local macro_rules | `(tactic| walk_at "mine:let") => `(tactic| (with_reducible (first | show (let V9 : Env := _; let A9 : Around := _; wpAny _ A9 (exec _ V9) _ _ _) | show (let V9 : Env := _; let A9 : Around := _; wpAny _ A9 (execs _ V9) _ _ _)); intro V9 A9))
local macro_rules | `(tactic| walk_at "mine:claim") => `(tactic| ((with_reducible first | exact t_b3 _ _ | exact t_unseen _ _ | exact t_stray _ _ | refine t_letter _ _ _ _ ?_ | refine t_written _ _ _ _ ?_ | refine t_image _ _ _ _ _ _ ?_ ?_ | refine t_prepared _ _ ?_) <;> first | assumption | lia))
local macro_rules | `(tactic| walk_at "mine:stop") => `(tactic| first | refine stop_ret (by assumption) ?_ | (rename StopLen _ => z9; k_dflt (refine stop_len z9 (by rfl) ?_)))
local macro_rules | `(tactic| walk_at "execs cons") => `(tactic| (k_here; walk_at "mine:stop"))
local macro_rules | `(tactic| walk_at "call ref") => `(tactic| (k_here; refine stop_call (by assumption) ?_))
local macro_rules | `(tactic| walk_at "compareOp In int ref") => `(tactic| (k_here; refine b1_in (by k_in) ?_; k_whole))
local macro_rules | `(tactic| walk_at "getMethod ref") => `(tactic| (k_here; (with_reducible show wpAny _ _ (getMethod (Value.ref 33) (Str.ofString "get") _) _ _ _); refine b3_get_method (by k_in) ?_; k_whole))
local macro_rules | `(tactic| walk_at "call builtin:dict.get") => `(tactic| (k_here; refine b3_get (by k_in) ?_ ?_; (all_goals k_whole); (all_goals intros)))
local macro_rules | `(tactic| walk_at "call builtin:str.lower") => `(tactic| (k_here; refine one_lower ?_; k_whole; intros))
section
theorem start_F1 : True := by w_top off; exact trivial

theorem b3_get_method {w : World} {A : Around} {E : Value → Shared → Prop} {s : Shared} {pl : Sem Bool} {Q : Value × List Value → Shared → Prop} (X : (K w.params).In s.heap) (h : Q (.builtin "dict.get", [.ref 33]) s) :
    wpAny (model PySem.Challenge.rw_rw0107_01.row.prog w) A (getMethod (.ref 33) "get" pl) Q E s :=
  getMethod_builtin ⟨b3Obj, X 33 _ rfl, rfl⟩ PySem.F.plainAttrs_dict PySem.F.slot_dict_get PySem.F.type_dict_get (fun b e => by injection e with e; subst e; exact ⟨b3Obj, X 33 _ rfl, rfl⟩) h
theorem b3_get {w : World} {A : Around} {E : Value → Shared → Prop} {s : Shared} {c : Int} {t : Tok} {Q : Value → Shared → Prop} (X : (K w.params).In s.heap)
    (h : ∀ x u, b3At c = some x → Q (.str x u) { s with toks := s.toks + 1 }) (h' : b3At c = none → Q .none { s with toks := s.toks + 1 }) :
    wpAny (model PySem.Challenge.rw_rw0107_01.row.prog w) A (call (.builtin "dict.get") [.ref 33, .int c t]) Q E s := by
  obtain ⟨u, f, hm, hf⟩ := b3_map (prog := PySem.Challenge.rw_rw0107_01.row.prog) X c
  refine call_meetsIn PySem.F.slot_dict_get ⟨b3Obj, X 33 _ rfl, rfl⟩ PySem.F.entry_dict_get (PySem.F.args_dict_get_2 _ _) (meets_dict_get (intKind _ w) 33 (intKind_is _ w c t) rfl) ⟨f, hm, ?_⟩
  rw [hf]
  cases hb : b3At c with
  | none => exact h' hb
  | some x => exact h x u hb
theorem one_lower {w : World} {A : Around} {E : Value → Shared → Prop} {s : Shared} {c : Nat} {t : Tok} {Q : Value → Shared → Prop} (h : ∀ u k, Q (.str (Txt.lower ⟨#[c]⟩) u) { s with toks := k }) :
    wpAny (model PySem.Challenge.rw_rw0107_01.row.prog w) A (call (.builtin "str.lower") [.str ⟨#[c]⟩ t]) Q E s :=
  SCL.lower (by show (1 : Nat) ≤ _; lia) fun _ => h _ _


set_option maxHeartbeats 0 in
theorem t_b1 (c : Nat) (t : Tok) : Claim 0 32 [.str ⟨#[c]⟩ t] (fun v => v = .bool (b1List.contains (c : Int))) := by
  dsimp only [Claim]; k_fill
  intro w mean mg mb news dp un gd cn cs a ccd cl outer A₀ base h₀ L m s Q E B F X N T hk hd hu hret
  refine wpAny_call ?_
  k_dflt cell_enter
  (try walk_at "mine:let")
  k_steps
  all_goals refine hret _ _ _ ?_ (by k_asm) (by k_asm)
  all_goals rfl
/-- what map_table_b3 makes of a sign -/
noncomputable def b3F (c : Nat) : Str := match b3At (c : Int) with | some x => x | none => Txt.lower ⟨#[c]⟩
set_option maxHeartbeats 0 in
theorem t_b3 (c : Nat) (t : Tok) : Claim 0 78 [.str ⟨#[c]⟩ t] (IsS (b3F c)) := by
  dsimp only [Claim]; k_fill
  intro w mean mg mb news dp un gd cn cs a ccd cl outer A₀ base h₀ L m s Q E B F X N T hk hd hu hret
  refine wpAny_call ?_
  k_dflt cell_enter
  (try walk_at "mine:let")
  k_steps
  all_goals refine hret _ _ _ ?_ (by k_asm) (by k_asm)
  all_goals exact isS (by rename b3At _ = _ => hb; unfold b3F; rw [hb])
end
local macro_rules | `(tactic| walk_at "eval Name") => `(tactic| (k_here; k_dflt (refine nameX_L (by k_asm) (by assumption) ?_; k_whole)))
local macro_rules | `(tactic| k_all) => `(tactic| assumption)
set_option hygiene true
local macro_rules | `(tactic| walk_at "call ref") => `(tactic| (k_here; k_dflt (refine Claim.useS (by walk_at "mine:claim") (by k_asm) (by k_asm) (by k_asm) (by k_asm) (by k_asm) (by first | exact rfl | assumption) (by ktr_room) (by ktr_units) ?_); k_whole; intro u9 h9 tk9 F9 N9))
set_option hygiene false
section
local macro_rules | `(tactic| walk_at "execs cons") => `(tactic| (k_here; first | walk_at "mine:stop" | ((try dsimp only); refine wp_tok ?_; intro tk9; refine wpAny_execs_cons ?_)))
section
theorem start_F2 : True := by w_top off; exact trivial
theorem ints_carried {ys : List Value} {out : List Int} (h : CarriedAll ys (out.map PyData.int)) : IntsAre ys out := by
  have := ints_of_carried h
  simpa using this
local macro_rules | `(tactic| walk_at "binaryOp Add ref ref") => `(tactic| (k_here; k_dflt (refine kmk_add_ints (by k_asm) (by k_asm) (by is_list) (by is_list) (by l_intsC) (by exact ints_carried (by with_reducible assumption)) ?_ (by exact Nat.le_of_ble_eq_true rfl)); intro D' ws' h' F' N' l1 hI'; (try k_lt l1); (try k_sweep)))
theorem getD_range {l : List Int} {lo hi : Int} (h : l.all (fun x => decide (lo ≤ x) && decide (x ≤ hi)) = true) (h0 : lo ≤ 0) (h1 : 0 ≤ hi) (k : Nat) : lo ≤ l.getD k 0 ∧ l.getD k 0 ≤ hi := by
  rw [List.getD_eq_getElem?_getD]
  cases e : l[k]? with
  | none => exact ⟨h0, h1⟩
  | some x =>
    have := List.all_eq_true.mp h x (List.mem_of_getElem? e)
    simpa [Bool.and_eq_true, decide_eq_true_eq] using this
theorem chr_getD {prog : Program} {w : World} {A : Around} {E : Value → Shared → Prop} {s : Shared} (l : List Int) (h : l.all (fun x => decide (0 ≤ x) && decide (x ≤ 1114111)) = true) {l' : List Int} (e : l' = l) {k : Nat} {t : Tok} {Q : Value → Shared → Prop}
    (hQ : Q (.str ⟨#[(l.getD k 0).toNat]⟩ s.toks) { s with toks := s.toks + 1 }) : wpAny (model prog w) A (call (.builtin "chr") [.int (l'.getD k 0) t]) Q E s := by
  subst e
  obtain ⟨a, b⟩ := getD_range h (Int.le_refl 0) (by lia) k
  exact chr_of_range a b hQ
/-- the sign of B.1 that a number means -/
noncomputable def unseenF (f : Int) : Nat := (b1List.getD (f.fmod 27).toNat 0).toNat
set_option maxHeartbeats 0 in
theorem t_unseen (f : Int) (t : Tok) : Claim 0 158 [.int f t] (IsS ⟨#[unseenF f]⟩) := by
  dsimp only [Claim]; k_fill
  intro w mean mg mb news dp un gd cn cs a ccd cl outer A₀ base h₀ L m s Q E B F X N T hk hd hu hret
  refine wpAny_call ?_
  k_dflt cell_enter
  (try walk_at "mine:let")
  k_steps
  all_goals refine chr_getD b1List (by decide) (by rfl) ?_
  k_steps
  all_goals refine hret _ _ _ ?_ (by k_asm) (by first | k_asm | (refine' cb_drop ?cbN ?cbS; (case cbN => assumption); (case cbS => kcj_all)))
  all_goals exact isS rfl
noncomputable def strayList : List Int := [9, 10, 13, 32, 34, 35, 92, 172, 174, 846, 848, 6149, 6151, 6154, 6158, 8202, 8206, 8287, 8289, 65023, 65040, 65278, 65280]
/-- the stray sign that a number means -/
noncomputable def strayF (f : Int) : Nat := (strayList.getD (f.fmod 23).toNat 0).toNat
set_option maxHeartbeats 0 in
theorem t_stray (f : Int) (t : Tok) : Claim 0 165 [.int f t] (IsS ⟨#[strayF f]⟩) := by
  dsimp only [Claim]; k_fill
  intro w mean mg mb news dp un gd cn cs a ccd cl outer A₀ base h₀ L m s Q E B F X N T hk hd hu hret
  refine wpAny_call ?_
  k_dflt cell_enter
  (try walk_at "mine:let")
  k_steps
  all_goals refine chr_getD strayList (by decide) (by rfl) ?_
  k_steps
  all_goals refine hret _ _ _ ?_ (by k_asm) (by first | k_asm | (refine' cb_drop ?cbN ?cbS; (case cbN => assumption); (case cbS => kcj_all)))
  all_goals exact isS rfl
end
section
theorem start_F3 : True := by w_top off; exact trivial
/-- the letter's image in the way that a number means -/
noncomputable def letterF (c : Nat) (f : Int) : Nat := if f.fmod 12 < 2 then ((c : Int) - 32 * f.fmod 12).toNat else (119808 + 52 * [0, 1, 2, 4, 7, 8, 9, 10, 11, 12].getD (f.fmod 12 - 2).toNat 0 + (c : Int) - 97).toNat
set_option maxHeartbeats 0 in
theorem t_letter (c : Nat) (f : Int) (t t' : Tok) (hc : 97 ≤ c ∧ c ≤ 122) : Claim 0 172 [.str ⟨#[c]⟩ t, .int f t'] (IsS ⟨#[letterF c f]⟩) := by
  dsimp only [Claim]; k_fill
  intro w mean mg mb news dp un gd cn cs a ccd cl outer A₀ base h₀ L m s Q E B F X N T hk hd hu hret
  refine wpAny_call ?_
  k_dflt cell_enter
  (try walk_at "mine:let")
  k_steps
  · refine hret _ _ _ ?_ (by k_asm) (by first | k_asm | (refine' cb_drop ?cbN ?cbS; (case cbN => assumption); (case cbS => kcj_all)))
    exact isS (by rename f.fmod 12 < 2 => hw; unfold letterF; rw [if_pos hw])
  · have hr := getD_range (l := [0, 1, 2, 4, 7, 8, 9, 10, 11, 12]) (lo := 0) (hi := 12) (by decide) (by omega) (by omega) (f.fmod 12 - 2).toNat
    refine chr_of_range (by omega) (by omega) ?_
    k_steps
    all_goals refine hret _ _ _ ?_ (by k_asm) (by first | k_asm | (refine' cb_drop ?cbN ?cbS; (case cbN => assumption); (case cbS => kcj_all)))
    all_goals exact isS (by rename ¬ f.fmod 12 < 2 => hw; unfold letterF; rw [if_neg hw])
end
section
theorem start_Flo : True := by w_top off; exact trivial

noncomputable def gtF (x y : UInt64) : Bool := Float64.cmp x y == some .gt
noncomputable def ltF (x y : UInt64) : Bool := Float64.cmp x y == some .lt
noncomputable def max3F (a b c : UInt64) : UInt64 := if gtF c (if gtF b a then b else a) then c else (if gtF b a then b else a)
noncomputable def min3F (a b c : UInt64) : UInt64 := if ltF c (if ltF b a then b else a) then c else (if ltF b a then b else a)
section
variable {prog : Program} {w : World} {A : Around} {E : Value → Shared → Prop} {s : Shared} {h₀ : Heap} {L : Addr} {m : Str → Option Value} {news : List (Addr × Obj)}
theorem best3 (bt : UInt64 → UInt64 → Bool) (a b c : UInt64) (t u x : Tok) (v : Value)
    (h : (#[Value.float a t, Value.float b u, Value.float c x])[argBest (fun i j => bt ([a, b, c].getD i 0) ([a, b, c].getD j 0)) 2]? = some v) :
    ∃ k, v = .float (if bt c (if bt b a then b else a) then c else (if bt b a then b else a)) k := by
  cases hba : bt b a with
  | true =>
    cases hc : bt c b with
    | true =>
      have e : argBest (fun i j => bt ([a, b, c].getD i 0) ([a, b, c].getD j 0)) 2 = 2 := by simp [argBest, hba, hc]
      rw [e] at h; exact ⟨x, by simpa [hba, hc] using h.symm⟩
    | false =>
      have e : argBest (fun i j => bt ([a, b, c].getD i 0) ([a, b, c].getD j 0)) 2 = 1 := by simp [argBest, hba, hc]
      rw [e] at h; exact ⟨u, by simpa [hba, hc] using h.symm⟩
  | false =>
    cases hc : bt c a with
    | true =>
      have e : argBest (fun i j => bt ([a, b, c].getD i 0) ([a, b, c].getD j 0)) 2 = 2 := by simp [argBest, hba, hc]
      rw [e] at h; exact ⟨x, by simpa [hba, hc] using h.symm⟩
    | false =>
      have e : argBest (fun i j => bt ([a, b, c].getD i 0) ([a, b, c].getD j 0)) 2 = 0 := by simp [argBest, hba, hc]
      rw [e] at h; exact ⟨t, by simpa [hba, hc] using h.symm⟩
theorem floats_at {a b c : UInt64} {t u x : Tok} {i : Nat} {v : Value} (h : (#[Value.float a t, Value.float b u, Value.float c x])[i]? = some v) : ∃ k, v = .float ([a, b, c].getD i 0) k := by
  match i with
  | 0 => exact ⟨t, by simpa using h.symm⟩
  | 1 => exact ⟨u, by simpa using h.symm⟩
  | 2 => exact ⟨x, by simpa using h.symm⟩
  | n + 3 => simp at h
theorem max3F_N {a b c : UInt64} {t u x : Tok} {Q : Value → Shared → Prop} (hh : A.handled = none) (F : Fr h₀ L s.heap m) (N : News h₀ L s.heap news)
    (h : ∀ h' tk k, Fr h₀ L h' m → News h₀ L h' news → Q (.float (max3F a b c) k) { s with heap := h', toks := tk }) :
    wpAny (model prog w) A (call (.builtin "max") [.float a t, .float b u, .float c x]) Q E s := by
  have hT : (s.heap.push { cls := .type "tuple", data := .seq #[.float a t, .float b u, .float c x] }).IsTuple s.heap.objs.size #[.float a t, .float b u, .float c x] := ⟨_, Heap.get?_push_size _ rfl, rfl, 0, rfl⟩
  refine call_max_three (wpAny_pyIter_tuple hT ?_)
  have hsz : (s.heap.push { cls := .type "tuple", data := .seq #[.float a t, .float b u, .float c x] }).objs.size = s.heap.objs.size + 1 := Heap.size_push ..
  refine ⟨_, [_, s.heap.objs.size], [_], _, _, _, fun i j => gtF ([a, b, c].getD i 0) ([a, b, c].getD j 0), rfl, Walks.tuple (A := A.in1) hh _ s.heap.objs.size (by rw [hsz]; exact Nat.ne_of_lt (Nat.lt_succ_self _)) #[.float a t, .float b u, .float c x],
    ⟨⟨_, Heap.get?_push_size _ rfl, rfl, rfl⟩, hT.push _⟩, fun d hd => ?_, by simp, fun i j vi vj s Q E hi hj h => ?_, fun v h' tk hP hk => ?_⟩
  · show d < ((s.heap.push _).push _).objs.size
    rw [Heap.size_push, hsz]
    rcases List.mem_cons.mp hd with rfl | hd
    · rw [hsz]; exact Nat.lt_succ_self _
    · rcases List.mem_cons.mp hd with rfl | hd
      · exact Nat.lt_succ_of_lt (Nat.lt_succ_self _)
      · cases hd
  · obtain ⟨_, rfl⟩ := floats_at hi
    obtain ⟨_, rfl⟩ := floats_at hj
    exact AutoFloatOps.gt_0 h
  · have hold : ∀ d o, s.heap.get? d = some o → h'.get? d = some o := fun d o e => by
      refine hk d o (fun hm => ?_) (Heap.get?_push_of_some _ (Heap.get?_push_of_some _ e))
      rcases List.mem_cons.mp hm with e1 | hm
      · have := Heap.lt_size e; rw [e1, hsz] at this; exact Nat.lt_irrefl _ (Nat.lt_of_succ_lt this)
      · cases hm
    obtain ⟨k, rfl⟩ := best3 gtF a b c t u x v hP
    exact h h' tk k (F.grownK hold) (N.grown hold)
theorem min3F_N {a b c : UInt64} {t u x : Tok} {Q : Value → Shared → Prop} (hh : A.handled = none) (F : Fr h₀ L s.heap m) (N : News h₀ L s.heap news)
    (h : ∀ h' tk k, Fr h₀ L h' m → News h₀ L h' news → Q (.float (min3F a b c) k) { s with heap := h', toks := tk }) :
    wpAny (model prog w) A (call (.builtin "min") [.float a t, .float b u, .float c x]) Q E s := by
  have hT : (s.heap.push { cls := .type "tuple", data := .seq #[.float a t, .float b u, .float c x] }).IsTuple s.heap.objs.size #[.float a t, .float b u, .float c x] := ⟨_, Heap.get?_push_size _ rfl, rfl, 0, rfl⟩
  refine call_min_three (wpAny_pyIter_tuple hT ?_)
  have hsz : (s.heap.push { cls := .type "tuple", data := .seq #[.float a t, .float b u, .float c x] }).objs.size = s.heap.objs.size + 1 := Heap.size_push ..
  refine ⟨_, [_, s.heap.objs.size], [_], _, _, _, fun i j => ltF ([a, b, c].getD i 0) ([a, b, c].getD j 0), rfl, Walks.tuple (A := A.in1) hh _ s.heap.objs.size (by rw [hsz]; exact Nat.ne_of_lt (Nat.lt_succ_self _)) #[.float a t, .float b u, .float c x],
    ⟨⟨_, Heap.get?_push_size _ rfl, rfl, rfl⟩, hT.push _⟩, fun d hd => ?_, by simp, fun i j vi vj s Q E hi hj h => ?_, fun v h' tk hP hk => ?_⟩
  · show d < ((s.heap.push _).push _).objs.size
    rw [Heap.size_push, hsz]
    rcases List.mem_cons.mp hd with rfl | hd
    · rw [hsz]; exact Nat.lt_succ_self _
    · rcases List.mem_cons.mp hd with rfl | hd
      · exact Nat.lt_succ_of_lt (Nat.lt_succ_self _)
      · cases hd
  · obtain ⟨_, rfl⟩ := floats_at hi
    obtain ⟨_, rfl⟩ := floats_at hj
    exact AutoFloatOps.lt_0 h
  · have hold : ∀ d o, s.heap.get? d = some o → h'.get? d = some o := fun d o e => by
      refine hk d o (fun hm => ?_) (Heap.get?_push_of_some _ (Heap.get?_push_of_some _ e))
      rcases List.mem_cons.mp hm with e1 | hm
      · have := Heap.lt_size e; rw [e1, hsz] at this; exact Nat.lt_irrefl _ (Nat.lt_of_succ_lt this)
      · cases hm
    obtain ⟨k, rfl⟩ := best3 ltF a b c t u x v hP
    exact h h' tk k (F.grownK hold) (N.grown hold)
end
local macro_rules | `(tactic| walk_at "call builtin:max") => `(tactic| (k_here; (refine max3F_N ?k0 (by k_asm) (by k_asm) ?_; (case k0 => with_unfolding_all rfl); k_whole); intro h' tk' t' F' N'))
local macro_rules | `(tactic| walk_at "call builtin:min") => `(tactic| (k_here; (refine min3F_N ?k0 (by k_asm) (by k_asm) ?_; (case k0 => with_unfolding_all rfl); k_whole); intro h' tk' t' F' N'))
noncomputable abbrev tupO (vs : Array Value) : Obj := { cls := .type "tuple", data := .seq vs }
/-- as Claim, for a call that gives back a fresh tuple -/
noncomputable def ClaimT (j : Nat) (f : Addr) (vs : List Value) (P : List Value → Prop) : Prop :=
  ∀ (w : World) (mean : ExcName → Option Value) (mg mb : Str → Option Value) (news : List (Addr × Obj))
    (dp un : Nat) (gd : Option (List Code)) (cn : Str) (cs : Scope) (a : Addr) (ccd : Value) (cl : List (Str × Addr)) (outer : List Env)
    (A₀ : Around) (base h₀ : Heap) (L : Addr) (m : Str → Option Value) (s : Shared) (Q E : Value → Shared → Prop),
    Below A₀ base outer h₀ → Fr h₀ L s.heap m → (K w.params).In h₀ → News h₀ L s.heap news → Top q loose mean mg mb h₀ → cs.kind = .function →
    dp + 20 + j < recursionLimit → un + 100 + 10 * j < cLine →
    (∀ D its h' tk', P its → Fr h₀ L h' m → News h₀ L h' ((D, tupO its.toArray) :: news) → (∀ p ∈ news, p.1 < D) → Q (.ref D) { s with heap := h', toks := tk' }) →
    wpAny (model PySem.Challenge.rw_rw0107_01.row.prog w) (ktrTop dp un gd cn cs L a ccd cl outer) (call (.ref f) vs) Q E s
theorem ClaimT.use {j : Nat} {f : Addr} {vs : List Value} {P : List Value → Prop} (C : ClaimT j f vs P) {w : World} {mean : ExcName → Option Value} {mg mb : Str → Option Value} {news : List (Addr × Obj)}
    {dp un : Nat} {gd : Option (List Code)} {cn : Str} {cs : Scope} {a : Addr} {ccd : Value} {cl : List (Str × Addr)} {outer : List Env}
    {A₀ : Around} {base h₀ : Heap} {L : Addr} {m : Str → Option Value} {s : Shared} {Q E : Value → Shared → Prop}
    (B : Below A₀ base outer h₀) (F : Fr h₀ L s.heap m) (X : (K w.params).In h₀) (N : News h₀ L s.heap news) (T : Top q loose mean mg mb h₀) (hk : cs.kind = .function)
    (hd : dp + 20 + j < recursionLimit) (hu : un + 100 + 10 * j < cLine)
    (ret : ∀ D its h' tk', P its → Fr h₀ L h' m → News h₀ L h' ((D, tupO its.toArray) :: news) → (∀ p ∈ news, p.1 < D) → Q (.ref D) { s with heap := h', toks := tk' }) :
    wpAny (model PySem.Challenge.rw_rw0107_01.row.prog w) (ktrTop dp un gd cn cs L a ccd cl outer) (call (.ref f) vs) Q E s :=
  C _ _ _ _ _ _ _ _ _ _ _ _ _ _ _ _ _ _ _ _ _ _ B F X N T hk hd hu ret
noncomputable def Is3F (x : UInt64 × UInt64 × UInt64) (its : List Value) : Prop := ∃ t u v, its = [.float x.1 t, .float x.2.1 u, .float x.2.2 v]
theorem is3F {x : UInt64 × UInt64 × UInt64} {a b c : UInt64} {t u v : Tok} (h : x = (a, b, c)) : Is3F x [.float a t, .float b u, .float c v] := ⟨t, u, v, by rw [h]⟩

theorem ClaimT.use3 {j : Nat} {f : Addr} {vs : List Value} {x : UInt64 × UInt64 × UInt64} (C : ClaimT j f vs (Is3F x)) {w : World} {mean : ExcName → Option Value} {mg mb : Str → Option Value} {news : List (Addr × Obj)}
    {dp un : Nat} {gd : Option (List Code)} {cn : Str} {cs : Scope} {a : Addr} {ccd : Value} {cl : List (Str × Addr)} {outer : List Env}
    {A₀ : Around} {base h₀ : Heap} {L : Addr} {m : Str → Option Value} {s : Shared} {Q E : Value → Shared → Prop}
    (B : Below A₀ base outer h₀) (F : Fr h₀ L s.heap m) (X : (K w.params).In h₀) (N : News h₀ L s.heap news) (T : Top q loose mean mg mb h₀) (hk : cs.kind = .function)
    (hd : dp + 20 + j < recursionLimit) (hu : un + 100 + 10 * j < cLine)
    (ret : ∀ D t1 t2 t3 h' tk', Fr h₀ L h' m → News h₀ L h' ((D, tupO #[.float x.1 t1, .float x.2.1 t2, .float x.2.2 t3]) :: news) → (∀ p ∈ news, p.1 < D) → Q (.ref D) { s with heap := h', toks := tk' }) :
    wpAny (model PySem.Challenge.rw_rw0107_01.row.prog w) (ktrTop dp un gd cn cs L a ccd cl outer) (call (.ref f) vs) Q E s :=
  C.use B F X N T hk hd hu fun D its h' tk' ⟨t1, t2, t3, e⟩ F' N' l => ret D t1 t2 t3 h' tk' F' (by rw [e] at N'; exact N') l
/-- the hue, where the three are not one grey -/
noncomputable def hueF (r g b : UInt64) : UInt64 :=
  let mx := max3F r g b
  let rg := Float64.sub mx (min3F r g b)
  let rc := Float64.div (Float64.sub mx r) rg
  let gc := Float64.div (Float64.sub mx g) rg
  let bc := Float64.div (Float64.sub mx b) rg
  let h := if (Float64.cmp r mx == some Ordering.eq) = true then Float64.sub bc gc else if (Float64.cmp g mx == some Ordering.eq) = true then Float64.sub (Float64.add 4611686018427387904 rc) bc else Float64.sub (Float64.add 4616189618054758400 gc) rc
  (Float64.divmod (Float64.div h 4618441417868443648) 4607182418800017408).2
noncomputable def greyF (r g b : UInt64) : Bool := Float64.cmp (min3F r g b) (max3F r g b) == some Ordering.eq
noncomputable def hsvF (r g b : UInt64) : UInt64 × UInt64 × UInt64 :=
  if greyF r g b = true then (0, 0, max3F r g b) else (hueF r g b, Float64.div (Float64.sub (max3F r g b) (min3F r g b)) (max3F r g b), max3F r g b)
noncomputable def hsvOk (r g b : UInt64) : Bool := greyF r g b || (!Float64.isZero (max3F r g b) && !Float64.isZero (Float64.sub (max3F r g b) (min3F r g b)))
noncomputable def hsvEFd : FuncData := fd 7 3 .none .none
noncomputable def hsvEnd : List Stmt := match hsvEFd.body with | .stmts b => b.drop 10 | _ => []
noncomputable abbrev hsvEEnv (L1 : Addr) : Env := envOf (Str.ofString "rgb_to_hsv") hsvEFd.scope L1 92 (.ref 91)
set_option maxHeartbeats 0 in
theorem hsv_end (h9 x9 y9 : UInt64) (t1 t2 t3 : Tok) {news : List (Addr × Obj)} {w : World} {mean : ExcName → Option Value} {mg mb : Str → Option Value}
    {dp un : Nat} {gd : Option (List Code)} {cn : Str} {cs : Scope} {a' : Addr} {ccd : Value} {cl : List (Str × Addr)} {outer : List Env}
    {base g1 : Heap} {L L1 : Addr} {m : Str → Option Value} {s : Shared} {Q : Flow → Shared → Prop} {E : Value → Shared → Prop}
    (B1 : Below (ktrTop dp un gd cn cs L a' ccd cl outer) base (envX cn cs L a' ccd cl :: outer) g1) (F1 : Fr g1 L1 s.heap m) (X1 : (K w.params).In g1)
    (N1 : News g1 L1 s.heap news) (T1 : Top q loose mean mg mb g1)
    (hm1 : m (Str.ofString "h") = some (.float h9 t1)) (hm2 : m (Str.ofString "s") = some (.float x9 t2)) (hm3 : m (Str.ofString "v") = some (.float y9 t3))
    (hd : dp + 20 + 0 < recursionLimit) (hu : un + 100 + 10 * 0 < cLine)
    (hret : ∀ D its m' h' tk', Is3F ((Float64.divmod (Float64.div h9 4618441417868443648) 4607182418800017408).2, x9, y9) its → Fr g1 L1 h' m' → News g1 L1 h' ((D, tupO its.toArray) :: news) → (∀ p ∈ news, p.1 < D) → Q (.ret (.ref D)) { s with heap := h', toks := tk' }) :
    wpAny (model PySem.Challenge.rw_rw0107_01.row.prog w) ((ktrTop dp un gd cn cs L a' ccd cl outer).deeper (hsvEEnv L1)) (execs hsvEnd (hsvEEnv L1)) Q E s := by
  dsimp only [hsvEnd, hsvEEnv, hsvEFd]
  revert X1; k_fill; intro X1
  with_unfolding_all show wpAny _ _ (execs [Stmt.Assign _ _ _, Stmt.Return _ _] _) _ _ _
  (try walk_at "mine:let")
  k_steps
  refine hret _ _ _ _ _ ?_ (by k_asm) (by k_asm) (by assumption)
  exact is3F rfl
noncomputable def hlsEFd : FuncData := fd 6 3 .none .none
noncomputable def hlsEnd : List Stmt := match hlsEFd.body with | .stmts b => b.drop 11 | _ => []
noncomputable abbrev hlsEEnv (L1 : Addr) : Env := envOf (Str.ofString "rgb_to_hls") hlsEFd.scope L1 85 (.ref 84)
set_option maxHeartbeats 0 in
theorem hls_end (h9 x9 y9 : UInt64) (t1 t2 t3 : Tok) {news : List (Addr × Obj)} {w : World} {mean : ExcName → Option Value} {mg mb : Str → Option Value}
    {dp un : Nat} {gd : Option (List Code)} {cn : Str} {cs : Scope} {a' : Addr} {ccd : Value} {cl : List (Str × Addr)} {outer : List Env}
    {base g1 : Heap} {L L1 : Addr} {m : Str → Option Value} {s : Shared} {Q : Flow → Shared → Prop} {E : Value → Shared → Prop}
    (B1 : Below (ktrTop dp un gd cn cs L a' ccd cl outer) base (envX cn cs L a' ccd cl :: outer) g1) (F1 : Fr g1 L1 s.heap m) (X1 : (K w.params).In g1)
    (N1 : News g1 L1 s.heap news) (T1 : Top q loose mean mg mb g1)
    (hm1 : m (Str.ofString "h") = some (.float h9 t1)) (hm2 : m (Str.ofString "l") = some (.float x9 t2)) (hm3 : m (Str.ofString "s") = some (.float y9 t3))
    (hd : dp + 20 + 0 < recursionLimit) (hu : un + 100 + 10 * 0 < cLine)
    (hret : ∀ D its m' h' tk', Is3F ((Float64.divmod (Float64.div h9 4618441417868443648) 4607182418800017408).2, x9, y9) its → Fr g1 L1 h' m' → News g1 L1 h' ((D, tupO its.toArray) :: news) → (∀ p ∈ news, p.1 < D) → Q (.ret (.ref D)) { s with heap := h', toks := tk' }) :
    wpAny (model PySem.Challenge.rw_rw0107_01.row.prog w) ((ktrTop dp un gd cn cs L a' ccd cl outer).deeper (hlsEEnv L1)) (execs hlsEnd (hlsEEnv L1)) Q E s := by
  dsimp only [hlsEnd, hlsEEnv, hlsEFd]
  revert X1; k_fill; intro X1
  with_unfolding_all show wpAny _ _ (execs [Stmt.Assign _ _ _, Stmt.Return _ _] _) _ _ _
  (try walk_at "mine:let")
  k_steps
  refine hret _ _ _ _ _ ?_ (by k_asm) (by k_asm) (by assumption)
  exact is3F rfl
set_option maxHeartbeats 0 in
theorem t_hsv (r g b : UInt64) (t1 t2 t3 : Tok) (ok : hsvOk r g b = true) : ClaimT 0 92 [.float r t1, .float g t2, .float b t3] (Is3F (hsvF r g b)) := by
  have stp : StopLen 2 := ⟨trivial, rfl⟩
  dsimp only [ClaimT]; k_fill
  intro w mean mg mb news dp un gd cn cs a ccd cl outer A₀ base h₀ L m s Q E B F X N T hk hd hu hret
  refine wpAny_call ?_
  k_dflt cell_enter
  (try walk_at "mine:let")
  k_steps
  · rename (Float64.cmp (min3F r g b) (max3F r g b) == some Ordering.eq) = true => e1
    refine hret _ _ _ _ ?_ (by k_asm) (by k_asm) (by assumption)
    exact is3F (by unfold hsvF greyF; rw [if_pos e1])
  · exfalso
    rename (Float64.cmp (min3F r g b) (max3F r g b) == some Ordering.eq) = false => e1
    rename Float64.isZero (max3F r g b) = true => e2
    unfold hsvOk greyF at ok; rw [e1, e2] at ok; cases ok
  · exfalso
    rename (Float64.cmp (min3F r g b) (max3F r g b) == some Ordering.eq) = false => e1
    rename Float64.isZero (Float64.sub (max3F r g b) (min3F r g b)) = true => e2
    unfold hsvOk greyF at ok; rw [e1, e2, Bool.not_true, Bool.and_false] at ok; cases ok
  · rename (Float64.cmp (min3F r g b) (max3F r g b) == some Ordering.eq) = false => e1
    rename (Float64.cmp r (max3F r g b) == some Ordering.eq) = true => e2
    rename Fr _ _ _ _ => F9
    rename News _ _ _ _ => N9
    unfold Hlt
    refine hsv_end _ _ _ _ _ _ (by assumption) F9 (by assumption) N9 (by assumption) (by with_unfolding_all rfl) (by with_unfolding_all rfl) (by with_unfolding_all rfl) hd hu ?_
    intro D its m' h' tk' hi F8 N8 hD
    k_steps
    refine hret _ _ _ _ ?_ (by k_asm) (by k_asm) (by assumption)
    unfold hsvF greyF hueF; rw [e1]; dsimp only; rw [if_pos e2]; exact hi
  · rename (Float64.cmp (min3F r g b) (max3F r g b) == some Ordering.eq) = false => e1
    rename (Float64.cmp r (max3F r g b) == some Ordering.eq) = false => e2
    rename (Float64.cmp g (max3F r g b) == some Ordering.eq) = true => e3
    rename Fr _ _ _ _ => F9
    rename News _ _ _ _ => N9
    unfold Hlt
    refine hsv_end _ _ _ _ _ _ (by assumption) F9 (by assumption) N9 (by assumption) (by with_unfolding_all rfl) (by with_unfolding_all rfl) (by with_unfolding_all rfl) hd hu ?_
    intro D its m' h' tk' hi F8 N8 hD
    k_steps
    refine hret _ _ _ _ ?_ (by k_asm) (by k_asm) (by assumption)
    unfold hsvF greyF hueF; rw [e1]; dsimp only; rw [e2, if_pos e3]; exact hi
  · rename (Float64.cmp (min3F r g b) (max3F r g b) == some Ordering.eq) = false => e1
    rename (Float64.cmp r (max3F r g b) == some Ordering.eq) = false => e2
    rename (Float64.cmp g (max3F r g b) == some Ordering.eq) = false => e3
    rename Fr _ _ _ _ => F9
    rename News _ _ _ _ => N9
    unfold Hlt
    refine hsv_end _ _ _ _ _ _ (by assumption) F9 (by assumption) N9 (by assumption) (by with_unfolding_all rfl) (by with_unfolding_all rfl) (by with_unfolding_all rfl) hd hu ?_
    intro D its m' h' tk' hi F8 N8 hD
    k_steps
    refine hret _ _ _ _ ?_ (by k_asm) (by k_asm) (by assumption)
    unfold hsvF greyF hueF; rw [e1]; dsimp only; rw [e2, e3]; exact hi
noncomputable def lightF (r g b : UInt64) : UInt64 := Float64.div (Float64.add (max3F r g b) (min3F r g b)) 4611686018427387904
noncomputable def darkF (l : UInt64) : Bool := Float64.cmp l 4602678819172646912 == some Ordering.lt || Float64.cmp l 4602678819172646912 == some Ordering.eq
noncomputable def shareF (r g b : UInt64) : UInt64 := if darkF (lightF r g b) = true then Float64.div (Float64.sub (max3F r g b) (min3F r g b)) (Float64.add (max3F r g b) (min3F r g b))
  else Float64.div (Float64.sub (max3F r g b) (min3F r g b)) (Float64.sub (Float64.sub 4611686018427387904 (max3F r g b)) (min3F r g b))
noncomputable def hlsF (r g b : UInt64) : UInt64 × UInt64 × UInt64 :=
  if greyF r g b = true then (0, lightF r g b, 0) else (hueF r g b, lightF r g b, shareF r g b)
noncomputable def hlsOk (r g b : UInt64) : Bool := greyF r g b || (!Float64.isZero (Float64.add (max3F r g b) (min3F r g b)) && !Float64.isZero (Float64.sub (Float64.sub 4611686018427387904 (max3F r g b)) (min3F r g b)) && !Float64.isZero (Float64.sub (max3F r g b) (min3F r g b)))
noncomputable def hlsFd : FuncData := fd 6 3 .none .none
noncomputable def hlsTail : List Stmt := match hlsFd.body with | .stmts b => b.drop 7 | _ => []
noncomputable abbrev hlsEnv (L1 : Addr) : Env := envOf (Str.ofString "rgb_to_hls") hlsFd.scope L1 85 (.ref 84)
set_option maxHeartbeats 0 in
theorem hls_tail (r g b l9 s9 : UInt64) (t1 t2 t3 t4 t5 t6 t7 : Tok) {news : List (Addr × Obj)} {w : World} {mean : ExcName → Option Value} {mg mb : Str → Option Value}
    {dp un : Nat} {gd : Option (List Code)} {cn : Str} {cs : Scope} {a' : Addr} {ccd : Value} {cl : List (Str × Addr)} {outer : List Env}
    {base g1 : Heap} {L L1 : Addr} {m : Str → Option Value} {s : Shared} {Q : Flow → Shared → Prop} {E : Value → Shared → Prop}
    (B1 : Below (ktrTop dp un gd cn cs L a' ccd cl outer) base (envX cn cs L a' ccd cl :: outer) g1) (F1 : Fr g1 L1 s.heap m) (X1 : (K w.params).In g1)
    (N1 : News g1 L1 s.heap news) (T1 : Top q loose mean mg mb g1)
    (hm1 : m (Str.ofString "r") = some (.float r t1)) (hm2 : m (Str.ofString "g") = some (.float g t2)) (hm3 : m (Str.ofString "b") = some (.float b t3)) (hm4 : m (Str.ofString "maxc") = some (.float (max3F r g b) t4))
    (hm5 : m (Str.ofString "rangec") = some (.float (Float64.sub (max3F r g b) (min3F r g b)) t5)) (hm6 : m (Str.ofString "l") = some (.float l9 t6)) (hm7 : m (Str.ofString "s") = some (.float s9 t7))
    (hz : Float64.isZero (Float64.sub (max3F r g b) (min3F r g b)) = false)
    (hd : dp + 20 + 0 < recursionLimit) (hu : un + 100 + 10 * 0 < cLine)
    (hret : ∀ D its m' h' tk', Is3F (hueF r g b, l9, s9) its → Fr g1 L1 h' m' → News g1 L1 h' ((D, tupO its.toArray) :: news) → (∀ p ∈ news, p.1 < D) → Q (.ret (.ref D)) { s with heap := h', toks := tk' }) :
    wpAny (model PySem.Challenge.rw_rw0107_01.row.prog w) ((ktrTop dp un gd cn cs L a' ccd cl outer).deeper (hlsEnv L1)) (execs hlsTail (hlsEnv L1)) Q E s := by
  have stp : StopLen 2 := ⟨trivial, rfl⟩
  dsimp only [hlsTail, hlsEnv, hlsFd]
  revert X1; k_fill; intro X1
  with_unfolding_all show wpAny _ _ (execs [Stmt.Assign _ _ _, Stmt.Assign _ _ _, Stmt.Assign _ _ _, Stmt.If _ _ _ _, Stmt.Assign _ _ _, Stmt.Return _ _] _) _ _ _
  (try walk_at "mine:let")
  k_steps
  · rename (Float64.cmp r (max3F r g b) == some Ordering.eq) = true => e2
    rename Fr _ _ _ _ => F9
    rename News _ _ _ _ => N9
    unfold Hlt
    refine hls_end _ _ _ _ _ _ (by assumption) F9 (by assumption) N9 (by assumption) (by with_unfolding_all rfl) (by assumption) (by assumption) hd hu ?_
    intro D its m' h' tk' hi F8 N8 hD
    k_steps
    refine hret _ _ _ _ _ ?_ (by k_asm) (by k_asm) (by assumption)
    unfold hueF; dsimp only; rw [if_pos e2]; exact hi
  · rename (Float64.cmp r (max3F r g b) == some Ordering.eq) = false => e2
    rename (Float64.cmp g (max3F r g b) == some Ordering.eq) = true => e3
    rename Fr _ _ _ _ => F9
    rename News _ _ _ _ => N9
    unfold Hlt
    refine hls_end _ _ _ _ _ _ (by assumption) F9 (by assumption) N9 (by assumption) (by with_unfolding_all rfl) (by assumption) (by assumption) hd hu ?_
    intro D its m' h' tk' hi F8 N8 hD
    k_steps
    refine hret _ _ _ _ _ ?_ (by k_asm) (by k_asm) (by assumption)
    unfold hueF; dsimp only; rw [e2, if_pos e3]; exact hi
  · rename (Float64.cmp r (max3F r g b) == some Ordering.eq) = false => e2
    rename (Float64.cmp g (max3F r g b) == some Ordering.eq) = false => e3
    rename Fr _ _ _ _ => F9
    rename News _ _ _ _ => N9
    unfold Hlt
    refine hls_end _ _ _ _ _ _ (by assumption) F9 (by assumption) N9 (by assumption) (by with_unfolding_all rfl) (by assumption) (by assumption) hd hu ?_
    intro D its m' h' tk' hi F8 N8 hD
    k_steps
    refine hret _ _ _ _ _ ?_ (by k_asm) (by k_asm) (by assumption)
    unfold hueF; dsimp only; rw [e2, e3]; exact hi
theorem hls_nz {r g b : UInt64} (ok : hlsOk r g b = true) (e1 : (Float64.cmp (min3F r g b) (max3F r g b) == some Ordering.eq) = false) : Float64.isZero (Float64.add (max3F r g b) (min3F r g b)) = false ∧ Float64.isZero (Float64.sub (Float64.sub 4611686018427387904 (max3F r g b)) (min3F r g b)) = false ∧ Float64.isZero (Float64.sub (max3F r g b) (min3F r g b)) = false := by
  unfold hlsOk greyF at ok
  rw [e1, Bool.false_or, Bool.and_eq_true, Bool.and_eq_true] at ok
  exact ⟨(Bool.not_eq_true' _).mp ok.1.1, (Bool.not_eq_true' _).mp ok.1.2, (Bool.not_eq_true' _).mp ok.2⟩
set_option maxHeartbeats 0 in
theorem t_hls (r g b : UInt64) (t1 t2 t3 : Tok) (ok : hlsOk r g b = true) : ClaimT 0 85 [.float r t1, .float g t2, .float b t3] (Is3F (hlsF r g b)) := by
  have stp : StopLen 6 := ⟨trivial, rfl⟩
  dsimp only [ClaimT]; k_fill
  intro w mean mg mb news dp un gd cn cs a ccd cl outer A₀ base h₀ L m s Q E B F X N T hk hd hu hret
  refine wpAny_call ?_
  k_dflt cell_enter
  (try walk_at "mine:let")
  k_steps
  · rename (Float64.cmp (min3F r g b) (max3F r g b) == some Ordering.eq) = true => e1
    refine hret _ _ _ _ ?_ (by k_asm) (by k_asm) (by assumption)
    exact is3F (by unfold hlsF greyF; rw [if_pos e1]; rfl)
  · exfalso
    rename (Float64.cmp (min3F r g b) (max3F r g b) == some Ordering.eq) = false => e1
    rename Float64.isZero (Float64.add (max3F r g b) (min3F r g b)) = true => e2
    rw [(hls_nz ok e1).1] at e2; cases e2
  · rename (Float64.cmp (min3F r g b) (max3F r g b) == some Ordering.eq) = false => e1
    rename (_ || _) = true => e4
    rename Fr _ _ _ _ => F9
    rename News _ _ _ _ => N9
    unfold Hlt
    refine hls_tail r g b _ _ t1 t2 t3 _ _ _ _ (by assumption) F9 (by assumption) N9 (by assumption) (by with_unfolding_all rfl) (by with_unfolding_all rfl) (by with_unfolding_all rfl) (by with_unfolding_all rfl) (by with_unfolding_all rfl) (by with_unfolding_all rfl) (by with_unfolding_all rfl) (hls_nz ok e1).2.2 hd hu ?_
    intro D its m' h' tk' hi F8 N8 hD
    k_steps
    refine hret _ _ _ _ ?_ (by k_asm) (by k_asm) (by assumption)
    unfold hlsF greyF shareF darkF lightF; rw [e1, if_pos e4]; exact hi
  · exfalso
    rename (Float64.cmp (min3F r g b) (max3F r g b) == some Ordering.eq) = false => e1
    rename Float64.isZero (Float64.sub (Float64.sub 4611686018427387904 (max3F r g b)) (min3F r g b)) = true => e2
    rw [(hls_nz ok e1).2.1] at e2; cases e2
  · rename (Float64.cmp (min3F r g b) (max3F r g b) == some Ordering.eq) = false => e1
    rename (_ || _) = false => e4
    rename Fr _ _ _ _ => F9
    rename News _ _ _ _ => N9
    unfold Hlt
    refine hls_tail r g b _ _ t1 t2 t3 _ _ _ _ (by assumption) F9 (by assumption) N9 (by assumption) (by with_unfolding_all rfl) (by with_unfolding_all rfl) (by with_unfolding_all rfl) (by with_unfolding_all rfl) (by with_unfolding_all rfl) (by with_unfolding_all rfl) (by with_unfolding_all rfl) (hls_nz ok e1).2.2 hd hu ?_
    intro D its m' h' tk' hi F8 N8 hD
    k_steps
    refine hret _ _ _ _ ?_ (by k_asm) (by k_asm) (by assumption)
    unfold hlsF greyF shareF darkF lightF; rw [e1, e4]; exact hi
end
section
local macro_rules | `(tactic| walk_at "mine:pad") => `(tactic| skip)
theorem start_F4 : True := by w_top off; exact trivial
/-- the one sign that there may be for two letters -/
noncomputable def bothF (x y : Nat) : Int := if x = 112 ∧ y = 97 then 13184 else if x = 112 ∧ y = 104 then 13271 else if x = 104 ∧ y = 112 then 13259 else 0
theorem two_eq {x y a b : Nat} : (⟨#[a, b]⟩ : Str) = ⟨#[x, y]⟩ ↔ (x = a ∧ y = b) := by
  constructor
  · intro h; injection h with h; simp at h; exact ⟨h.1.symm, h.2.symm⟩
  · rintro ⟨rfl, rfl⟩; rfl
theorem both_flat {v : Value} {x y : Nat} {t1 u1 t2 u2 t3 u3 : Tok}
    (h : PyProof.V.Flat v ((Spec.lookup (PyData.str ((⟨#[x]⟩ : Str) ++ ⟨#[y]⟩)) (strData [(Value.str (Str.ofString "pa") t1, Value.int 13184 u1), (Value.str (Str.ofString "ph") t2, Value.int 13271 u2), (Value.str (Str.ofString "hp") t3, Value.int 13259 u3)])).getD (PyData.int 0))) :
    ∃ t, v = .int (bothF x y) t := by
  refine PyProof.V.Flat.int_inv (i := bothF x y) ?_
  have e : (⟨#[x]⟩ : Str) ++ ⟨#[y]⟩ = ⟨#[x, y]⟩ := rfl
  have e1 : Str.ofString "pa" = ⟨#[112, 97]⟩ := by decide +kernel
  have e2 : Str.ofString "ph" = ⟨#[112, 104]⟩ := by decide +kernel
  have e3 : Str.ofString "hp" = ⟨#[104, 112]⟩ := by decide +kernel
  rw [e, e1, e2, e3] at h
  have e4 : (Spec.lookup (PyData.str ⟨#[x, y]⟩) (strData [(Value.str ⟨#[112, 97]⟩ t1, Value.int 13184 u1), (Value.str ⟨#[112, 104]⟩ t2, Value.int 13271 u2), (Value.str ⟨#[104, 112]⟩ t3, Value.int 13259 u3)])).getD (PyData.int 0) = .int (bothF x y) := by
    simp only [strData, Spec.lookup, PyProof.V.same_str, two_eq, decide_eq_true_eq, bothF]
    by_cases h1 : x = 112 ∧ y = 97
    · simp [h1, datumOf]
    · by_cases h2 : x = 112 ∧ y = 104
      · simp [h1, h2, datumOf]
      · by_cases h3 : x = 104 ∧ y = 112
        · simp [h1, h2, h3, datumOf]
        · simp [h1, h2, h3, datumOf]
  rw [e4] at h
  exact h

theorem both_range (x y : Nat) : 0 ≤ bothF x y ∧ bothF x y ≤ 1114111 := by
  unfold bothF
  split
  · lia
  · split
    · lia
    · split <;> lia
local macro_rules | `(tactic| walk_at "call builtin:chr") => `(tactic| (k_here; refine chr_of_range (both_range _ _).1 (both_range _ _).2 ?_; k_whole))
local macro_rules | `(tactic| walk_at "call builtin:str.join") => `(tactic| (k_here; k_dflt (refine join_listW (by is_list) (by kct_strs) (by decide +kernel) (Nat.le_of_ble_eq_true rfl) ?_); intro _ _))
theorem empty_is : Str.ofString "" = ⟨#[]⟩ := by decide +kernel
noncomputable def imageSigns (x y : Nat) (f : Int) : List Nat := if 0 < bothF x y ∧ f.fmod 2 = 0 then [(bothF x y).toNat] else if x = y then [letterF y f] else [letterF x f, letterF y (f.fdiv 12)]
/-- what _law_image gives back -/
noncomputable def imageF (x y : Nat) (f : Int) : List Nat := (imageSigns x y f).take ((f.fdiv 2).fmod ((imageSigns x y f).length + 1)).toNat ++ unseenF f :: (imageSigns x y f).drop ((f.fdiv 2).fmod ((imageSigns x y f).length + 1)).toNat
theorem mod2 (k : Int) : k.fmod (1 + 1) = 0 ∨ k.fmod (1 + 1) = 1 := by
  have h1 := Int.fmod_nonneg_of_pos k (b := 1 + 1) (by lia)
  have h2 := Int.fmod_lt_of_pos k (b := 1 + 1) (by lia)
  lia
theorem mod3 (k : Int) : k.fmod (2 + 1) = 0 ∨ k.fmod (2 + 1) = 1 ∨ k.fmod (2 + 1) = 2 := by
  have h1 := Int.fmod_nonneg_of_pos k (b := 2 + 1) (by lia)
  have h2 := Int.fmod_lt_of_pos k (b := 2 + 1) (by lia)
  lia
theorem image_one {x y a : Nat} {f : Int} (h : imageSigns x y f = [a]) : imageF x y f = [a].take ((f.fdiv 2).fmod (1 + 1)).toNat ++ unseenF f :: [a].drop ((f.fdiv 2).fmod (1 + 1)).toNat := by
  unfold imageF; rw [h]; rfl
theorem image_two {x y a b : Nat} {f : Int} (h : imageSigns x y f = [a, b]) : imageF x y f = [a, b].take ((f.fdiv 2).fmod (2 + 1)).toNat ++ unseenF f :: [a, b].drop ((f.fdiv 2).fmod (2 + 1)).toNat := by
  unfold imageF; rw [h]; rfl
theorem one_eq {x y : Nat} : ((⟨#[x]⟩ : Str) == ⟨#[y]⟩) = true ↔ x = y := by
  rw [beq_iff_eq]
  constructor
  · intro h; injection h with h; simpa using h
  · rintro rfl; rfl
theorem one_ne {x y : Nat} : ((⟨#[x]⟩ : Str) == ⟨#[y]⟩) = false ↔ ¬ x = y := by
  rw [← one_eq, Bool.not_eq_true]
theorem allLt_ne {d : Addr} {l : List (Addr × Obj)} (h : AllLt d l) : ∀ p ∈ l, p.1 ≠ d := by
  induction l with
  | nil => exact fun _ x => nomatch x
  | cons q r ih => exact List.forall_mem_cons.mpr ⟨Nat.ne_of_lt h.1, ih h.2⟩
theorem img_news {g h : Heap} {L : Addr} {a b : Addr × Obj} {l : List (Addr × Obj)} (N : News g L h (a :: b :: l)) : News g L h (a :: l) := fun p hp => by
  rcases List.mem_cons.mp hp with rfl | hp
  · exact N _ (.head _)
  · exact N p (.tail _ (.tail _ hp))
noncomputable def imgFd : FuncData := fd 18 3 .none .none
noncomputable def imgTail : List Stmt := match imgFd.body with | .stmts b => b.drop 2 | _ => []
noncomputable abbrev imgEnv (L1 : Addr) : Env := envOf (Str.ofString "_law_image") imgFd.scope L1 184 (.ref 183)
set_option maxHeartbeats 0 in
theorem image_tail1 (a : Nat) (f : Int) (ua t : Tok) (D : Addr) {news : List (Addr × Obj)} {w : World} {mean : ExcName → Option Value} {mg mb : Str → Option Value}
    {dp un : Nat} {gd : Option (List Code)} {cn : Str} {cs : Scope} {a' : Addr} {ccd : Value} {cl : List (Str × Addr)} {outer : List Env}
    {base g1 : Heap} {L L1 : Addr} {m : Str → Option Value} {s : Shared} {Q : Flow → Shared → Prop} {E : Value → Shared → Prop}
    (B1 : Below (ktrTop dp un gd cn cs L a' ccd cl outer) base (envX cn cs L a' ccd cl :: outer) g1) (F1 : Fr g1 L1 s.heap m) (X1 : (K w.params).In g1)
    (N1 : News g1 L1 s.heap ((D, listOf #[.str ⟨#[a]⟩ ua] 0) :: news)) (T1 : Top q loose mean mg mb g1) (hD : ∀ p ∈ news, p.1 ≠ D)
    (hm1 : m (Str.ofString "form") = some (.int f t)) (hm2 : m (Str.ofString "signs") = some (.ref D))
    (hd : dp + 20 + 5 < recursionLimit) (hu : un + 100 + 10 * 5 < cLine)
    (hret : ∀ v m' h' tk', IsS ⟨([a].take ((f.fdiv 2).fmod (1 + 1)).toNat ++ unseenF f :: [a].drop ((f.fdiv 2).fmod (1 + 1)).toNat).toArray⟩ v → Fr g1 L1 h' m' → News g1 L1 h' news → Q (.ret v) { s with heap := h', toks := tk' }) :
    wpAny (model PySem.Challenge.rw_rw0107_01.row.prog w) ((ktrTop dp un gd cn cs L a' ccd cl outer).deeper (imgEnv L1)) (execs imgTail (imgEnv L1)) Q E s := by
  dsimp only [imgTail, imgEnv, imgFd]
  revert X1; k_fill; intro X1
  with_unfolding_all show wpAny _ _ (execs [Stmt.Expr _ _, Stmt.Return _ _] _) _ _ _
  (try walk_at "mine:let")
  k_steps
  rcases mod2 (f.fdiv 2) with e | e
  all_goals (rw [e]; k_steps)
  all_goals refine hret _ _ _ _ ?_ (by k_asm) (by first | k_asm | (refine' cb_drop ?cbN ?cbS; (case cbN => assumption); (case cbS => kcj_all)))
  all_goals exact isS (by rw [e, empty_is]; rfl)
set_option maxHeartbeats 0 in
theorem image_tail2 (a b : Nat) (f : Int) (ua ub t : Tok) (D : Addr) {news : List (Addr × Obj)} {w : World} {mean : ExcName → Option Value} {mg mb : Str → Option Value}
    {dp un : Nat} {gd : Option (List Code)} {cn : Str} {cs : Scope} {a' : Addr} {ccd : Value} {cl : List (Str × Addr)} {outer : List Env}
    {base g1 : Heap} {L L1 : Addr} {m : Str → Option Value} {s : Shared} {Q : Flow → Shared → Prop} {E : Value → Shared → Prop}
    (B1 : Below (ktrTop dp un gd cn cs L a' ccd cl outer) base (envX cn cs L a' ccd cl :: outer) g1) (F1 : Fr g1 L1 s.heap m) (X1 : (K w.params).In g1)
    (N1 : News g1 L1 s.heap ((D, listOf #[.str ⟨#[a]⟩ ua, .str ⟨#[b]⟩ ub] 0) :: news)) (T1 : Top q loose mean mg mb g1) (hD : ∀ p ∈ news, p.1 ≠ D)
    (hm1 : m (Str.ofString "form") = some (.int f t)) (hm2 : m (Str.ofString "signs") = some (.ref D))
    (hd : dp + 20 + 5 < recursionLimit) (hu : un + 100 + 10 * 5 < cLine)
    (hret : ∀ v m' h' tk', IsS ⟨([a, b].take ((f.fdiv 2).fmod (2 + 1)).toNat ++ unseenF f :: [a, b].drop ((f.fdiv 2).fmod (2 + 1)).toNat).toArray⟩ v → Fr g1 L1 h' m' → News g1 L1 h' news → Q (.ret v) { s with heap := h', toks := tk' }) :
    wpAny (model PySem.Challenge.rw_rw0107_01.row.prog w) ((ktrTop dp un gd cn cs L a' ccd cl outer).deeper (imgEnv L1)) (execs imgTail (imgEnv L1)) Q E s := by
  dsimp only [imgTail, imgEnv, imgFd]
  revert X1; k_fill; intro X1
  with_unfolding_all show wpAny _ _ (execs [Stmt.Expr _ _, Stmt.Return _ _] _) _ _ _
  (try walk_at "mine:let")
  k_steps
  rcases mod3 (f.fdiv 2) with e | e | e
  all_goals (rw [e]; k_steps)
  all_goals refine hret _ _ _ _ ?_ (by k_asm) (by first | k_asm | (refine' cb_drop ?cbN ?cbS; (case cbN => assumption); (case cbS => kcj_all)))
  all_goals exact isS (by rw [e, empty_is]; rfl)
set_option maxHeartbeats 0 in
theorem t_image (x y : Nat) (f : Int) (t t' t'' : Tok) (hx : 97 ≤ x ∧ x ≤ 122) (hy : 97 ≤ y ∧ y ≤ 122) : Claim 5 184 [.str ⟨#[x]⟩ t, .str ⟨#[y]⟩ t', .int f t''] (IsS ⟨(imageF x y f).toArray⟩) := by
  have stp : StopRet := trivial
  dsimp only [Claim]; k_fill
  intro w mean mg mb news dp un gd cn cs a ccd cl outer A₀ base h₀ L m s Q E B F X N T hk hd hu hret
  refine wpAny_call ?_
  k_dflt cell_enter
  (try walk_at "mine:let")
  k_steps
  rename PyProof.V.Flat _ _ => hv9
  obtain ⟨tv, hve⟩ := both_flat hv9
  subst hve
  k_steps
  all_goals (rename Fr _ _ _ _ => F9; rename News _ _ _ _ => N9; rename _ ∧ AllLt _ _ => l9; unfold Hlt)
  · rename 0 < bothF x y => h1
    rename f.fmod 2 = 0 => h2
    have hs : imageSigns x y f = [(bothF x y).toNat] := by unfold imageSigns; rw [if_pos ⟨h1, h2⟩]
    refine image_tail1 (bothF x y).toNat f _ t'' _ (by assumption) F9 (by assumption) (img_news N9) (by assumption) (allLt_ne l9.2) (by with_unfolding_all rfl) (by with_unfolding_all rfl) hd hu ?_
    intro v m' h' tk' hv F8 N8
    rw [← image_one hs] at hv
    k_steps
    exact hret _ _ _ hv (by k_asm) (by assumption)
  · rename ¬ f.fmod 2 = 0 => h2
    rename ((⟨#[x]⟩ : Str) == ⟨#[y]⟩) = true => h3
    have hs : imageSigns x y f = [letterF y f] := by unfold imageSigns; rw [if_neg (fun h => h2 h.2), if_pos (one_eq.mp h3)]
    refine image_tail1 (letterF y f) f _ t'' _ (by assumption) F9 (by assumption) (img_news N9) (by assumption) (allLt_ne l9.2) (by with_unfolding_all rfl) (by with_unfolding_all rfl) hd hu ?_
    intro v m' h' tk' hv F8 N8
    rw [← image_one hs] at hv
    k_steps
    exact hret _ _ _ hv (by k_asm) (by assumption)
  · rename ¬ f.fmod 2 = 0 => h2
    rename ((⟨#[x]⟩ : Str) == ⟨#[y]⟩) = false => h3
    have hs : imageSigns x y f = [letterF x f, letterF y (f.fdiv 12)] := by unfold imageSigns; rw [if_neg (fun h => h2 h.2), if_neg (one_ne.mp h3)]
    refine image_tail2 (letterF x f) (letterF y (f.fdiv 12)) f _ _ t'' _ (by assumption) F9 (by assumption) (img_news N9) (by assumption) (allLt_ne l9.2) (by with_unfolding_all rfl) (by with_unfolding_all rfl) hd hu ?_
    intro v m' h' tk' hv F8 N8
    rw [← image_two hs] at hv
    k_steps
    exact hret _ _ _ hv (by k_asm) (by assumption)
  · rename ¬ 0 < bothF x y => h2
    rename ((⟨#[x]⟩ : Str) == ⟨#[y]⟩) = true => h3
    have hs : imageSigns x y f = [letterF y f] := by unfold imageSigns; rw [if_neg (fun h => h2 h.1), if_pos (one_eq.mp h3)]
    refine image_tail1 (letterF y f) f _ t'' _ (by assumption) F9 (by assumption) (img_news N9) (by assumption) (allLt_ne l9.2) (by with_unfolding_all rfl) (by with_unfolding_all rfl) hd hu ?_
    intro v m' h' tk' hv F8 N8
    rw [← image_one hs] at hv
    k_steps
    exact hret _ _ _ hv (by k_asm) (by assumption)
  · rename ¬ 0 < bothF x y => h2
    rename ((⟨#[x]⟩ : Str) == ⟨#[y]⟩) = false => h3
    have hs : imageSigns x y f = [letterF x f, letterF y (f.fdiv 12)] := by unfold imageSigns; rw [if_neg (fun h => h2 h.1), if_neg (one_ne.mp h3)]
    refine image_tail2 (letterF x f) (letterF y (f.fdiv 12)) f _ _ t'' _ (by assumption) F9 (by assumption) (img_news N9) (by assumption) (allLt_ne l9.2) (by with_unfolding_all rfl) (by with_unfolding_all rfl) hd hu ?_
    intro v m' h' tk' hv F8 N8
    rw [← image_two hs] at hv
    k_steps
    exact hret _ _ _ hv (by k_asm) (by assumption)
end
end
section
open PySem PySem.W PySem.Spec PySem.Calls PyProof.Rows PyProof.Rows.LCg
section
variable {prog : Program} {w : World} {A : Around} {E : Value → Shared → Prop} {s : Shared}

/-- a comprehension's loop: any target, any tests -/
theorem compLoop_any {elt target iter : PySem.Expr} {ifs : List PySem.Expr} {scope : Scope} {pos : Pos} {it acc : Value} {env : Env} {R : Result → Shared → Prop} (I : Nat → Shared → Prop)
    (turn : ∀ n s, I n s → wpAny (model prog w) A (pyNext it) (fun r s₁ => match r with
      | none => R (.ok .next) s₁
      | some v => wpAny (model prog w) A (letOwnedTupleGo target it v) (fun _ s₀ => wpAny (model prog w) A (assign target env v) (fun _ s₂ =>
          wpAny (model prog w) A (forIn ifs true fun c r => if r = true then do let ok ← isTrue c env (eval c env); pure (ForInStep.yield ok) else pure (ForInStep.yield r)) (fun ok s₃ =>
            if ok = true then wpAny (model prog w) A (eval elt env) (fun x s₄ =>
              wpAny (model prog w) A (call (.builtin "list.append") [acc, x]) (fun _ s₅ => ∃ m, m < n ∧ I m s₅) (notedBy (model prog w) A env fun e s' => R (.error e) s') s₄) (notedBy (model prog w) A env fun e s' => R (.error e) s') s₃
            else ∃ m, m < n ∧ I m s₃) (notedBy (model prog w) A env fun e s' => R (.error e) s') s₂) (notedBy (model prog w) A env fun e s' => R (.error e) s') s₀) (notedBy (model prog w) A env fun e s' => R (.error e) s') s₁) (notedBy (model prog w) A env fun e s' => R (.error e) s') s)
    (n : Nat) (h : I n s) : codeAny (model prog w) A (.compLoop (.ListComp elt [⟨target, iter, ifs, 0⟩] scope pos) 0 it acc env) R s := by
  refine codeAny_loop rfl I (fun n s hI => ?_) n h
  show wpAny _ A ((compTurn (.ListComp elt [⟨target, iter, ifs, 0⟩] scope pos) 0 it acc env).onRaise (fun x => do noteFrame x env; theTreesLotGoes x)) _ _ s
  refine wpAny_noted ?_
  rw [compTurn_list]
  refine wpAny_bind (wpAny_standAt (wpAny_bind (wpAny_mono (turn n s hI) (fun r s₁ h₁ => ?_) fun _ _ h' => h')))
  cases r with
  | none => exact wpAny_pure h₁
  | some v =>
    refine wpAny_bind (wpAny_mono h₁ (fun _ s₀ h₀' => ?_) fun _ _ h' => h')
    refine wpAny_bind (wpAny_mono h₀' (fun _ s₂ h₂ => wpAny_bind (wpAny_mono h₂ (fun ok s₃ h₃ => ?_) fun _ _ h' => h')) fun _ _ h' => h')
    cases ok with
    | false => exact wpAny_pure ⟨rfl, h₃⟩
    | true => exact wpAny_bind (wpAny_bind (wpAny_mono h₃ (fun x s₄ h₄ => wpAny_bind (wpAny_mono h₄ (fun _ s₅ h₅ => wpAny_pure (wpAny_pure ⟨rfl, h₅⟩)) fun _ _ h' => h')) fun _ _ h' => h'))
end

/-- a turn's end: what stood stands -/
inductive CDone (h₀ : Heap) (L : Addr) (m : Str → Option Value) (s₁ : Shared) (all : List (Addr × Obj)) (K : Value → Prop) (y : Value) (s₂ : Shared) : Prop
  | mk (h' : Heap) (tk : Nat) (e : s₂ = { s₁ with heap := h', toks := tk }) (F : Fr h₀ L h' m) (N : News h₀ L h' all) (k : K y) : CDone h₀ L m s₁ all K y s₂
theorem CDone.intro {h₀ : Heap} {L : Addr} {m : Str → Option Value} {s₁ : Shared} {all : List (Addr × Obj)} {K : Value → Prop} {y : Value} {h' : Heap} {tk : Nat}
    (F : Fr h₀ L h' m) (N : News h₀ L h' all) (k : K y) : CDone h₀ L m s₁ all K y { s₁ with heap := h', toks := tk } := ⟨h', tk, rfl, F, N, k⟩
/-- the test of a turn, then its element -/
noncomputable def CTest (prog : Program) (w : World) (A : Around) (elt : PySem.Expr) (cenv : Env) (D1 : Value → Shared → Prop) (D0 : Shared → Prop) (E' : Value → Shared → Prop) (ok : Bool) (s' : Shared) : Prop :=
  if ok = true then wpAny (model prog w) A (eval elt cenv) D1 E' s' else D0 s'
noncomputable def CTests (prog : Program) (w : World) (A : Around) (ifs : List PySem.Expr) (elt : PySem.Expr) (cenv : Env) (D1 : Value → Shared → Prop) (D0 : Shared → Prop) (E' : Value → Shared → Prop) (s' : Shared) : Prop :=
  match ifs with
  | [] => wpAny (model prog w) A (eval elt cenv) D1 E' s'
  | [c] => wpAny (model prog w) A (isTrue c cenv (eval c cenv)) (CTest prog w A elt cenv D1 D0 E') E' s'
  | _ => False
section
variable {prog : Program} {w : World} {A : Around} {E : Value → Shared → Prop} {s : Shared} {h₀ : Heap} {L : Addr} {m : Str → Option Value} {env : Env}
theorem ctests_at {ifs : List PySem.Expr} {elt : PySem.Expr} {cenv : Env} {D1 : Value → Shared → Prop} {D0 : Shared → Prop} {E' : Value → Shared → Prop} {s' : Shared} {G : Bool → Shared → Prop}
    (h : CTests prog w A ifs elt cenv D1 D0 E' s') (hG : ∀ ok s', (if ok = true then wpAny (model prog w) A (eval elt cenv) D1 E' s' else D0 s') → G ok s') :
    wpAny (model prog w) A (forIn ifs true fun c r => if r = true then do let ok ← isTrue c cenv (eval c cenv); pure (ForInStep.yield ok) else pure (ForInStep.yield r)) G E' s' := by
  match ifs, h with
  | [], h => exact wpAny_tests_nil (hG true s' (by rw [if_pos rfl]; exact h))
  | [c], h => exact wpAny_tests_one (wpAny_mono h (fun ok s₁ h₁ => hG ok s₁ h₁) fun _ _ e => e)
  | _ :: _ :: _, h => exact h.elim

/-- how a target is bound: its names stand in the inner frame, the rest stands -/
noncomputable def Binds (prog : Program) (w : World) (A : Around) (target : PySem.Expr) (cenv : Env) (n : Nat) (P : Nat → Value → Heap → Prop) (Bd : Nat → (Str → Option Value) → Prop) : Prop :=
  ∀ i v (s : Shared) m' (Q : Unit → Shared → Prop) (E : Value → Shared → Prop), i < n → P i v s.heap → s.heap.Ns cenv.locals m' →
    (∀ h₃ tk₃ m₃, h₃.Ns cenv.locals m₃ → Bd i m₃ → (∀ c o, c ≠ cenv.locals → s.heap.get? c = some o → h₃.get? c = some o) → Q () { s with heap := h₃, toks := tk₃ }) →
    wpAny (model prog w) A (assign target cenv v) Q E s

/-- what holds between the turns -/
inductive CInv (h₀ : Heap) (L : Addr) (m : Str → Option Value) (s₂ : Shared) (C D : Addr) (n : Nat) (St : Nat → Heap → Prop) (V : Nat → List (Addr × Obj)) (news : List (Addr × Obj)) (J : Nat → List Value → Prop) (k : Nat) (s' : Shared) : Prop
  | mk (h' : Heap) (tk i : Nat) (ys : List Value) (m' : Str → Option Value) (e : s' = { s₂ with heap := h', toks := tk }) (hi : i ≤ n) (hk : k = n + 1 - i) (hy : ys.length ≤ i) (st : St i h') (F : Fr h₀ L h' m) (ns : h'.Ns C m') (N : News h₀ L h' ((D, lst ys) :: (V i ++ news))) (j : J i ys) : CInv h₀ L m s₂ C D n St V news J k s'
inductive CFin (h₀ : Heap) (L : Addr) (m m₄ : Str → Option Value) (s₂ : Shared) (C : Addr) (St : Heap → Prop) (all : List (Addr × Obj)) (k : Prop) (s' : Shared) : Prop
  | mk (h₅ : Heap) (tk₅ : Nat) (e : s' = { s₂ with heap := h₅, toks := tk₅ }) (F : Fr h₀ L h₅ m) (st : St h₅) (ns : h₅.Ns C m₄) (N : News h₀ L h₅ all) (hk : k) : CFin h₀ L m m₄ s₂ C St all k s'
theorem comp_block {elt target iter : PySem.Expr} {ifs : List PySem.Expr} {scope : Scope} {cl : List (Str × Addr)} {pos : Pos} {s₂ : Shared} {I : Addr} {fp wr fr : List Addr} {n : Nat} {P Md : Nat → Value → Heap → Prop} {St : Nat → Heap → Prop} {news : List (Addr × Obj)} {V : Nat → List (Addr × Obj)} (hV : ∀ i, (V i).map (·.1) = (V 0).map (·.1))
    {J : Nat → List Value → Prop} {Bd : Nat → (Str → Option Value) → Prop} {RR : Value → Addr → Result → Shared → Prop}
    (W : KTurns prog w A target I fp wr n P Md St) (hself : ∀ i (s : Shared) (Q : Value → Shared → Prop) (E : Value → Shared → Prop), St i s.heap → Q (.ref I) s → wpAny (model prog w) A (pyIter (.ref I)) Q E s) (hsz : n ≤ sizeLine)
    (hB : ∀ C, Binds prog w A target (compEnvC scope cl C env) n P Bd)
    (hlive : ∀ i h, St i h → ∀ b ∈ fr, ∃ o, h.get? b = some o) (hfr : ∀ b ∈ fp, b ∈ fr ∨ (∃ o, h₀.get? b = some o) ∨ ∃ o, (b, o) ∈ news) (hwf : ∀ b ∈ wr, b ∈ fr)
    (hfrL : ∀ b ∈ fr, b ≠ L ∧ h₀.get? b = none ∧ ∀ p ∈ V 0 ++ news, p.1 ≠ b)
    (hcell : ∀ y ∈ scope.names, y.2 ≠ .cell) (hkind : scope.kind = .function) (hst : St 0 s₂.heap)
    (F : Fr h₀ L s₂.heap m) (N : News h₀ L s₂.heap (V 0 ++ news))
    (hJ : J 0 []) (turn : ∀ i ys own C oC D m₂ h tk (E' : Value → Shared → Prop), i < n → J i ys → own.map (·.1) = fr → NsObj oC m₂ → Bd i m₂ → (∀ p ∈ V 0 ++ news, p.1 ≠ C ∧ p.1 ≠ D) → Fr h₀ L h m → News h₀ L h (own ++ (C, oC) :: (D, lst ys) :: (V i ++ news)) →
      CTests prog w A ifs elt (compEnvC scope cl C env) (CDone h₀ L m { s₂ with heap := h, toks := tk } (own ++ (C, oC) :: (D, lst ys) :: (V (i + 1) ++ news)) fun y => J (i + 1) (ys ++ [y]))
        (CDone h₀ L m { s₂ with heap := h, toks := tk } (own ++ (C, oC) :: (D, lst ys) :: (V (i + 1) ++ news)) (fun _ => J (i + 1) ys) .none) E' { s₂ with heap := h, toks := tk })
    (hRR : ∀ D C h tk m' ys, Fr h₀ L h m → News h₀ L h ((D, lst ys) :: (V n ++ news)) → Off1 D (V n ++ news) → h.Ns C m' → h₀.get? C = none → h₀.get? D = none → C ≠ L → D ≠ L → C ≠ D → (∀ p ∈ V n ++ news, p.1 ≠ C) → J n ys → RR (.ref D) C (.ok .next) { s₂ with heap := h, toks := tk }) :
    wpAny (model prog w) A (newList []) (fun acc s₃ => wpAny (model prog w) A (newFunctionEnv scope env.globals cl [] env.qual none .none (some env)) (fun cenv s₄ =>
      codeAny (model prog w) A (.compStart (.ListComp elt [⟨target, iter, ifs, 0⟩] scope pos) 0 (.ref I) acc { cenv with scope := relabel scope env }) (RR acc cenv.locals) s₄) E s₃) E s₂ := by
  refine wpAny_newObj_type (wpAny_newFunctionEnv hcell (by intro y hy; simp at hy) (fun h₁ hns₁ hsb₁ => ?_) hkind)
  dsimp only at hns₁ hsb₁ ⊢
  generalize hH2 : s₂.heap.push { cls := .type "list", dict := none, data := .seq ([] : List Value).toArray } = H2 at hns₁ hsb₁ ⊢
  have hC : H2.objs.size = s₂.heap.objs.size + 1 := by rw [← hH2, Heap.size_push]
  have hDC : s₂.heap.objs.size ≠ H2.objs.size := by rw [hC]; exact Nat.ne_of_lt (Nat.lt_succ_self _)
  have below : ∀ b, b < s₂.heap.objs.size → b ≠ H2.objs.size ∧ b ≠ s₂.heap.objs.size := fun b hb => ⟨by rw [hC]; exact Nat.ne_of_lt (Nat.lt_succ_of_lt hb), Nat.ne_of_lt hb⟩
  have frlt : ∀ b ∈ fr, b < s₂.heap.objs.size := fun b hb => by obtain ⟨o, e⟩ := hlive _ _ hst b hb; exact Heap.lt_size e
  have same : ∀ i, ∀ p ∈ V i ++ news, ∃ q ∈ V 0 ++ news, p.1 = q.1 := fun i p hp => by
    rcases List.mem_append.mp hp with hp | hp
    · have : p.1 ∈ (V i).map (·.1) := List.mem_map_of_mem hp
      rw [hV i] at this
      obtain ⟨q, hq, e⟩ := List.mem_map.mp this
      exact ⟨q, List.mem_append_left _ hq, e.symm⟩
    · exact ⟨p, List.mem_append_right _ hp, rfl⟩
  have newslt : ∀ i, ∀ p ∈ V i ++ news, p.1 < s₂.heap.objs.size := fun i p hp => by
    obtain ⟨q, hq, e⟩ := same i p hp
    rw [e]; exact Heap.lt_size (N q hq).1
  have h₀lt : ∀ b o, h₀.get? b = some o → b < s₂.heap.objs.size := fun b o e => Heap.lt_size (F.keep b o e)
  have fplt : ∀ b ∈ fp, b < s₂.heap.objs.size := fun b hb => by
    rcases hfr b hb with h | ⟨o, e⟩ | ⟨o, e⟩
    · exact frlt b h
    · exact h₀lt b o e
    · exact newslt 0 _ (List.mem_append_right _ e)
  have old : ∀ b o, s₂.heap.get? b = some o → h₁.get? b = some o := fun b o e => hsb₁.extBut b o (below b (Heap.lt_size e)).1 (Heap.get?_push_of_some _ (hH2 ▸ Heap.get?_push_of_some _ e))
  have hacc : h₁.get? s₂.heap.objs.size = some (lst []) := hsb₁.extBut _ _ hDC (Heap.get?_push_of_some _ (hH2 ▸ Heap.get?_push_size _ rfl))
  have hst₁ : St 0 h₁ := W.frame _ _ _ hst fun b _ o e => old b o e
  have fresh : ∀ a, s₂.heap.objs.size ≤ a → s₂.heap.get? a = none := fun a ha => by
    cases e : s₂.heap.get? a with
    | none => rfl
    | some o' => exact absurd (Heap.lt_size e) (Nat.not_lt.mpr ha)
  have fresh₀ : ∀ a, s₂.heap.objs.size ≤ a → h₀.get? a = none := fun a ha => by
    cases e : h₀.get? a with
    | none => rfl
    | some o' => have := F.keep a o' e; rw [fresh a ha] at this; cases this
  have hD₀ : h₀.get? s₂.heap.objs.size = none := fresh₀ _ (Nat.le_refl _)
  have hC₀ : h₀.get? H2.objs.size = none := fresh₀ _ (by rw [hC]; exact Nat.le_succ _)
  have hLlt : L < s₂.heap.objs.size := F.ns.lt
  have hDL : s₂.heap.objs.size ≠ L := Ne.symm (below L hLlt).2
  have hCL : H2.objs.size ≠ L := Ne.symm (below L hLlt).1
  have hLw : L ∉ wr := fun h => (hfrL L (hwf L h)).1 rfl
  have hCw : H2.objs.size ∉ wr := fun h => (below _ (frlt _ (hwf _ h))).1 rfl
  have hDw : s₂.heap.objs.size ∉ wr := fun h => (below _ (frlt _ (hwf _ h))).2 rfl
  have hCf : H2.objs.size ∉ fp := fun h => (below _ (fplt _ h)).1 rfl
  have hDf : s₂.heap.objs.size ∉ fp := fun h => (below _ (fplt _ h)).2 rfl
  have hNw : ∀ i, ∀ p ∈ V i ++ news, p.1 ∉ wr := fun i p hp h => by
    obtain ⟨q, hq, e⟩ := same i p hp
    exact (hfrL _ (hwf _ h)).2.2 q hq e.symm
  have h₀w : ∀ b o, h₀.get? b = some o → b ∉ wr := fun b o e h => by rw [(hfrL b (hwf b h)).2.1] at e; cases e
  have loop : ∀ s₃ : Shared, s₃ = { s₂ with heap := h₁, toks := s₂.toks + ([] : List (Str × Value)).length } →
      codeAny (model prog w) A (.compLoop (.ListComp elt [⟨target, iter, ifs, 0⟩] scope pos) 0 (.ref I) (.ref s₂.heap.objs.size) (compEnvC scope cl H2.objs.size env))
        (RR (.ref s₂.heap.objs.size) H2.objs.size) s₃ := by
    rintro s₃ rfl
    refine compLoop_any
      (CInv h₀ L m s₂ H2.objs.size s₂.heap.objs.size n St V news J) ?_ (n + 1)
      ⟨h₁, _, 0, [], _, rfl, Nat.zero_le _, rfl, Nat.le_refl _, hst₁, F.keeps old, hns₁, fun p hp => ?_, hJ⟩
    · rintro k s' ⟨h', tk, i, ys, m', rfl, hi, rfl, hyl, hst', F', hn', N', hJ'⟩
      by_cases hlt : i < n
      · refine W.item i _ _ _ hlt hst' fun v h₂ tk₂ hMd hk₂ => ?_
        refine W.go i v _ _ _ hMd fun h₃ hP hst₃ hk₃ => ?_
        have up : ∀ b o, b ∉ wr → h'.get? b = some o → h₃.get? b = some o := fun b o hb e => hk₃ b o hb (hk₂ b o hb e)
        refine hB H2.objs.size i v _ _ _ _ hlt hP (hn'.at' fun o e => up _ o hCw e) fun h₄ tk₄ m₄ hn₄ hbd hk₄ => ?_
        have up₄ : ∀ b o, b ≠ H2.objs.size → b ∉ wr → h'.get? b = some o → h₄.get? b = some o := fun b o hb hw e => hk₄ b o hb (up b o hw e)
        have hst₄ : St (i + 1) h₄ := W.frame _ _ _ hst₃ fun b hb o e => hk₄ b o (fun q => hCf (by have q' : b = H2.objs.size := q; rw [← q']; exact hb)) e
        obtain ⟨oC, heC, hoC⟩ := ns_obj hn₄
        have F₄ : Fr h₀ L h₄ m := ⟨F'.ns.at' fun o e => up₄ L o (Ne.symm hCL) hLw e, fun b o e => up₄ b o (fun q => by rw [q, hC₀] at e; cases e) (h₀w b o e) (F'.keep b o e), F'.above⟩
        have N₄' : News h₀ L h₄ ((s₂.heap.objs.size, lst ys) :: (V i ++ news)) := fun p hp => by
          refine ⟨up₄ _ _ ?_ ?_ (N' p hp).1, (N' p hp).2⟩
          · rcases List.mem_cons.mp hp with rfl | hp
            · exact hDC
            · exact (below _ (newslt i p hp)).1
          · rcases List.mem_cons.mp hp with rfl | hp
            · exact hDw
            · exact hNw i p hp
        obtain ⟨own, hown, hownN⟩ : ∃ own : List (Addr × Obj), own.map (·.1) = fr ∧ ∀ p ∈ own, h₄.get? p.1 = some p.2 := by
          have hl := hlive _ _ hst₄
          clear hfrL hfr hwf hlive turn frlt
          induction fr with
          | nil => exact ⟨[], rfl, fun _ h => nomatch h⟩
          | cons b r ih =>
            obtain ⟨own, e, k⟩ := ih fun c hc => hl c (List.mem_cons_of_mem _ hc)
            obtain ⟨o, eo⟩ := hl b List.mem_cons_self
            refine ⟨(b, o) :: own, by simp [e], fun p hp => ?_⟩
            rcases List.mem_cons.mp hp with rfl | hp
            · exact eo
            · exact k p hp
        have N₄ : News h₀ L h₄ (own ++ (H2.objs.size, oC) :: (s₂.heap.objs.size, lst ys) :: (V i ++ news)) := fun p hp => by
          rcases List.mem_append.mp hp with hp | hp
          · have hb : p.1 ∈ fr := hown ▸ List.mem_map_of_mem hp
            exact ⟨hownN p hp, (hfrL _ hb).1, (hfrL _ hb).2.1⟩
          · rcases List.mem_cons.mp hp with rfl | hp
            · exact ⟨heC, hCL, hC₀⟩
            · exact N₄' p hp
        have fin : ∀ (K : Value → Prop) (y : Value) (s' : Shared), CDone h₀ L m { s₂ with heap := h₄, toks := tk₄ } (own ++ (H2.objs.size, oC) :: (s₂.heap.objs.size, lst ys) :: (V (i + 1) ++ news)) K y s' →
            CFin h₀ L m m₄ s₂ H2.objs.size (St (i + 1)) ((s₂.heap.objs.size, lst ys) :: (V (i + 1) ++ news)) (K y) s' := by
          rintro K y s' ⟨h₅, tk₅, rfl, F₅, N₅, k⟩
          refine ⟨h₅, tk₅, rfl, F₅, W.frame _ _ _ hst₄ fun b hb o e => ?_, hoC.ns (N₅ _ (List.mem_append_right _ List.mem_cons_self)).1, fun p hp => N₅ p (List.mem_append_right _ (List.mem_cons_of_mem _ hp)), k⟩
          rcases hfr b hb with h | ⟨o', e'⟩ | ⟨o', e'⟩
          · obtain ⟨p, hp, rfl⟩ := List.mem_map.mp (hown ▸ h)
            have := hownN p hp
            rw [e] at this
            cases this
            exact (N₅ p (List.mem_append_left _ hp)).1
          · have := F₄.keep b o' e'
            rw [e] at this
            cases this
            exact F₅.keep b o e'
          · have hm : ∀ j, (b, o') ∈ own ++ (H2.objs.size, oC) :: (s₂.heap.objs.size, lst ys) :: (V j ++ news) := fun j => List.mem_append_right own (List.mem_cons_of_mem (H2.objs.size, oC) (List.mem_cons_of_mem (s₂.heap.objs.size, lst ys) (List.mem_append_right _ e')))
            have := (N₄ _ (hm i)).1
            rw [show h₄.get? (b, o').1 = h₄.get? b from rfl, e] at this
            cases this
            exact (N₅ _ (hm (i + 1))).1
        refine ctests_at (turn i ys own H2.objs.size oC s₂.heap.objs.size m₄ h₄ tk₄ _ hlt hJ' hown hoC hbd (fun p hp => ⟨(below _ (newslt 0 p hp)).1, (below _ (newslt 0 p hp)).2⟩) F₄ N₄) fun ok s₅ h₅ => ?_
        cases ok with
        | true =>
          simp only [if_true] at h₅ ⊢
          refine wpAny_mono h₅ (fun y s₆ h₆ => ?_) fun _ _ e => e
          obtain ⟨h₆, tk₆, rfl, F₆, hst₆, hn₆, N₆, k⟩ := fin _ _ _ h₆
          have zD := (N₆ (s₂.heap.objs.size, lst ys) List.mem_cons_self).1
          refine append_at (hsz := by show ys.toArray.size ≤ sizeLine; rw [List.size_toArray]; exact Nat.le_trans hyl (Nat.le_trans hi hsz)) zD fun h₇ hs₇ hD₇ => ?_
          refine ⟨n + 1 - (i + 1), by lia, h₇, tk₆, i + 1, ys ++ [y], m₄, rfl, hlt, rfl, by rw [List.length_append, List.length_singleton]; lia, W.frame _ _ _ hst₆ fun b hb o e => hs₇.extBut b o (fun q => hDf (q ▸ hb)) e, F₆.change hs₇ hDL hD₀,
            hn₆.sameBut hs₇ (Ne.symm hDC), fun p hp => ?_, k⟩
          rcases List.mem_cons.mp hp with rfl | hp
          · exact ⟨hD₇.trans (congrArg some (lst_snoc ys y)), hDL, hD₀⟩
          · exact ⟨hs₇.extBut _ _ (below _ (newslt (i + 1) p hp)).2 (N₆ p (List.mem_cons_of_mem _ hp)).1, (N₆ p (List.mem_cons_of_mem _ hp)).2⟩
        | false =>
          simp only [Bool.false_eq_true, if_false] at h₅ ⊢
          obtain ⟨h₆, tk₆, rfl, F₆, hst₆, hn₆, N₆, k⟩ := fin _ _ _ h₅
          exact ⟨n + 1 - (i + 1), by lia, h₆, tk₆, i + 1, ys, m₄, rfl, hlt, rfl, by lia, hst₆, F₆, hn₆, N₆, k⟩
      · obtain rfl : i = n := Nat.le_antisymm hi (Nat.not_lt.mp hlt)
        refine W.done _ _ _ hst' fun h₂ tk₂ hk₂ => ?_
        have off1 : ∀ l : List (Addr × Obj), (∀ p ∈ l, p.1 < s₂.heap.objs.size) → Off1 s₂.heap.objs.size l := by
          intro l
          induction l with
          | nil => exact fun _ => trivial
          | cons p r ih => exact fun h => ⟨Nat.ne_of_lt (h p List.mem_cons_self), ih fun q hq => h q (List.mem_cons_of_mem _ hq)⟩
        exact hRR _ _ h₂ tk₂ _ ys ⟨F'.ns.at' fun o e => hk₂ L o hLw e, fun b o e => hk₂ b o (h₀w b o e) (F'.keep b o e), F'.above⟩
          (fun p hp => ⟨hk₂ _ _ (by rcases List.mem_cons.mp hp with rfl | hp; exact hDw; exact hNw i p hp) (N' p hp).1, (N' p hp).2⟩) (off1 _ (newslt i)) (hn'.at' fun o e => hk₂ _ o hCw e) hC₀ hD₀ hCL hDL (Ne.symm hDC) (fun p hp => (below _ (newslt i p hp)).1) hJ'
    · rcases List.mem_cons.mp hp with rfl | hp
      · exact ⟨hacc, hDL, hD₀⟩
      · exact ⟨old _ _ (N p hp).1, (N p hp).2⟩
  exact codeAny_compStart_list (loop _ rfl) (hself 0 _ _ _ hst₁ (loop _ rfl))

/-- all that a comprehension wants once its source is an iterator -/
inductive CPlan (prog : Program) (w : World) (A : Around) (h₀ : Heap) (L : Addr) (m : Str → Option Value) (env : Env) (elt target : PySem.Expr) (ifs : List PySem.Expr) (scope : Scope) (cl : List (Str × Addr)) (Fin : Shared → List Value → List (Addr × Obj) → Prop) (it : Value) (s₂ : Shared) : Prop
  | mk (I : Addr) (fp wr fr : List Addr) (n : Nat) (P Md : Nat → Value → Heap → Prop) (St : Nat → Heap → Prop) (news : List (Addr × Obj)) (V : Nat → List (Addr × Obj)) (J : Nat → List Value → Prop) (Bd : Nat → (Str → Option Value) → Prop)
    (hV : (∀ i, (V i).map (·.1) = (V 0).map (·.1)))
    (hit : it = .ref I)
    (W : KTurns prog w A target I fp wr n P Md St)
    (hself : (∀ i (s : Shared) (Q : Value → Shared → Prop) (E : Value → Shared → Prop), St i s.heap → Q (.ref I) s → wpAny (model prog w) A (pyIter (.ref I)) Q E s))
    (hsz : n ≤ sizeLine)
    (hB : (∀ C, Binds prog w A target (compEnvC scope cl C env) n P Bd))
    (hlive : (∀ i h, St i h → ∀ b ∈ fr, ∃ o, h.get? b = some o))
    (hfr : (∀ b ∈ fp, b ∈ fr ∨ (∃ o, h₀.get? b = some o) ∨ ∃ o, (b, o) ∈ news))
    (hwf : (∀ b ∈ wr, b ∈ fr))
    (hfrL : (∀ b ∈ fr, b ≠ L ∧ h₀.get? b = none ∧ ∀ p ∈ V 0 ++ news, p.1 ≠ b))
    (hst : St 0 s₂.heap)
    (F : Fr h₀ L s₂.heap m)
    (N : News h₀ L s₂.heap (V 0 ++ news))
    (hJ : J 0 [])
    (turn : (∀ i ys own C oC D m₂ h tk (E' : Value → Shared → Prop), i < n → J i ys → own.map (·.1) = fr → NsObj oC m₂ → Bd i m₂ → (∀ p ∈ V 0 ++ news, p.1 ≠ C ∧ p.1 ≠ D) → Fr h₀ L h m → News h₀ L h (own ++ (C, oC) :: (D, lst ys) :: (V i ++ news)) →
      CTests prog w A ifs elt (compEnvC scope cl C env) (CDone h₀ L m { s₂ with heap := h, toks := tk } (own ++ (C, oC) :: (D, lst ys) :: (V (i + 1) ++ news)) fun y => J (i + 1) (ys ++ [y]))
        (CDone h₀ L m { s₂ with heap := h, toks := tk } (own ++ (C, oC) :: (D, lst ys) :: (V (i + 1) ++ news)) (fun _ => J (i + 1) ys) .none) E' { s₂ with heap := h, toks := tk }))
    (fin : ∀ ys, J n ys → Fin s₂ ys (V n ++ news)) : CPlan prog w A h₀ L m env elt target ifs scope cl Fin it s₂
theorem CPlan.of {elt target : PySem.Expr} {ifs : List PySem.Expr} {scope : Scope} {cl : List (Str × Addr)} {Fin : Shared → List Value → List (Addr × Obj) → Prop} {it : Value} {s₂ : Shared} (I : Addr) (fp wr fr : List Addr) (n : Nat) (P Md : Nat → Value → Heap → Prop) (St : Nat → Heap → Prop) (news : List (Addr × Obj)) (J : Nat → List Value → Prop) (Bd : Nat → (Str → Option Value) → Prop)
    (hit : it = .ref I)
    (W : KTurns prog w A target I fp wr n P Md St)
    (hself : (∀ i (s : Shared) (Q : Value → Shared → Prop) (E : Value → Shared → Prop), St i s.heap → Q (.ref I) s → wpAny (model prog w) A (pyIter (.ref I)) Q E s))
    (hsz : n ≤ sizeLine)
    (hB : (∀ C, Binds prog w A target (compEnvC scope cl C env) n P Bd))
    (hlive : (∀ i h, St i h → ∀ b ∈ fr, ∃ o, h.get? b = some o))
    (hfr : (∀ b ∈ fp, b ∈ fr ∨ (∃ o, h₀.get? b = some o) ∨ ∃ o, (b, o) ∈ news))
    (hwf : (∀ b ∈ wr, b ∈ fr))
    (hfrL : (∀ b ∈ fr, b ≠ L ∧ h₀.get? b = none ∧ ∀ p ∈ news, p.1 ≠ b))
    (hst : St 0 s₂.heap)
    (F : Fr h₀ L s₂.heap m)
    (N : News h₀ L s₂.heap news)
    (hJ : J 0 [])
    (turn : (∀ i ys own C oC D m₂ h tk (E' : Value → Shared → Prop), i < n → J i ys → own.map (·.1) = fr → NsObj oC m₂ → Bd i m₂ → Fr h₀ L h m → News h₀ L h (own ++ (C, oC) :: (D, lst ys) :: news) →
      CTests prog w A ifs elt (compEnvC scope cl C env) (CDone h₀ L m { s₂ with heap := h, toks := tk } (own ++ (C, oC) :: (D, lst ys) :: news) fun y => J (i + 1) (ys ++ [y]))
        (CDone h₀ L m { s₂ with heap := h, toks := tk } (own ++ (C, oC) :: (D, lst ys) :: news) (fun _ => J (i + 1) ys) .none) E' { s₂ with heap := h, toks := tk }))
    (fin : ∀ ys, J n ys → Fin s₂ ys news) : CPlan prog w A h₀ L m env elt target ifs scope cl Fin it s₂ :=
  .mk I fp wr fr n P Md St news (fun _ => []) J Bd (fun _ => rfl) hit W hself hsz hB hlive hfr hwf hfrL hst F N hJ (fun i ys own C oC D m₂ h tk E' hi hj ho hn hb _ F' N' => turn i ys own C oC D m₂ h tk E' hi hj ho hn hb F' N') fin
theorem comp_eval {elt target iter : PySem.Expr} {ifs : List PySem.Expr} {scope : Scope} {cl : List (Str × Addr)} {pos : Pos} {Q : Value → Shared → Prop} (F₀ : Fr h₀ L s.heap m)
    (hclos : closureFor scope env = pure cl) (hcell : ∀ y ∈ scope.names, y.2 ≠ .cell) (hkind : scope.kind = .function)
    (hnames : ∀ y ∈ scope.names, y.2 = .local → scope.names.lookup y.1 = some .local)
    (h : wpAny (model prog w) A (eval iter env) (fun xv s₁ => wpAny (model prog w) A (pyIter xv) (CPlan prog w A h₀ L m env elt target ifs scope cl (fun s₂ => FinE h₀ L m s₂ Q)) E s₁) E s)
    (hs : ∀ x, foldedSetIterable iter env x = pure x := by intro _; rfl) :
    wpAny (model prog w) A (eval (.ListComp elt [⟨target, iter, ifs, 0⟩] scope pos) env) Q E s := by
  rw [eval_ListComp]
  refine wpAny_comprehension_free (use := none) rfl hs hclos hkind hnames (wpAny_mono h (fun xv s₁ h₁ => wpAny_mono h₁ (fun it s₂ h₂ => ?_) fun _ _ e => e) fun _ _ e => e)
  obtain ⟨I, fp, wr, fr, n, P, Md, St, news, V, J, Bd, hV, rfl, W, hself, hsz, hB, hlive, hfr, hwf, hfrL, hst, F, N, hJ, turn, fin⟩ := h₂
  refine comp_block hV W hself hsz hB hlive hfr hwf hfrL hcell hkind hst F N hJ turn ?_
  intro D C h tk m' ys F' N' o1 hn hC₀ hD₀ hCL hDL hCD offC hJ'
  refine ⟨m', hn, fun h'' hs'' => fin ys hJ' D h'' tk (F'.change hs'' hCL hC₀) (fun p hp => ?_) o1⟩
  refine ⟨hs''.extBut _ _ ?_ (N' p hp).1, (N' p hp).2⟩
  rcases List.mem_cons.mp hp with rfl | hp
  · exact Ne.symm hCD
  · exact offC p hp

theorem comp_assign {elt target iter : PySem.Expr} {ifs : List PySem.Expr} {y : Str} {py : Pos} {scope : Scope} {cl : List (Str × Addr)} {pos spos : Pos} {Q : Flow → Shared → Prop} (F₀ : Fr h₀ L s.heap m) (hLe : env.locals = L)
    (hsw : swapsWith (.ListComp elt [⟨target, iter, ifs, 0⟩] scope pos) (some (.Name y py)) spos.line env = pure true)
    (hclos : closureFor scope env = pure cl) (hcell : ∀ z ∈ scope.names, z.2 ≠ .cell) (hkind : scope.kind = .function)
    (hnames : ∀ z ∈ scope.names, z.2 = .local → scope.names.lookup z.1 = some .local)
    (hy : env.kindOf y = some .local) (hp : (env.scope.kind == .class || (env.scope.kind == .module && env.locals != env.globals)) = false)
    (h : wpAny (model prog w) A (eval iter env) (fun xv s₁ => wpAny (model prog w) A (pyIter xv) (CPlan prog w A h₀ L m env elt target ifs scope cl (fun s₂ => FinA h₀ L m s₂ y Q)) E s₁) E s)
    (hs : ∀ x, foldedSetIterable iter env x = pure x := by intro _; rfl) :
    wpAny (model prog w) A (exec (.Assign [.Name y py] (.ListComp elt [⟨target, iter, ifs, 0⟩] scope pos) spos) env) Q E s := by
  subst hLe
  rw [exec_Assign_Name_used _ _ _ _ hsw]
  refine wpAny_bind (wpAny_standAt (wpAny_bind ?_))
  show wpAny _ A (do let _ ← comprehension (.ListComp elt [⟨target, iter, ifs, 0⟩] scope pos) scope env _ (newList []) false (eval iter env) (some (assign (.Name y py) env))) _ _ s
  refine wpAny_bind (wpAny_mono (wpAny_comprehension_free (use := some (assign (.Name y py) env)) (Q := fun _ s' => Q .next s') rfl hs hclos hkind hnames
    (wpAny_mono h (fun xv s₁ h₁ => wpAny_mono h₁ (fun it s₂ h₂ => ?_) fun _ _ e => e) fun _ _ e => e)) (fun _ s' hq => wpAny_pure (wpAny_pure hq)) fun _ _ e => e)
  obtain ⟨I, fp, wr, fr, n, P, Md, St, news, V, J, Bd, hV, rfl, W, hself, hsz, hB, hlive, hfr, hwf, hfrL, hst, F, N, hJ, turn, fin⟩ := h₂
  refine comp_block hV W hself hsz hB hlive hfr hwf hfrL hcell hkind hst F N hJ turn ?_
  intro D C h' tk m' ys F' N' o1 hn hC₀ hD₀ hCL hDL hCD offC hJ'
  show wpAny _ A (assign (.Name y py) env (.ref D)) _ _ _
  refine wpAny_assign_Name (wpAny_storeName_local hy F'.ns (fun h₂ hn₂ hs₂ => ?_) hp)
  have hL₀ : h₀.get? env.locals = none := Heap.get?_none_of_le F'.above
  have F₂ : Fr h₀ env.locals h₂ (fun z => if z = y then some (.ref D) else m z) := ⟨hn₂, fun b o e => hs₂.extBut b o (fun q => by rw [q, hL₀] at e; cases e) (F'.keep b o e), F'.above⟩
  refine ⟨m', hn.sameBut hs₂ hCL, fun h'' hs'' => fin ys hJ' D h'' _ (F₂.change hs'' hCL hC₀) (fun p hp => ?_) o1⟩
  have z : h₂.get? p.1 = some p.2 := hs₂.extBut _ _ (N' p hp).2.1 (N' p hp).1
  refine ⟨hs''.extBut _ _ ?_ z, (N' p hp).2⟩
  rcases List.mem_cons.mp hp with rfl | hp
  · exact Ne.symm hCD
  · exact offC p hp

theorem binds_name {y : Str} {py : Pos} {scope : Scope} {cl : List (Str × Addr)} {C : Addr} {n : Nat} {P : Nat → Value → Prop} (hkind : scope.kind = .function) (hx : scope.names.lookup y = some .local) :
    Binds prog w A (.Name y py) (compEnvC scope cl C env) n (fun i v _ => P i v) (fun i m₃ => ∃ v, P i v ∧ m₃ y = some v) := by
  intro i v s m' Q E hi hP hn hQ
  refine wpAny_assign_Name (wpAny_storeName_local (lookup_relabel_local hx) hn (fun h₃ hn₃ hs₃ => ?_) (by simp [compEnvC, relabel, hkind]))
  exact hQ h₃ _ _ hn₃ ⟨v, hP, by simp⟩ fun c o hc e => hs₃.extBut c o hc e

/-- one fresh iterator, one name -/
theorem plan_one {elt : PySem.Expr} {y : Str} {py : Pos} {ifs : List PySem.Expr} {scope : Scope} {cl : List (Str × Addr)} {Fin : Shared → List Value → List (Addr × Obj) → Prop}
    {s₂ : Shared} {I : Addr} {fp wr : List Addr} {n : Nat} {P : Nat → Value → Prop} {St : Nat → Heap → Prop} {news : List (Addr × Obj)} {J : Nat → List Value → Prop}
    (W : Walks prog w A I fp wr n P St) (hsz : n ≤ sizeLine) (hkind : scope.kind = .function) (hx : scope.names.lookup y = some .local)
    (hlive : ∀ i h, St i h → ∃ o, h.get? I = some o) (hfp : ∀ b ∈ fp, b = I ∨ (∃ o, h₀.get? b = some o) ∨ ∃ o, (b, o) ∈ news) (hwr : ∀ b ∈ wr, b = I) (hI : I ≠ L ∧ h₀.get? I = none ∧ ∀ p ∈ news, p.1 ≠ I)
    (hst : St 0 s₂.heap) (F : Fr h₀ L s₂.heap m) (N : News h₀ L s₂.heap news) (hJ : J 0 [])
    (turn : ∀ i v ys oI C oC D m₂ h tk (E' : Value → Shared → Prop), i < n → P i v → J i ys → NsObj oC m₂ → m₂ y = some v → Fr h₀ L h m → News h₀ L h ((I, oI) :: (C, oC) :: (D, lst ys) :: news) →
      CTests prog w A ifs elt (compEnvC scope cl C env) (CDone h₀ L m { s₂ with heap := h, toks := tk } ((I, oI) :: (C, oC) :: (D, lst ys) :: news) fun y => J (i + 1) (ys ++ [y]))
        (CDone h₀ L m { s₂ with heap := h, toks := tk } ((I, oI) :: (C, oC) :: (D, lst ys) :: news) (fun _ => J (i + 1) ys) .none) E' { s₂ with heap := h, toks := tk })
    (fin : ∀ ys, J n ys → Fin s₂ ys news) : CPlan prog w A h₀ L m env elt (.Name y py) ifs scope cl Fin (.ref I) s₂ := by
  refine CPlan.of I fp wr [I] n (fun i v _ => P i v) _ St news J (fun i m₃ => ∃ v, P i v ∧ m₃ y = some v) rfl (KTurns.ofWalks W (fun i v s Q E _ hQ => wpAny_pure hQ)) W.self hsz (fun C => binds_name hkind hx)
    (fun i h st b hb => ?_) (fun b hb => ?_) (fun b hb => ?_) (fun b hb => ?_) hst F N hJ ?_ fin
  · rw [List.mem_singleton.mp hb]; exact hlive i h st
  · rcases hfp b hb with h | h
    · exact .inl (by rw [h]; exact List.mem_singleton.mpr rfl)
    · exact .inr h
  · exact List.mem_singleton.mpr (hwr b hb)
  · rw [List.mem_singleton.mp hb]; exact hI
  · intro i ys own C oC D m₂ h tk E' hi hJ' hown hC hbd F' N'
    obtain ⟨v, hP, hv⟩ := hbd
    obtain ⟨oI, rfl⟩ : ∃ oI, own = [(I, oI)] := by
      clear turn F' N' fin W
      cases own with
      | nil => cases hown
      | cons p r =>
        cases r with
        | nil => exact ⟨p.2, by simp only [List.map_cons, List.map_nil, List.cons.injEq, and_true] at hown; rw [← hown]⟩
        | cons p' r => simp at hown
    exact turn i v ys oI C oC D m₂ h tk E' hi hP hJ' hC hv F' N'

theorem plan_str {x : Str} {t : Tok} {elt : PySem.Expr} {y : Str} {py : Pos} {ifs : List PySem.Expr} {scope : Scope} {cl : List (Str × Addr)} {Fin : Shared → List Value → List (Addr × Obj) → Prop} {news : List (Addr × Obj)} (J : Nat → List Value → Prop)
    (hh : A.handled = none) (F : Fr h₀ L s.heap m) (N : News h₀ L s.heap news) (hsz : x.cps.size ≤ sizeLine) (hkind : scope.kind = .function) (hx : scope.names.lookup y = some .local) (hJ : J 0 [])
    (turn : ∀ i c u ys I oI C oC D m₂ h tk (E' : Value → Shared → Prop) s₂, s₂ = { s with heap := h, toks := tk } → x.cps[i]? = some c → J i ys → NsObj oC m₂ → m₂ y = some (.str ⟨#[c]⟩ u) → Fr h₀ L h m → News h₀ L h ((I, oI) :: (C, oC) :: (D, lst ys) :: news) →
      CTests prog w A ifs elt (compEnvC scope cl C env) (CDone h₀ L m s₂ ((I, oI) :: (C, oC) :: (D, lst ys) :: news) fun y => J (i + 1) (ys ++ [y]))
        (CDone h₀ L m s₂ ((I, oI) :: (C, oC) :: (D, lst ys) :: news) (fun _ => J (i + 1) ys) .none) E' s₂)
    (fin : ∀ g ys, J x.cps.size ys → Fin { s with heap := g } ys news) : wpAny (model prog w) A (pyIter (.str x t)) (CPlan prog w A h₀ L m env elt (.Name y py) ifs scope cl Fin) E s := by
  have go : ∀ (o : Obj) (St : Nat → Heap → Prop), Walks prog w A s.heap.objs.size [s.heap.objs.size] [s.heap.objs.size] x.cps.size (SignAt x) St → (∀ i h, St i h → ∃ o, h.get? s.heap.objs.size = some o) → St 0 (s.heap.push o) → CPlan prog w A h₀ L m env elt (.Name y py) ifs scope cl Fin (.ref s.heap.objs.size) { s with heap := s.heap.push o } := fun o St W hl hst => by
    refine plan_one (J := J) (news := news) W hsz hkind hx hl (fun b hb => .inl (List.mem_singleton.mp hb)) (fun b hb => List.mem_singleton.mp hb)
      ⟨Nat.ne_of_gt F.ns.lt, next_is_new F, fun p hp => Nat.ne_of_lt (Heap.lt_size (N p hp).1)⟩ hst (F.keeps fun _ _ e => Heap.get?_push_of_some _ e) (N.grown fun _ _ e => Heap.get?_push_of_some _ e) hJ ?_ (fun ys hJ => fin _ ys hJ)
    intro i v ys oI C oC D m₂ h tk E' hi hP hJ' hC hv F' N'
    obtain ⟨c, u, hc, rfl⟩ := hP
    exact turn i c u ys _ oI C oC D m₂ h tk E' _ rfl hc hJ' hC hv F' N'
  cases ha : x.cps.all (· < 128)
  · exact wpAny_pyIter_wide ha (go _ _ (Walks.strWide hh _ x t) (fun i h st => let ⟨o, e, _⟩ := st; ⟨o, e⟩) ⟨_, Heap.get?_push_size _ rfl, rfl, rfl⟩)
  · exact wpAny_pyIter_ascii ha (go _ _ (Walks.strAscii hh _ x t) (fun i h st => let ⟨o, e, _⟩ := st; ⟨o, e⟩) ⟨_, Heap.get?_push_size _ rfl, rfl, rfl⟩)

theorem plan_list {ax : Addr} {its : Array Value} {elt : PySem.Expr} {y : Str} {py : Pos} {ifs : List PySem.Expr} {scope : Scope} {cl : List (Str × Addr)} {Fin : Shared → List Value → List (Addr × Obj) → Prop} {news : List (Addr × Obj)} (J : Nat → List Value → Prop)
    (hh : A.handled = none) (F : Fr h₀ L s.heap m) (N : News h₀ L s.heap news) (hax : (∃ o, h₀.get? ax = some o) ∨ ∃ o, (ax, o) ∈ news) (hl : s.heap.IsList ax its) (hsz : its.size ≤ sizeLine) (hkind : scope.kind = .function) (hx : scope.names.lookup y = some .local) (hJ : J 0 [])
    (turn : ∀ i v ys I oI C oC D m₂ h tk (E' : Value → Shared → Prop) s₂, s₂ = { s with heap := h, toks := tk } → its[i]? = some v → J i ys → NsObj oC m₂ → m₂ y = some v → Fr h₀ L h m → News h₀ L h ((I, oI) :: (C, oC) :: (D, lst ys) :: news) →
      CTests prog w A ifs elt (compEnvC scope cl C env) (CDone h₀ L m s₂ ((I, oI) :: (C, oC) :: (D, lst ys) :: news) fun y => J (i + 1) (ys ++ [y]))
        (CDone h₀ L m s₂ ((I, oI) :: (C, oC) :: (D, lst ys) :: news) (fun _ => J (i + 1) ys) .none) E' s₂)
    (fin : ∀ g ys, J its.size ys → Fin { s with heap := g } ys news) : wpAny (model prog w) A (pyIter (.ref ax)) (CPlan prog w A h₀ L m env elt (.Name y py) ifs scope cl Fin) E s := by
  have hlt : ax < s.heap.objs.size := by obtain ⟨_, e, _⟩ := hl; exact Heap.lt_size e
  refine wpAny_pyIter_list hl ?_
  refine plan_one (J := J) (news := news) (Walks.list hh s.heap.objs.size ax (Nat.ne_of_lt hlt) its) hsz hkind hx (fun i h st => let ⟨o, e, _⟩ := st.1; ⟨o, e⟩) (fun b hb => ?_) (fun b hb => List.mem_singleton.mp hb)
    ⟨Nat.ne_of_gt F.ns.lt, next_is_new F, fun p hp => Nat.ne_of_lt (Heap.lt_size (N p hp).1)⟩ ⟨⟨_, Heap.get?_push_size _ rfl, rfl, rfl⟩, hl.push _⟩ (F.keeps fun _ _ e => Heap.get?_push_of_some _ e) (N.grown fun _ _ e => Heap.get?_push_of_some _ e) hJ ?_ (fun ys hJ => fin _ ys hJ)
  · rcases List.mem_cons.mp hb with h | h
    · exact .inl h
    · exact .inr (by rw [List.mem_singleton.mp h]; exact hax)
  · intro i v ys oI C oC D m₂ h tk E' hi hP hJ' hC hv F' N'
    exact turn i v ys _ oI C oC D m₂ h tk E' _ rfl hP hJ' hC hv F' N'

theorem plan_range {r : Addr} {a b : Int} {t u v : Tok} {n : Nat} {elt : PySem.Expr} {y : Str} {py : Pos} {ifs : List PySem.Expr} {scope : Scope} {cl : List (Str × Addr)} {Fin : Shared → List Value → List (Addr × Obj) → Prop} {news : List (Addr × Obj)} (J : Nat → List Value → Prop)
    (hh : A.handled = none) (F : Fr h₀ L s.heap m) (N : News h₀ L s.heap news) (hr : IsRange s.heap r a b 1 t u v) (hsm : Builtin.Range.small a b 1 = true) (hn : Builtin.Range.rangeSize a b 1 = ((n : Nat) : Int)) (hsz : n ≤ sizeLine) (hkind : scope.kind = .function) (hx : scope.names.lookup y = some .local) (hJ : J 0 [])
    (turn : ∀ i t ys I oI C oC D m₂ h tk (E' : Value → Shared → Prop) s₂, s₂ = { s with heap := h, toks := tk } → i < n → J i ys → NsObj oC m₂ → m₂ y = some (.int (a + (i : Nat)) t) → Fr h₀ L h m → News h₀ L h ((I, oI) :: (C, oC) :: (D, lst ys) :: news) →
      CTests prog w A ifs elt (compEnvC scope cl C env) (CDone h₀ L m s₂ ((I, oI) :: (C, oC) :: (D, lst ys) :: news) fun y => J (i + 1) (ys ++ [y]))
        (CDone h₀ L m s₂ ((I, oI) :: (C, oC) :: (D, lst ys) :: news) (fun _ => J (i + 1) ys) .none) E' s₂)
    (fin : ∀ g ys, J n ys → Fin { s with heap := g } ys news) : wpAny (model prog w) A (pyIter (.ref r)) (CPlan prog w A h₀ L m env elt (.Name y py) ifs scope cl Fin) E s := by
  refine wpAny_pyIter_range hr hsm ?_
  refine plan_one (J := J) (news := news) (range_walks hh a n) hsz hkind hx (fun i h st => ⟨_, st⟩) (fun b hb => .inl (List.mem_singleton.mp hb)) (fun b hb => List.mem_singleton.mp hb)
    ⟨Nat.ne_of_gt F.ns.lt, next_is_new F, fun p hp => Nat.ne_of_lt (Heap.lt_size (N p hp).1)⟩ (by show IsRangeIter _ _ _ _ _; rw [hn]; simpa using Heap.get?_push_size _ rfl) (F.keeps fun _ _ e => Heap.get?_push_of_some _ e) (N.grown fun _ _ e => Heap.get?_push_of_some _ e) hJ ?_ (fun ys hJ => fin _ ys hJ)
  intro i v ys oI C oC D m₂ h tk E' hi hP hJ' hC hv F' N'
  obtain ⟨t, rfl⟩ := hP
  exact turn i t ys _ oI C oC D m₂ h tk E' _ rfl hi hJ' hC hv F' N'
end
end
local macro_rules | `(tactic| walk_at "mine:drop") => `(tactic| first | k_asm | (refine cb_drop (by assumption) (by kcj_all)))
local macro_rules | `(tactic| walk_at "eval ListComp") => `(tactic| (k_here; k_dflt (refine comp_eval (F₀ := by k_asm) (by with_unfolding_all rfl) (by decide) (by rfl) (by decide) ?_)))
local macro_rules | `(tactic| walk_at "mine:enterC") => `(tactic| (refine code_defC (by k_asm) (by k_asm) (by k_asm) (by k_asm) (by k_asm) (by rfl) (by rfl) (by assumption) (by k_is) (by k_is) (by ktr_room) (by exact BindsTo.of_eq rfl) (by rfl) (by decide +kernel) ?_ (by rfl) (by rfl) (by rfl); k_whole; intro g' L' h' tk' cells' FG' F' N' Y' B' X' T' l1; k_cells Y'; (try simp only [List.cons_append, List.nil_append] at N'); (try dsimp only); (try k_lift B'); (try k_fold)))
local macro_rules | `(tactic| k_all) => `(tactic| exact above_all (by assumption) (by first | exact Nat.le_refl _ | exact Nat.le_add_right _ _ | omega))
section
theorem start_W1 : True := by w_top off; exact trivial
theorem above_all {news : List (Addr × Obj)} {L c : Addr} (l : ∀ p ∈ news, p.1 < L) (h : L ≤ c) : ∀ p ∈ news, p.1 ≠ c := fun p hp => Nat.ne_of_lt (Nat.lt_of_lt_of_le (l p hp) h)
theorem mod4 (k : Int) : k.fmod 4 = 0 ∨ k.fmod 4 = 1 ∨ k.fmod 4 = 2 ∨ k.fmod 4 = 3 := by
  have h1 := Int.fmod_nonneg_of_pos k (b := 4) (by lia)
  have h2 := Int.fmod_lt_of_pos k (b := 4) (by lia)
  lia
/-- texts made sign by sign -/
theorem strs_snoc {y : Str} {t : Tok} : ∀ {vs : List Value} {ys : List Str}, StrsAre vs ys → StrsAre (vs ++ [.str y t]) (ys ++ [y])
  | _, _, .nil => .cons y t .nil
  | _, _, .cons z u r => .cons z u (strs_snoc r)
theorem strs_turn {ns : List Nat} {g : Nat → Str} {ys : List Value} {i c : Nat} {y : Str} {t : Tok} (h : StrsAre ys ((ns.take i).map g)) (hc : ns.toArray[i]? = some c) (e : y = g c) : StrsAre (ys ++ [.str y t]) ((ns.take (i + 1)).map g) := by
  subst e
  have hc' : ns[i]? = some c := by simpa using hc
  rw [List.take_add_one, hc', List.map_append]
  exact strs_snoc h
theorem weigh_map {g : Nat → Str} {ns : List Nat} {b n : Nat} (h : ∀ c, (g c).length ≤ b) (hn : ns.length ≤ n) (hb : n * b + n ≤ 1048576) : ((ns.map g).map (·.length)).sum + (ns.map g).length ≤ 1048576 := by
  have : ((ns.map g).map (·.length)).sum ≤ ns.length * b := by
    clear hn
    induction ns with
    | nil => simp
    | cons c r ih => simp only [List.map_cons, List.sum_cons, List.length_cons, Nat.add_mul, Nat.one_mul]; have := h c; lia
  have h2 : ns.length * b ≤ n * b := Nat.mul_le_mul_right _ hn
  rw [List.length_map]
  lia
theorem str_app (a b : List Nat) : (⟨a.toArray⟩ : Str) ++ ⟨b.toArray⟩ = ⟨(a ++ b).toArray⟩ := by
  show (⟨a.toArray ++ b.toArray⟩ : Str) = _
  simp
theorem join_flat : ∀ l : List (List Nat), Txt.join (Str.ofString "") (l.map fun x => (⟨x.toArray⟩ : Str)) = ⟨l.flatten.toArray⟩ := by
  intro l
  show Builtin.Str.glued _ _ = _
  rw [StrLaws.glued_eq_join, empty_is]
  induction l with
  | nil => rfl
  | cons x r ih =>
    cases r with
    | nil => show (⟨x.toArray⟩ : Str) = _; simp
    | cons y r =>
      show (⟨x.toArray⟩ : Str) ++ ⟨#[]⟩ ++ Str.join ⟨#[]⟩ ((y :: r).map fun x => (⟨x.toArray⟩ : Str)) = _
      rw [ih]
      have e : (⟨x.toArray⟩ : Str) ++ ⟨#[]⟩ = ⟨x.toArray⟩ := by
        have := str_app x []
        simpa using this
      rw [e, str_app]
      simp
theorem len_is (l : List Nat) : (⟨l.toArray⟩ : Str).length = l.length := by show l.toArray.size = _; simp
theorem of_list (x : Str) : x = ⟨x.cps.toList.toArray⟩ := by cases x; simp
/-! ### _law_written -/
noncomputable def hardF (ns : List Nat) (f : Int) : Str := if f.fmod 2 ≠ 0 then ⟨ns.toArray⟩ else Txt.slice (Str.ofString "\"\\ \t\n\r") none (some (2 + 2 * f.fmod 4))
noncomputable def escF (x : Str) (c : Nat) : Str := if c ∈ x.cps.toList then ⟨#[92, c]⟩ else ⟨#[c]⟩
noncomputable def markF (f : Int) : Str := if f.fmod 4 < 2 then Str.ofString "\"" else Str.ofString ""
noncomputable def endF (f : Int) : Str := Txt.item (Str.ofString "\n\t \r") ((f.fdiv 4).fmod 4)
noncomputable def writtenF (ns : List Nat) (f : Int) : Str := markF f ++ Txt.join (Str.ofString "") (ns.map (escF (hardF ns f))) ++ markF f ++ endF f
theorem esc_len (x : Str) (c : Nat) : (escF x c).length ≤ 2 := by unfold escF; split <;> exact Nat.le_of_ble_eq_true rfl
theorem esc_no {x y H : Str} {c : Nat} (hx : H = x) (h : (Builtin.Str.occurrences x ⟨#[c]⟩ 0 x.length 1).isEmpty = true) (e : y = ⟨#[c]⟩) : y = escF H c := by
  have h' := PySem.StrLaws.found_one x c
  rw [h] at h'
  unfold escF
  rw [hx, e, if_neg (by simpa using h')]
theorem esc_yes {x y H : Str} {c : Nat} (hx : H = x) (h : (Builtin.Str.occurrences x ⟨#[c]⟩ 0 x.length 1).isEmpty = false) (e : y = ⟨#[92, c]⟩) : y = escF H c := by
  have h' := PySem.StrLaws.found_one x c
  rw [h] at h'
  unfold escF
  rw [hx, e, if_pos (by simpa using h')]
theorem esc_list (x : Str) (c : Nat) : escF x c = ⟨(if c ∈ x.cps.toList then [92, c] else [c]).toArray⟩ := by unfold escF; split <;> rfl
theorem join_esc (x : Str) (ns : List Nat) : Txt.join (Str.ofString "") (ns.map (escF x)) = ⟨(ns.flatMap fun c => if c ∈ x.cps.toList then [92, c] else [c]).toArray⟩ := by
  have := join_flat (ns.map fun c => if c ∈ x.cps.toList then [92, c] else [c])
  rw [List.map_map] at this
  rw [show escF x = (fun x => (⟨x.toArray⟩ : Str)) ∘ (fun c => if c ∈ x.cps.toList then [92, c] else [c]) from funext fun c => esc_list x c, this]
  rfl
theorem join_esc_len (x : Str) (ns : List Nat) : (Txt.join (Str.ofString "") (ns.map (escF x))).length ≤ 2 * ns.length := by
  rw [join_esc, len_is]
  induction ns with
  | nil => simp
  | cons c r ih => rw [List.flatMap_cons, List.length_append, List.length_cons]; split <;> (simp only [List.length_cons, List.length_nil]; lia)
theorem len_quote : (Str.ofString "\"").length = 1 := by decide +kernel
theorem len_empty : (Str.ofString "").length = 0 := by decide +kernel
theorem back_is : Str.ofString "\\" = ⟨#[92]⟩ := by decide +kernel
local macro_rules | `(tactic| walk_at "call builtin:str.join") => `(tactic| (k_here; k_dflt (refine join_listW (by is_list) (by assumption) (by decide +kernel) (weigh_map (b := 2) (n := 64) (esc_len _) (by assumption) (by decide)) ?_); intro _ _))
local macro_rules | `(tactic| walk_at "binaryOp Add str str") => `(tactic| (k_here; refine SBL.add (hsz := ?hsz) ?_; (case hsz => (rw [sizeLine_eq]; simp only [StrLaws.length_append, len_quote, len_empty]; omega)); intro _ _))
noncomputable def wrFd : FuncData := fd 12 3 .none .none
noncomputable def wrTail : List Stmt := match wrFd.body with | .stmts b => b.drop 2 | _ => []
noncomputable abbrev wrEnv (L1 : Addr) : Env := envOfC (Str.ofString "_law_written") wrFd.scope L1 146 (.ref 145)
set_option maxHeartbeats 0 in
theorem written_tail (ns : List Nat) (f : Int) (t t' th tm : Tok) (hn : ns.length ≤ 64) {news : List (Addr × Obj)} {w : World} {mean : ExcName → Option Value} {mg mb : Str → Option Value}
    {dp un : Nat} {gd : Option (List Code)} {cn : Str} {cs : Scope} {a : Addr} {ccd : Value} {cl : List (Str × Addr)} {outer : List Env}
    {base g1 : Heap} {L L1 : Addr} {m : Str → Option Value} {s : Shared} {Q : Flow → Shared → Prop} {E : Value → Shared → Prop} (o1 : Obj)
    (B1 : Below (ktrTop dp un gd cn cs L a ccd cl outer) base (envX cn cs L a ccd cl :: outer) g1) (F1 : Fr g1 L1 s.heap m) (X1 : (K w.params).In g1)
    (N1 : News g1 L1 s.heap ((L1 + 1, o1) :: news)) (T1 : Top q loose mean mg mb g1)
    (l1 : ∀ p ∈ news, p.1 < L1) (d1 : o1.data = .cell (some (.str (hardF ns f) th))) (hm1 : m (Str.ofString "token") = some (.str ⟨ns.toArray⟩ t)) (hm2 : m (Str.ofString "manner") = some (.int f t')) (hm3 : m (Str.ofString "mark") = some (.str (markF f) tm))
    (hd : dp + 20 + 2 < recursionLimit) (hu : un + 100 + 10 * 2 < cLine)
    (hret : ∀ v m' h' tk', IsS (writtenF ns f) v → Fr g1 L1 h' m' → News g1 L1 h' news → Q (.ret v) { s with heap := h', toks := tk' }) :
    wpAny (model PySem.Challenge.rw_rw0107_01.row.prog w) ((ktrTop dp un gd cn cs L a ccd cl outer).deeper (wrEnv L1)) (execs wrTail (wrEnv L1)) Q E s := by
  dsimp only [wrTail, wrEnv, wrFd]
  revert X1; k_fill; intro X1
  with_unfolding_all show wpAny _ _ (execs [Stmt.Assign _ _ _, Stmt.Return _ _] _) _ _ _
  have hmk : (markF f).length ≤ 1 := by unfold markF; split <;> decide +kernel
  (try walk_at "mine:let")
  k_steps
  refine plan_str (fun i ys => StrsAre ys ((ns.take i).map (escF (hardF ns f)))) (by rfl) (by k_asm) (by k_asm) (by (show ns.toArray.size ≤ sizeLine; rw [sizeLine_eq, List.size_toArray]; lia)) (by rfl) (by rfl) .nil ?_ ?_
  · intro i c u ys I oI C oC D m₂ h tk E' s₂ hs hc hJ hC hm F N
    subst hs
    show wpAny _ _ (eval _ _) _ _ _
    k_steps
    all_goals refine CDone.intro (by k_asm) (by walk_at "mine:drop") ?_
    all_goals refine strs_turn (by assumption) (by assumption) ?_
    · exact esc_no rfl (by assumption) rfl
    · exact esc_yes rfl (by assumption) (by rw [back_is]; rfl)
  intro g ys hJ
  rw [show (ns.toArray.size) = ns.length from rfl, List.take_length] at hJ
  have hl := join_esc_len (hardF ns f) ns
  k_steps
  refine hret _ _ _ _ ?_ (by k_asm) (by walk_at "mine:drop")
  exact isS (by unfold writtenF endF; rfl)
set_option maxHeartbeats 0 in
theorem t_written (ns : List Nat) (f : Int) (t t' : Tok) (hn : ns.length ≤ 64) : Claim 2 146 [.str ⟨ns.toArray⟩ t, .int f t'] (IsS (writtenF ns f)) := by
  have stp : StopRet := trivial
  dsimp only [Claim]; k_fill
  intro w mean mg mb news dp un gd cn cs a ccd cl outer A₀ base h₀ L m s Q E B F X N T hk hd hu hret
  refine wpAny_call ?_
  walk_at "mine:enterC"
  (try walk_at "mine:let")
  k_steps
  all_goals first
    | have hh : hardF ns f = ⟨ns.toArray⟩ := if_pos (by assumption)
    | have hh : hardF ns f = Txt.slice (Str.ofString "\"\\ \t\n\r") none (some (2 + 2 * f.fmod 4)) := if_neg (by lia)
  all_goals (rename Fr _ _ _ _ => F9; rename News _ _ _ _ => N9; unfold Hlt)
  all_goals first
    | have hm : markF f = Str.ofString "\"" := if_pos (by assumption)
    | have hm : markF f = Str.ofString "" := if_neg (by assumption)
  all_goals refine written_tail ns f t t' _ _ hn _ (by assumption) F9 (by assumption) N9 (by assumption) (by assumption) (by rw [hh]; assumption) (by with_unfolding_all rfl) (by with_unfolding_all rfl) (by rw [hm]; with_unfolding_all rfl) hd hu ?_
  all_goals (intro v m' h' tk' hv F8 N8; k_steps; exact hret _ _ _ hv (by k_asm) (by assumption))
end
section
open PySem PySem.W PySem.Spec PySem.Calls PyProof.Rows PyProof.Rows.LCg
/-- where the parts of a zip lie -/
structure Apart (z TI TO i1 i2 : Addr) (fp1 fp2 : List Addr) : Prop where
  TIz : TI ≠ z
  TOz : TO ≠ z
  i1z : i1 ≠ z
  i2z : i2 ≠ z
  TITO : TI ≠ TO
  TIi1 : TI ≠ i1
  TIi2 : TI ≠ i2
  TOi1 : TO ≠ i1
  TOi2 : TO ≠ i2
  i12 : i1 ≠ i2
  in1 : i1 ∈ fp1
  in2 : i2 ∈ fp2
  f1 : ∀ b ∈ fp1, b ≠ z ∧ b ≠ TO ∧ b ≠ i2
  f2 : ∀ b ∈ fp2, b ≠ z ∧ b ≠ TO ∧ b ≠ i1
section
variable {prog : Program} {w : World} {A : Around} {E : Value → Shared → Prop} {s : Shared}

theorem zip_itemD {z TI TO i1 i2 : Addr} {fp1 fp2 : List Addr} {n k : Nat} {P1 P2 : Nat → Value → Prop} {St1 St2 : Nat → Heap → Prop} {a b : Value} {Q : Value → Shared → Prop} (D : Apart z TI TO i1 i2 fp1 fp2)
    (D1 : Draws prog w A i1 fp1 n P1 St1) (D2 : Draws prog w A i2 fp2 n P2 St2) (hk : k < n)
    (hz : IsZip s.heap z TI TO .none) (hTI : IsPair s.heap TI (.ref i1) (.ref i2)) (hTO : IsPair s.heap TO a b) (h1 : St1 k s.heap) (h2 : St2 k s.heap)
    (hQ : ∀ x y h' tk, P1 k x → P2 k y → IsZip h' z TI TO (rawInt s.heap.objs.size) → IsPair h' TO x y → St1 (k + 1) h' → St2 (k + 1) h' → IsPair h' s.heap.objs.size x y →
      (∀ c o, c ≠ z → c ≠ TO → c ≠ i1 → c ≠ i2 → s.heap.get? c = some o → h'.get? c = some o) → Q (.ref s.heap.objs.size) { s with heap := h', toks := tk }) :
    wpAny (model prog w) A (Builtin.«zip.__next__» ⟨[.ref z], []⟩) (fun fin s' => ∃ v, fin = .done (.ret v) ∧ Q v s') E s := by
  show wpAny _ _ (field (.ref z) 2 >>= _) _ _ _
  refine wpAny_bind (wpAny_field hz rfl (x := .bool false) rfl ?_)
  show wpAny _ _ (field (.ref z) 3 >>= _) _ _ _
  refine wpAny_bind (wpAny_field hz rfl (x := .ref TI) rfl ?_)
  refine wpAny_bind (wpAny_seqItems hTI rfl ?_)
  show wpAny _ _ (Builtin.SmallTypes.ownedTupleIsFree (.ref z) >>= _) _ _ _
  refine wpAny_bind ?_
  unfold Builtin.SmallTypes.ownedTupleIsFree
  refine wpAny_bind (wpAny_field hz rfl (x := .none) rfl (wpAny_pure ?_))
  simp only [if_true]
  refine wpAny_bind (wpAny_rule ?_)
  refine wpAny_bind (wpAny_field hz rfl (x := .ref TO) rfl ?_)
  refine wpAny_bind (wpAny_setField_rec hz (by simp) fun h₁ hz₁ hs₁ => ?_)
  replace hz₁ : IsZip h₁ z TI TO .ellipsis := hz₁
  refine wpAny_bind ?_
  simp only [List.zipIdx_cons, List.zipIdx_nil, List.forIn_cons, List.forIn_nil]
  refine wpAny_bind (wpAny_bind (wpAny_onRaise ?_))
  show wpAny _ _ (Builtin.SmallTypes.nextOf (.ref i1) >>= _) _ _ _
  refine wpAny_bind (D1.item k _ _ _ hk (D1.frame _ _ _ h1 fun b hb o e => hs₁.extBut _ _ (D.f1 b hb).1 e) fun x h₂ tk₂ hx h1₂ hs₂ => wpAny_pure ?_)
  have hTO₂ : IsPair h₂ TO a b := hs₂.extBut _ _ D.TOi1 (hs₁.extBut _ _ D.TOz hTO)
  refine wpAny_bind (wpAny_seqItems hTO₂ rfl ?_)
  refine wpAny_bind (wpAny_updateSeq_pair hTO₂ fun h₃ hTO₃ hs₃ => ?_)
  replace hTO₃ : IsPair h₃ TO x b := hTO₃
  refine wpAny_bind (wpAny_letGo (wpAny_pure ?_))
  refine wpAny_bind (wpAny_bind (wpAny_onRaise ?_))
  show wpAny _ _ (Builtin.SmallTypes.nextOf (.ref i2) >>= _) _ _ _
  refine wpAny_bind (D2.item k _ _ _ hk (D2.frame _ _ _ h2 fun b hb o e => hs₃.extBut _ _ (D.f2 b hb).2.1 (hs₂.extBut _ _ (D.f2 b hb).2.2 (hs₁.extBut _ _ (D.f2 b hb).1 e))) fun y h₄ tk₄ hy h2₄ hs₄ => wpAny_pure ?_)
  have hTO₄ : IsPair h₄ TO x b := hs₄.extBut _ _ D.TOi2 hTO₃
  refine wpAny_bind (wpAny_seqItems hTO₄ rfl ?_)
  refine wpAny_bind (wpAny_updateSeq_pair hTO₄ fun h₅ hTO₅ hs₅ => ?_)
  replace hTO₅ : IsPair h₅ TO x y := hTO₅
  refine wpAny_bind (wpAny_letGo (wpAny_pure (wpAny_pure ?_)))
  refine wpAny_bind (wpAny_seqItems hTO₅ rfl ?_)
  refine wpAny_bind (wpAny_newTuple ?_)
  have hsz : h₅.objs.size = s.heap.objs.size := by rw [hs₅.1, hs₄.1, hs₃.1, hs₂.1, hs₁.1]
  have hz₅ : IsZip h₅ z TI TO .ellipsis := hs₅.extBut _ _ D.TOz.symm (hs₄.extBut _ _ D.i2z.symm (hs₃.extBut _ _ D.TOz.symm (hs₂.extBut _ _ D.i1z.symm hz₁)))
  have hk₅ : ∀ c o, c ≠ z → c ≠ TO → c ≠ i1 → c ≠ i2 → s.heap.get? c = some o → h₅.get? c = some o := fun c o c1 c2 c3 c4 e =>
    hs₅.extBut _ _ c2 (hs₄.extBut _ _ c4 (hs₃.extBut _ _ c2 (hs₂.extBut _ _ c3 (hs₁.extBut _ _ c1 e))))
  have h1₅ : St1 (k + 1) h₅ := D1.frame _ _ _ h1₂ fun b hb o e => hs₅.extBut _ _ (D.f1 b hb).2.1 (hs₄.extBut _ _ (D.f1 b hb).2.2 (hs₃.extBut _ _ (D.f1 b hb).2.1 e))
  have h2₅ : St2 (k + 1) h₅ := D2.frame _ _ _ h2₄ fun b hb o e => hs₅.extBut _ _ (D.f2 b hb).2.1 e
  have hzlt : z < h₅.objs.size := Heap.lt_size hz₅
  show wpAny _ _ (Builtin.SmallTypes.ownedTupleHandOut (.ref z) (.ref h₅.objs.size) >>= _) _ _ _
  refine wpAny_bind ?_
  unfold Builtin.SmallTypes.ownedTupleHandOut
  have hz₆ : IsZip (h₅.push { cls := .type "tuple", data := .seq #[x, y] }) z TI TO .ellipsis := Heap.get?_push_of_some _ hz₅
  refine wpAny_bind (wpAny_setField_rec hz₆ (by simp) fun h₇ hz₇ hs₇ => ?_)
  replace hz₇ : IsZip h₇ z TI TO (rawInt h₅.objs.size) := hz₇
  refine wpAny_setField_rec hz₇ (by simp) fun h₈ hz₈ hs₈ => ?_
  replace hz₈ : IsZip h₈ z TI TO (rawInt h₅.objs.size) := hz₈
  have up : ∀ c o, c ≠ z → h₅.get? c = some o → h₈.get? c = some o := fun c o c1 e => hs₈.extBut _ _ c1 (hs₇.extBut _ _ c1 (Heap.get?_push_of_some _ e))
  have hT₈ : IsPair h₈ h₅.objs.size x y := hs₈.extBut _ _ (Nat.ne_of_gt hzlt) (hs₇.extBut _ _ (Nat.ne_of_gt hzlt) (Heap.get?_push_size _ rfl))
  rw [hsz] at hz₈ hT₈
  refine wpAny_pure ⟨_, rfl, ?_⟩
  show Q (.ref h₅.objs.size) _
  rw [hsz]
  exact hQ x y h₈ _ hx hy hz₈ (up _ _ D.TOz hTO₅) (D1.frame _ _ _ h1₅ fun b hb o e => up b o (D.f1 b hb).1 e) (D2.frame _ _ _ h2₅ fun b hb o e => up b o (D.f2 b hb).1 e) hT₈ fun c o c1 c2 c3 c4 e => up c o c1 (hk₅ c o c1 c2 c3 c4 e)

theorem zip_endD {z TI TO i1 i2 : Addr} {fp1 fp2 : List Addr} {n : Nat} {P1 : Nat → Value → Prop} {St1 : Nat → Heap → Prop} {a b : Value} {Q : Fin → Shared → Prop} (D : Apart z TI TO i1 i2 fp1 fp2)
    (D1 : Draws prog w A i1 fp1 n P1 St1)
    (hz : IsZip s.heap z TI TO .none) (hTI : IsPair s.heap TI (.ref i1) (.ref i2)) (hTO : IsPair s.heap TO a b) (h1 : St1 n s.heap)
    (hE : ∀ h' e, (∀ c o, c ≠ z → c ≠ TO → c ≠ i1 → c ≠ i2 → s.heap.get? c = some o → h'.get? c = some o) → (∃ o, h'.get? e = some o ∧ o.cls = .type "StopIteration") → E (.ref e) { s with heap := h' }) :
    wpAny (model prog w) A (Builtin.«zip.__next__» ⟨[.ref z], []⟩) Q E s := by
  show wpAny _ _ (field (.ref z) 2 >>= _) _ _ _
  refine wpAny_bind (wpAny_field hz rfl (x := .bool false) rfl ?_)
  show wpAny _ _ (field (.ref z) 3 >>= _) _ _ _
  refine wpAny_bind (wpAny_field hz rfl (x := .ref TI) rfl ?_)
  refine wpAny_bind (wpAny_seqItems hTI rfl ?_)
  show wpAny _ _ (Builtin.SmallTypes.ownedTupleIsFree (.ref z) >>= _) _ _ _
  refine wpAny_bind ?_
  unfold Builtin.SmallTypes.ownedTupleIsFree
  refine wpAny_bind (wpAny_field hz rfl (x := .none) rfl (wpAny_pure ?_))
  simp only [if_true]
  refine wpAny_bind (wpAny_rule ?_)
  refine wpAny_bind (wpAny_field hz rfl (x := .ref TO) rfl ?_)
  refine wpAny_bind (wpAny_setField_rec hz (by simp) fun h₁ hz₁ hs₁ => ?_)
  replace hz₁ : IsZip h₁ z TI TO .ellipsis := hz₁
  refine wpAny_bind ?_
  simp only [List.zipIdx_cons, List.zipIdx_nil, List.forIn_cons, List.forIn_nil]
  refine wpAny_bind (wpAny_bind (wpAny_onRaise ?_))
  show wpAny _ _ (Builtin.SmallTypes.nextOf (.ref i1) >>= _) _ _ _
  refine wpAny_bind (D1.done _ _ _ (D1.frame _ _ _ h1 fun b hb o e => hs₁.extBut _ _ (D.f1 b hb).1 e) fun h₂ e hs₂ he => ?_)
  obtain ⟨oe, hoe, hce⟩ := he
  have hz₂ : IsZip h₂ z TI TO .ellipsis := hs₂ _ _ D.i1z.symm hz₁
  have hez : e ≠ z := fun x => by subst x; rw [hz₂] at hoe; cases hoe; simp at hce
  refine wpAny_setField_rec hz₂ (by simp) fun h₃ _ hs₃ => hE h₃ e (fun c o c1 _ c3 _ x => hs₃.extBut _ _ c1 (hs₂ _ _ c3 (hs₁.extBut _ _ c1 x))) ⟨oe, hs₃.extBut _ _ hez hoe, hce⟩

/-- zip's turns over two sources that end together -/
theorem zip_turns {elts : List PySem.Expr} {kk : Nat} {pos : Pos} {z TI TO i1 i2 : Addr} {fp1 fp2 : List Addr} {n : Nat} {P1 P2 : Nat → Value → Prop} {St1 St2 : Nat → Heap → Prop} (D : Apart z TI TO i1 i2 fp1 fp2)
    (D1 : Draws prog w A.in1 i1 fp1 n P1 St1) (D2 : Draws prog w A.in1 i2 fp2 n P2 St2) :
    KTurns prog w A (.Tuple elts kk pos) z (z :: TI :: TO :: (fp1 ++ fp2)) [z, TO, i1, i2] n
      (fun i v h => ∃ T x y, v = .ref T ∧ P1 i x ∧ P2 i y ∧ h.IsTuple T #[x, y])
      (fun i v h => ∃ T x y, v = .ref T ∧ P1 i x ∧ P2 i y ∧ IsPair h T x y ∧ (IsZip h z TI TO (rawInt T) ∧ IsPair h TI (.ref i1) (.ref i2) ∧ (∃ a b, IsPair h TO a b) ∧ St1 (i + 1) h ∧ St2 (i + 1) h) ∧ T ≠ z)
      (fun i h => IsZip h z TI TO .none ∧ IsPair h TI (.ref i1) (.ref i2) ∧ (∃ a b, IsPair h TO a b) ∧ St1 i h ∧ St2 i h) where
  sub := fun b hb => by
    simp only [List.mem_cons, List.not_mem_nil, or_false, List.mem_append] at hb ⊢
    rcases hb with rfl | rfl | rfl | rfl
    · simp
    · simp
    · exact .inr (.inr (.inr (.inl D.in1)))
    · exact .inr (.inr (.inr (.inr D.in2)))
  frame := fun i h h' st k => by
    obtain ⟨hz, hTI, ⟨a, b, hTO⟩, h1, h2⟩ := st
    exact ⟨k z (by simp) _ hz, k TI (by simp) _ hTI, ⟨a, b, k TO (by simp) _ hTO⟩, D1.frame _ _ _ h1 fun b hb o e => k b (by simp [hb]) o e, D2.frame _ _ _ h2 fun b hb o e => k b (by simp [hb]) o e⟩
  item := fun i s Q E hi st hQ => by
    obtain ⟨hz, hTI, ⟨a, b, hTO⟩, h1, h2⟩ := st
    have hT : s.TypeIs (.ref z) "zip" := ⟨_, hz, rfl⟩
    unfold pyNext
    refine wpAny_bind (wpAny_attempt (wpAny_callSpecial?_slot (name := Str.ofString "__next__") hT F.slot_zip_next
      (wpAny_call_entry F.slot_zip_next hT F.entry_zip_next
        (zip_itemD D D1 D2 hi hz hTI hTO h1 h2 fun x y h' tk hx hy hz' hTO' h1' h2' hT' k => wpAny_pure ?_) (F.args_zip_next_1 _))))
    have hzlt : z < s.heap.objs.size := Heap.lt_size hz
    exact hQ _ h' tk ⟨_, x, y, rfl, hx, hy, hT', ⟨hz', k _ _ D.TIz D.TITO D.TIi1 D.TIi2 hTI, ⟨_, _, hTO'⟩, h1', h2'⟩, Nat.ne_of_gt hzlt⟩ fun b o hb e => by
      simp only [List.mem_cons, List.not_mem_nil, or_false, not_or] at hb
      exact k b o hb.1 hb.2.1 hb.2.2.1 hb.2.2.2 e
  go := fun i v s Q E hm hQ => by
    obtain ⟨T, x, y, rfl, hx, hy, hT, ⟨hz, hTI, ⟨a, b, hTO⟩, h1, h2⟩, hTz⟩ := hm
    refine wpAny_letOwnedTupleGo_zip hz fun h' hz' hs' => hQ h' ⟨T, x, y, rfl, hx, hy, ⟨_, hs'.extBut _ _ hTz hT, rfl, _, rfl⟩⟩ ⟨hz', hs'.extBut _ _ D.TIz hTI, ⟨a, b, hs'.extBut _ _ D.TOz hTO⟩, D1.frame _ _ _ h1 fun b hb o e => hs'.extBut _ _ (D.f1 b hb).1 e, D2.frame _ _ _ h2 fun b hb o e => hs'.extBut _ _ (D.f2 b hb).1 e⟩
      fun b o hb e => hs'.extBut _ _ (fun q => hb (by simp [q])) e
  done := fun s Q E st hQ => by
    obtain ⟨hz, hTI, ⟨a, b, hTO⟩, h1, h2⟩ := st
    have hT : s.TypeIs (.ref z) "zip" := ⟨_, hz, rfl⟩
    unfold pyNext
    refine wpAny_bind (wpAny_attempt (wpAny_callSpecial?_slot (name := Str.ofString "__next__") hT F.slot_zip_next
      (wpAny_call_entry F.slot_zip_next hT F.entry_zip_next (zip_endD D D1 hz hTI hTO h1 fun h' e hk he => ?_) (F.args_zip_next_1 _))))
    obtain ⟨o, ho, hc⟩ := he
    refine wpAny_bind (wpAny_isInstance (T := "StopIteration") (b := true) ⟨o, ho, hc⟩ isSubtype_stop ?_)
    exact wpAny_pure (hQ _ _ fun b o hb e => by
      simp only [List.mem_cons, List.not_mem_nil, or_false, not_or] at hb
      exact hk b o hb.1 hb.2.1 hb.2.2.1 hb.2.2.2 e)

noncomputable abbrev sIt (cn : String) (x : Str) (t : Tok) : Obj := { cls := .type cn, data := .fields #[.str x t, .int 0 0] }
noncomputable abbrev zs1 (h : Heap) (cn : String) (x : Str) (t : Tok) : Heap := h.push (sIt cn x t)
noncomputable abbrev zs2 (h : Heap) (cn : String) (x : Str) (t : Tok) (l2 : Addr) : Heap := (zs1 h cn x t).push { cls := .type "list_iterator", data := .fields #[.ref l2, .int 0 0] }
noncomputable abbrev zs3 (h : Heap) (cn : String) (x : Str) (t : Tok) (l2 : Addr) : Heap := (zs2 h cn x t l2).push { cls := .type "tuple", data := .seq #[.ref h.objs.size, .ref (zs1 h cn x t).objs.size] }
noncomputable abbrev zs4 (h : Heap) (cn : String) (x : Str) (t : Tok) (l2 : Addr) : Heap := (zs3 h cn x t l2).push { cls := .type "tuple", data := .seq #[.none, .none] }
noncomputable abbrev zs5 (h : Heap) (cn : String) (x : Str) (t : Tok) (l2 : Addr) : Heap := (zs4 h cn x t l2).push { cls := .type "zip", data := .fields #[.none, .bool false, .bool false, .ref (zs2 h cn x t l2).objs.size, .ref (zs3 h cn x t l2).objs.size] }
noncomputable def MakesIter (cn : String) (x : Str) (t : Tok) : Prop := ∀ (prog : Program) (w : World) (A : Around) (s : Shared) (Q : Value → Shared → Prop) (E : Value → Shared → Prop), Q (.ref s.heap.objs.size) { s with heap := s.heap.push (sIt cn x t) } → wpAny (model prog w) A (pyIter (.str x t)) Q E s
theorem makes_ascii {x : Str} {t : Tok} (ha : x.cps.all (· < 128) = true) : MakesIter "str_ascii_iterator" x t := fun _ _ _ _ _ _ h => wpAny_pyIter_ascii ha h
theorem makes_wide {x : Str} {t : Tok} (ha : x.cps.all (· < 128) = false) : MakesIter "str_iterator" x t := fun _ _ _ _ _ _ h => wpAny_pyIter_wide ha h

set_option maxHeartbeats 1000000 in
theorem meets_zip_sl {cn : String} {x : Str} {t : Tok} (hm : MakesIter cn x t) (l2 : Addr) (ys : Array Value) :
    Meets (Builtin.«zip.__new__» ⟨[.type "zip", .str x t, .ref l2], []⟩) (fun _ R s => s.heap.IsList l2 ys ∧
      R (.ok (.ret (.ref (zs4 s.heap cn x t l2).objs.size))) { s with heap := zs5 s.heap cn x t l2 }) :=
  .of_wp fun prog w A R s h => by
    obtain ⟨hp, g, d, tk, os⟩ := s; obtain ⟨hl2, h⟩ := h
    have hsub := sub_zip
    have hL2 : Heap.IsList (Shared.heap ⟨hp.push (sIt cn x t), g, d, tk, os⟩) l2 ys := Heap.IsList.push hl2 _
    have hm' : ∀ {A : Around} {Q E : Value → Shared → Prop}, Q (.ref hp.objs.size) ⟨hp.push (sIt cn x t), g, d, tk, os⟩ → wpAny (model prog w) A (pyIter (.str x t)) Q E ⟨hp, g, d, tk, os⟩ := fun h => hm _ _ _ _ _ _ h
    wp_walk using hm', wpAny_pyIter_list hL2
    exact ⟨_, rfl, h⟩
end
end
section
open PySem PySem.W PySem.Spec PySem.Calls PyProof.Rows PyProof.Rows.LCg
theorem apart_new (n l2 : Nat) (h : l2 < n) : Apart (n + 4) (n + 2) (n + 3) n (n + 1) [n] [n + 1, l2] :=
  have h2 : ∀ b ∈ [n + 1, l2], @Ne Nat b (n + 4) ∧ @Ne Nat b (n + 3) ∧ @Ne Nat b n := fun b hb => by
    have hb' : b = n + 1 ∨ b = l2 := by simpa using hb
    lia
  have h1 : ∀ b ∈ [n], @Ne Nat b (n + 4) ∧ @Ne Nat b (n + 3) ∧ @Ne Nat b (n + 1) := fun b hb => by
    have hb' : b = n := by simpa using hb
    lia
  ⟨(by lia : @Ne Nat (n + 2) (n + 4)), (by lia : @Ne Nat (n + 3) (n + 4)), (by lia : @Ne Nat n (n + 4)), (by lia : @Ne Nat (n + 1) (n + 4)), (by lia : @Ne Nat (n + 2) (n + 3)), (by lia : @Ne Nat (n + 2) n), (by lia : @Ne Nat (n + 2) (n + 1)),
    (by lia : @Ne Nat (n + 3) n), (by lia : @Ne Nat (n + 3) (n + 1)), (by lia : @Ne Nat n (n + 1)), List.mem_singleton.mpr rfl, List.mem_cons_self, h1, h2⟩
theorem fresh_new {h₀ h : Heap} {L : Addr} {m : Str → Option Value} {news : List (Addr × Obj)} (F : Fr h₀ L h m) (N : News h₀ L h news) (k : Nat) : (h.objs.size + k : Nat) ≠ L ∧ h₀.get? (h.objs.size + k : Nat) = none ∧ ∀ p ∈ news, p.1 ≠ (h.objs.size + k : Nat) := by
  have lt : ∀ b o, h.get? b = some o → b < h.objs.size + k := fun b o e => Nat.lt_of_lt_of_le (Heap.lt_size e) (Nat.le_add_right _ _)
  refine ⟨Nat.ne_of_gt (Nat.lt_of_lt_of_le F.ns.lt (Nat.le_add_right _ _)), ?_, fun p hp => Nat.ne_of_lt (lt _ _ (N p hp).1)⟩
  cases e : h₀.get? (h.objs.size + k : Nat) with
  | none => rfl
  | some o => exact absurd (lt _ _ (F.keep _ _ e)) (Nat.lt_irrefl _)
section
variable {prog : Program} {w : World} {A : Around} {E : Value → Shared → Prop} {s : Shared} {h₀ : Heap} {L : Addr} {m : Str → Option Value} {env : Env}
theorem binds_pair {a b : Str} {pa pb tp : Pos} {kk : Nat} {scope : Scope} {cl : List (Str × Addr)} {C : Addr} {n : Nat} {P1 P2 : Nat → Value → Prop} (hh : A.handled = none) (hkind : scope.kind = .function) (ha : scope.names.lookup a = some .local) (hb : scope.names.lookup b = some .local) (hab : a ≠ b) :
    Binds prog w A (.Tuple [.Name a pa, .Name b pb] kk tp) (compEnvC scope cl C env) n (fun i v h => ∃ T x y, v = .ref T ∧ P1 i x ∧ P2 i y ∧ h.IsTuple T #[x, y]) (fun i m₃ => ∃ x y, P1 i x ∧ P2 i y ∧ m₃ a = some x ∧ m₃ b = some y) := by
  intro i v s m' Q E hi hP hn hQ
  obtain ⟨T, x, y, rfl, hx, hy, hT⟩ := hP
  refine kcp_assign (env := compEnvC scope cl C env) hh hT (lookup_relabel_local ha) (lookup_relabel_local hb) (by simp [compEnvC, relabel, hkind]) hn fun h₄ tk₄ hn₄ hs₄ => ?_
  exact hQ h₄ tk₄ _ hn₄ ⟨x, y, hx, hy, by simp [hab], by simp⟩ hs₄

/-- a comprehension over zip(text, list), both of one length -/
theorem plan_zip_sl {x : Str} {t : Tok} {l2 : Addr} {ys : Array Value} {elt : PySem.Expr} {a b : Str} {pa pb tp : Pos} {kk : Nat} {ifs : List PySem.Expr} {scope : Scope} {cl : List (Str × Addr)} {Fin : Shared → List Value → List (Addr × Obj) → Prop} {news : List (Addr × Obj)} (J : Nat → List Value → Prop)
    (hh : A.handled = none) (F : Fr h₀ L s.heap m) (N : News h₀ L s.heap news) (hax : (∃ o, h₀.get? l2 = some o) ∨ ∃ o, (l2, o) ∈ news) (hl : s.heap.IsList l2 ys) (hlen : ys.size = x.cps.size) (hsz : x.cps.size ≤ sizeLine) (hkind : scope.kind = .function) (ha : scope.names.lookup a = some .local) (hb : scope.names.lookup b = some .local) (hab : a ≠ b) (hJ : J 0 [])
    (turn : ∀ i c u v rs z TI TO i1 i2 oz oTI oTO o1 o2 C oC D m₂ h tk (E' : Value → Shared → Prop) s₂, s₂ = { s with heap := h, toks := tk } → x.cps[i]? = some c → ys[i]? = some v → J i rs → NsObj oC m₂ → m₂ a = some (.str ⟨#[c]⟩ u) → m₂ b = some v → Fr h₀ L h m → News h₀ L h ((z, oz) :: (TI, oTI) :: (TO, oTO) :: (i1, o1) :: (i2, o2) :: (C, oC) :: (D, lst rs) :: news) →
      CTests prog w A ifs elt (compEnvC scope cl C env) (CDone h₀ L m s₂ ((z, oz) :: (TI, oTI) :: (TO, oTO) :: (i1, o1) :: (i2, o2) :: (C, oC) :: (D, lst rs) :: news) fun y => J (i + 1) (rs ++ [y]))
        (CDone h₀ L m s₂ ((z, oz) :: (TI, oTI) :: (TO, oTO) :: (i1, o1) :: (i2, o2) :: (C, oC) :: (D, lst rs) :: news) (fun _ => J (i + 1) rs) .none) E' s₂)
    (fin : ∀ g rs, J x.cps.size rs → Fin { s with heap := g } rs news) :
    wpAny (model prog w) A (call (.type "zip") [.str x t, .ref l2]) (fun xv s₁ => wpAny (model prog w) A (pyIter xv) (CPlan prog w A h₀ L m env elt (.Tuple [.Name a pa, .Name b pb] kk tp) ifs scope cl Fin) E s₁) E s := by
  have go : ∀ (cn : String) (St1 : Nat → Heap → Prop), MakesIter cn x t → (∀ A' : Around, A'.handled = none → Draws prog w A' s.heap.objs.size [s.heap.objs.size] x.cps.size (SignAt x) St1) → (∀ h : Heap, h.get? s.heap.objs.size = some (sIt cn x t) → St1 0 h) →
      wpAny (model prog w) A (call (.type "zip") [.str x t, .ref l2]) (fun xv s₁ => wpAny (model prog w) A (pyIter xv) (CPlan prog w A h₀ L m env elt (.Tuple [.Name a pa, .Name b pb] kk tp) ifs scope cl Fin) E s₁) E s := by
    intro cn St1 hmk hD1 hs1
    refine callType_new PySem.F.called_zip (by decide) (PySem.F.typeCall_zip_2 _ _) (PySem.F.newCall_zip_2 _ _) (fun obj => PySem.F.args_object_init_3 obj _ _) PySem.F.entry_zip_new (meets_zip_sl hmk l2 ys) ⟨hl, ?_⟩
    have hlt : l2 < s.heap.objs.size := by obtain ⟨_, e, _⟩ := hl; exact Heap.lt_size e
    have z1 : (zs1 s.heap cn x t).objs.size = s.heap.objs.size + 1 := Heap.size_push ..
    have z2 : (zs2 s.heap cn x t l2).objs.size = s.heap.objs.size + 2 := by rw [Heap.size_push, z1]
    have z3 : (zs3 s.heap cn x t l2).objs.size = s.heap.objs.size + 3 := by rw [Heap.size_push, z2]
    have z4 : (zs4 s.heap cn x t l2).objs.size = s.heap.objs.size + 4 := by rw [Heap.size_push, z3]
    have g5 : (zs5 s.heap cn x t l2).get? (zs4 s.heap cn x t l2).objs.size = some _ := Heap.get?_push_size _ rfl
    have g4 : (zs5 s.heap cn x t l2).get? (zs3 s.heap cn x t l2).objs.size = some _ := Heap.get?_push_of_some _ (Heap.get?_push_size _ rfl)
    have g3 : (zs5 s.heap cn x t l2).get? (zs2 s.heap cn x t l2).objs.size = some _ := Heap.get?_push_of_some _ (Heap.get?_push_of_some _ (Heap.get?_push_size _ rfl))
    have g2 : (zs5 s.heap cn x t l2).get? (zs1 s.heap cn x t).objs.size = some _ := Heap.get?_push_of_some _ (Heap.get?_push_of_some _ (Heap.get?_push_of_some _ (Heap.get?_push_size _ rfl)))
    have g1 : (zs5 s.heap cn x t l2).get? s.heap.objs.size = some (sIt cn x t) := Heap.get?_push_of_some _ (Heap.get?_push_of_some _ (Heap.get?_push_of_some _ (Heap.get?_push_of_some _ (Heap.get?_push_size _ rfl))))
    have up : ∀ c o, s.heap.get? c = some o → (zs5 s.heap cn x t l2).get? c = some o := fun c o y => Heap.get?_push_of_some _ (Heap.get?_push_of_some _ (Heap.get?_push_of_some _ (Heap.get?_push_of_some _ (Heap.get?_push_of_some _ y))))
    show _ ∧ _
    rw [z2, z3, z4] at g5
    rw [z1, z2] at g3
    rw [z3] at g4
    rw [z1] at g2
    rw [z4]
    generalize zs5 s.heap cn x t l2 = g at g1 g2 g3 g4 g5 up ⊢
    refine ⟨⟨_, g5, rfl⟩, wpAny_pyIter_zip g5 ?_⟩
    have fresh := fresh_new F N
    have D := apart_new s.heap.objs.size l2 hlt
    have W := zip_turns (elts := [.Name a pa, .Name b pb]) (kk := kk) (pos := tp) D (hD1 _ hh) (P2 := fun i v => ys[i]? = some v) (St2 := fun i h => h.IsListIter (s.heap.objs.size + 1 : Nat) l2 i ∧ h.IsList l2 ys) (by rw [← hlen]; exact Draws.list (A := A.in1) (show A.in1.handled = none from hh) _ l2 (Nat.ne_of_lt (Nat.lt_succ_of_lt hlt)) ys)
    refine ⟨_, _, _, [s.heap.objs.size + 4, s.heap.objs.size + 2, s.heap.objs.size + 3, s.heap.objs.size, s.heap.objs.size + 1], x.cps.size, _, _, _, news, (fun _ => []), J, (fun i m₃ => ∃ x' y', SignAt x i x' ∧ ys[i]? = some y' ∧ m₃ a = some x' ∧ m₃ b = some y'), fun _ => rfl, rfl, W, fun i s Q E st hQ => wpAny_pyIter_zip st.1 hQ, hsz, fun C => binds_pair hh hkind ha hb hab, ?_, ?_, ?_, ?_, ⟨g5, g3, ⟨_, _, g4⟩, hs1 _ g1, ⟨⟨_, g2, rfl, rfl⟩, hl.at fun o e => up _ o e⟩⟩, F.keeps up, N.grown up, hJ, ?_, fun rs hJ' => fin _ rs hJ'⟩
    · intro i h st c hc
      obtain ⟨hz, hTI, ⟨p, q, hTO⟩, h1, h2⟩ := st
      simp only [List.mem_cons, List.not_mem_nil, or_false] at hc
      rcases hc with rfl | rfl | rfl | rfl | rfl
      · exact ⟨_, hz⟩
      · exact ⟨_, hTI⟩
      · exact ⟨_, hTO⟩
      · exact (hD1 _ hh).live _ _ h1
      · obtain ⟨o, e, _⟩ := h2.1; exact ⟨o, e⟩
    · intro c hc
      simp only [List.mem_cons, List.not_mem_nil, or_false, List.mem_append] at hc
      rcases hc with rfl | rfl | rfl | rfl | rfl | rfl
      · exact .inl (by simp)
      · exact .inl (by simp)
      · exact .inl (by simp)
      · exact .inl (by simp)
      · exact .inl (by simp)
      · exact .inr hax
    · intro c hc
      simp only [List.mem_cons, List.not_mem_nil, or_false] at hc ⊢
      rcases hc with rfl | rfl | rfl | rfl
      · exact .inl rfl
      · exact .inr (.inr (.inl rfl))
      · exact .inr (.inr (.inr (.inl rfl)))
      · exact .inr (.inr (.inr (.inr rfl)))
    · intro c hc
      simp only [List.mem_cons, List.not_mem_nil, or_false] at hc
      rcases hc with rfl | rfl | rfl | rfl | rfl
      · exact fresh 4
      · exact fresh 2
      · exact fresh 3
      · exact fresh 0
      · exact fresh 1
    · intro i rs own C oC D m₂ h tk E' hi hJ' hown hC hbd _ F' N'
      obtain ⟨x', y', ⟨c, u, hc, rfl⟩, hy, hm1, hm2⟩ := hbd
      obtain ⟨oz, oTI, oTO, o1, o2, rfl⟩ : ∃ oz oTI oTO o1 o2, own = [(s.heap.objs.size + 4, oz), (s.heap.objs.size + 2, oTI), (s.heap.objs.size + 3, oTO), (s.heap.objs.size, o1), (s.heap.objs.size + 1, o2)] := by
        clear turn F' N' fin W
        rcases own with _ | ⟨⟨a1, o1⟩, _ | ⟨⟨a2, o2⟩, _ | ⟨⟨a3, o3⟩, _ | ⟨⟨a4, o4⟩, _ | ⟨⟨a5, o5⟩, _ | ⟨p, r⟩⟩⟩⟩⟩⟩ <;> simp only [List.map_cons, List.map_nil, List.cons.injEq, reduceCtorEq, and_false, and_true] at hown
        obtain ⟨rfl, rfl, rfl, rfl, rfl⟩ := hown
        exact ⟨_, _, _, _, _, rfl⟩
      exact turn i c u y' rs _ _ _ _ _ oz oTI oTO o1 o2 C oC D m₂ h tk E' _ rfl hc hy hJ' hC hm1 hm2 F' N'
  cases ha' : x.cps.all (· < 128)
  · exact go _ _ (makes_wide ha') (fun A' hA => Draws.strWide hA _ x t) (fun h e => ⟨_, e, rfl, rfl⟩)
  · exact go _ _ (makes_ascii ha') (fun A' hA => Draws.strAscii hA _ x t) (fun h e => ⟨_, e, rfl, rfl⟩)
end
end
local macro_rules | `(tactic| walk_at "exec Assign cons ListComp") => `(tactic| (k_here; k_dflt (refine comp_assign (F₀ := by k_asm) (by rfl) (by with_unfolding_all rfl) (by with_unfolding_all rfl) (by decide) (by rfl) (by decide) (by rfl) (by rfl) ?_)))
section
theorem start_W2 : True := by w_top off; exact trivial
local macro_rules | `(tactic| walk_at "call ref") => `(tactic| (k_here; k_dflt (refine (t_b1 _ _).use (by k_asm) (by k_asm) (by k_asm) (by k_asm) (by k_asm) (by rfl) (by ktr_room) (by ktr_units) ?_); k_whole; intro v9 h9 tk9 hP9 F9 N9; subst hP9))
/-- what _law_prepared gives back -/
noncomputable def preparedF (ns : List Nat) : Str := Txt.join (Str.ofString "") ((ns.filter fun c : Nat => !b1List.contains (c : Int)).map b3F)
theorem b3_len (c : Nat) : (b3F c).length ≤ 4 := by
  unfold b3F b3At
  split
  · rename_i x hx
    have : ∀ p ∈ b3Pairs, p.2.length ≤ 4 := by decide +kernel
    rw [Option.map_eq_some_iff] at hx
    obtain ⟨p, hp, rfl⟩ := hx
    exact this p (List.mem_of_find?_eq_some hp)
  · have := len_lower (⟨#[c]⟩ : Str)
    have e : (⟨#[c]⟩ : Str).length = 1 := rfl
    lia
local macro_rules | `(tactic| walk_at "call builtin:str.join") => `(tactic| (k_here; k_dflt (refine join_listW (by is_list) (by assumption) (by decide +kernel) (weigh_map (b := 4) (n := 64) b3_len (Nat.le_trans (List.length_filter_le _ _) (by assumption)) (by decide)) ?_); intro _ _))
theorem ctest_no {prog : Program} {w : World} {A : Around} {elt : PySem.Expr} {cenv : Env} {D1 : Value → Shared → Prop} {D0 : Shared → Prop} {E' : Value → Shared → Prop} {s' : Shared} (h : D0 s') : CTest prog w A elt cenv D1 D0 E' false s' := h
theorem ctest_yes {prog : Program} {w : World} {A : Around} {elt : PySem.Expr} {cenv : Env} {D1 : Value → Shared → Prop} {D0 : Shared → Prop} {E' : Value → Shared → Prop} {s' : Shared} (h : wpAny (model prog w) A (eval elt cenv) D1 E' s') : CTest prog w A elt cenv D1 D0 E' true s' := h
theorem map_turn {α : Type} {ns : List Nat} {g : Nat → α} {ys : List α} {i c : Nat} (h : ys = (ns.take i).map g) (hc : ns.toArray[i]? = some c) : ys ++ [g c] = (ns.take (i + 1)).map g := by
  have hc' : ns[i]? = some c := by simpa using hc
  rw [h, List.take_add_one, hc', List.map_append]
  rfl
set_option maxHeartbeats 0 in
theorem t_prepared (ns : List Nat) (t : Tok) (hn : ns.length ≤ 64) : Claim 3 151 [.str ⟨ns.toArray⟩ t] (IsS (preparedF ns)) := by
  dsimp only [Claim]; k_fill
  intro w mean mg mb news dp un gd cn cs a ccd cl outer A₀ base h₀ L m s Q E B F X N T hk hd hu hret
  refine wpAny_call ?_
  k_dflt cell_enter
  k_steps
  refine plan_str (fun i ys => ys = (ns.take i).map fun c => .bool (b1List.contains (c : Int))) (by rfl) (by k_asm) (by k_asm) (by (show ns.toArray.size ≤ sizeLine; rw [sizeLine_eq, List.size_toArray]; lia)) (by rfl) (by rfl) rfl ?_ ?_
  · intro i c u ys I oI C oC D m₂ h tk E' s₂ hs hc hJ hC hm F N
    subst hs
    show wpAny _ _ (eval _ _) _ _ _
    k_steps
    refine CDone.intro (by k_asm) (by walk_at "mine:drop") ?_
    exact map_turn hJ hc
  intro g ys hJ
  rw [show (ns.toArray.size) = ns.length from rfl, List.take_length] at hJ
  have hyl : ys.length = ns.length := by rw [hJ, List.length_map]
  k_steps
  refine plan_list (its := ys.toArray) (fun i rs => rs = []) (by rfl) (by k_asm) (by k_asm) (.inr ⟨_, by k_mem⟩) (News.isList (by k_asm) (by k_mem)) (by (rw [sizeLine_eq, List.size_toArray]; lia)) (by rfl) (by rfl) rfl ?_ ?_
  · intro i v rs I oI C oC D m₂ h tk E' s₂ hs hc hJ' hC hm F N
    subst hs
    obtain ⟨b, rfl⟩ : ∃ b, v = .bool b := by
      rw [hJ] at hc
      simp only [List.getElem?_toArray, List.getElem?_map, Option.map_eq_some_iff] at hc
      obtain ⟨c, _, rfl⟩ := hc
      exact ⟨_, rfl⟩
    show wpAny _ _ (isTrue _ _ _) _ _ _
    k_steps
    exact ctest_no (CDone.intro (by k_asm) (by walk_at "mine:drop") hJ')
  intro g2 rs hrs
  subst hrs
  k_steps
  refine plan_zip_sl (ys := ys.toArray) (fun i rs => StrsAre rs (((ns.take i).filter fun c : Nat => !b1List.contains (c : Int)).map b3F)) (by rfl) (by k_asm) (by k_asm) (.inr ⟨_, by k_mem⟩) (News.isList (by k_asm) (by k_mem)) (by show ys.toArray.size = ns.toArray.size; simpa using hyl) (by (show ns.toArray.size ≤ sizeLine; rw [sizeLine_eq, List.size_toArray]; lia)) (by rfl) (by rfl) (by rfl) (by decide) .nil ?_ ?_
  · intro i c u v rs z TI TO i1 i2 oz oTI oTO o1 o2 C oC D m₂ h tk E' s₂ hs hc hv hJ' hC hm1 hm2 F N
    subst hs
    have hc' : ns[i]? = some c := by simpa using hc
    obtain rfl : v = .bool (b1List.contains (c : Int)) := by
      rw [hJ] at hv
      simpa [hc'] using hv.symm
    show wpAny _ _ (isTrue _ _ _) _ _ _
    k_steps
    cases hb : b1List.contains (c : Int)
    · refine ctest_yes ?_
      k_steps
      refine CDone.intro (by k_asm) (by walk_at "mine:drop") ?_
      rw [List.take_add_one, hc', List.filter_append, List.map_append]
      simp only [Option.toList_some, List.filter_cons, hb, Bool.not_false, if_true, List.filter_nil, List.map_cons, List.map_nil]
      exact strs_snoc hJ'
    · refine ctest_no (CDone.intro (by k_asm) (by walk_at "mine:drop") ?_)
      rw [List.take_add_one, hc', List.filter_append, List.map_append]
      simp only [Option.toList_some, List.filter_cons, hb, Bool.not_true, Bool.false_eq_true, if_false, List.filter_nil, List.map_nil, List.append_nil]
      exact hJ'
  intro g3 rs hrs
  rw [show (ns.toArray.size) = ns.length from rfl, List.take_length] at hrs
  k_steps
  refine hret _ _ _ ?_ (by k_asm) (by walk_at "mine:drop")
  exact isS rfl
end
local macro_rules | `(tactic| walk_at "call builtin:len") => `(tactic| (k_here; refine PyProof.Rows.len_str (len_fit (by assumption) (by decide)) ?_; (rw [len_is])))
local macro_rules | `(tactic| walk_at "mine:off") => `(tactic| first | assumption | (apply And.right; first | assumption | (apply And.right; first | assumption | (apply And.right; first | assumption | (apply And.right; first | assumption | (apply And.right; first | assumption | (apply And.right; first | assumption | (apply And.right; first | assumption | (apply And.right; first | assumption | (apply And.right; first | assumption | (apply And.right; assumption)))))))))))
local macro_rules | `(tactic| k_all) => `(tactic| first | assumption | exact above_all (by assumption) (by k_dflt (first | exact Nat.le_refl _ | exact Nat.le_add_right _ 1 | exact Nat.le_add_right _ 2 | exact Nat.le_add_right _ 3 | exact Nat.le_add_right _ 4 | exact Nat.le_add_right _ 5 | exact Nat.le_add_right _ 6 | exact Nat.le_add_right _ 7)))
section
local macro_rules | `(tactic| walk_at "execs cons") => `(tactic| (k_here; first | walk_at "mine:stop" | (refine wp_frame ?_; intro Q9 k9; (try dsimp only); refine wp_tok ?_; intro tk9; refine wpAny_execs_cons ?_)))
local macro_rules | `(tactic| k_steps) => `(tactic| repeat' (first | (rename Frm _ _ => k9; refine Frm.use k9 ?_; clear k9) | (k_unfold; (try dsimp only)) | (k_end; wrow_close) | walk1 | (dsimp only; walk1) | (leave1; walk_say "STEP leave1"; try dsimp only) | fail "no step"))
section
theorem start_W3 : True := by w_top off; exact trivial
theorem slice_from_is {ns : List Nat} {i : Nat} (h : i ≤ ns.length) : Txt.slice ⟨ns.toArray⟩ (some (0 + (i : Int))) none = ⟨(ns.drop i).toArray⟩ := by
  rw [slice_from_eq (b := ns.length) (by lia) (by rw [len_is]; lia) (by rw [len_is])]
  have e : (0 + (i : Int)).toNat = i := by lia
  rw [e, List.take_of_length_le (by simp)]
theorem slice_to_is {ns : List Nat} {M : Int} {i : Nat} (e : M = i) (h : i ≤ ns.length) : Txt.slice ⟨ns.toArray⟩ none (some M) = ⟨(ns.take i).toArray⟩ := by
  have := slice_closes_toL (x := (⟨ns.toArray⟩ : Str)) (j := M) (by lia) (by rw [len_is]; lia)
  rw [beq_iff_eq] at this
  rw [this]
  subst e
  simp
theorem slice_rev_is {l : List Nat} {u : Tok} : Txt.sliceBy ⟨l.toArray⟩ none none (-1, u) = ⟨l.reverse.toArray⟩ := by
  have h := step_rev_list (⟨l.toArray⟩ : Str) u
  have e : (List.range (⟨l.toArray⟩ : Str).length).map (fun k => (⟨l.toArray⟩ : Str).cps.getD ((⟨l.toArray⟩ : Str).length - 1 - k) 0) = l.reverse := by
    rw [len_is]
    apply List.ext_getElem
    · simp
    · intro k h1 h2
      simp at h1 h2
      simp [h1, List.getElem_reverse]
      rw [List.getElem?_eq_getElem (Nat.lt_of_le_of_lt (Nat.sub_le _ _) (Nat.sub_lt (Nat.zero_lt_of_lt h1) Nat.one_pos))]
      rfl
  rw [e] at h
  rw [of_list (Txt.sliceBy _ none none (-1, u)), h]
noncomputable def palF (l : List Nat) : Bool := l == l.reverse
noncomputable def placeF (ns : List Nat) : Nat := ((List.range ns.length).find? fun k => palF (ns.drop k)).getD 0
/-- what _law_closed gives back -/
noncomputable def closedF (ns : List Nat) : List Nat := ns ++ (ns.take (placeF ns)).reverse
theorem min_is {p : Nat → Bool} {n : Nat} {M : Int} (hm : M ∈ ((List.range n).filter p).map fun k : Nat => (k : Int)) (hle : ∀ a, a ∈ (((List.range n).filter p).map fun k : Nat => (k : Int)) → M ≤ a) : ∃ k : Nat, M = k ∧ k < n ∧ (List.range n).find? p = some k := by
  rw [List.mem_map] at hm
  obtain ⟨k, hk, rfl⟩ := hm
  rw [List.mem_filter, List.mem_range] at hk
  refine ⟨k, rfl, hk.1, ?_⟩
  rw [List.find?_range_eq_some]
  refine ⟨hk.2, List.mem_range.mpr hk.1, fun j hj => ?_⟩
  cases h : p j with
  | false => rfl
  | true =>
    have := hle j (List.mem_map.mpr ⟨j, List.mem_filter.mpr ⟨List.mem_range.mpr (by lia), h⟩, rfl⟩)
    lia
theorem str_beq {a b : List Nat} : ((⟨a.toArray⟩ : Str) == ⟨b.toArray⟩) = (a == b) := by
  rw [Bool.eq_iff_iff, beq_iff_eq, beq_iff_eq]
  constructor
  · intro h; injection h with h; simpa using h
  · rintro rfl; rfl
theorem last_pal {ns : List Nat} (h0 : 0 < ns.length) : palF (ns.drop (ns.length - 1)) = true := by
  have : (ns.drop (ns.length - 1)).length = 1 := by rw [List.length_drop]; exact Nat.sub_sub_self h0
  obtain ⟨a, e⟩ := List.length_eq_one_iff.mp this
  rw [e]; simp [palF]
theorem len_fit {l : List Nat} {n : Nat} (h : l.length ≤ n) (hn : n ≤ 1000000) : ¬ (((⟨l.toArray⟩ : Str).length : Int) ≥ 2 ^ 63) := by
  rw [len_is, show (2 : Int) ^ 63 = 9223372036854775808 from rfl]
  lia
theorem rev_len (x : Str) (u : Tok) : (Txt.sliceBy x none none (-1, u)).length = x.length := by
  rw [of_list x, slice_rev_is, len_is, len_is, List.length_reverse]
theorem add_fit {ns : List Nat} {M : Option Int} {u : Tok} (h : (Txt.slice ⟨ns.toArray⟩ none M).length ≤ (⟨ns.toArray⟩ : Str).length) (hn : ns.length ≤ 128) : (⟨ns.toArray⟩ : Str).length + (Txt.sliceBy (Txt.slice ⟨ns.toArray⟩ none M) none none (-1, u)).length ≤ sizeLine := by
  rw [sizeLine_eq, rev_len, len_is ns]
  rw [len_is ns] at h
  lia
local macro_rules | `(tactic| walk_at "binaryOp Add str str") => `(tactic| (k_here; k_dflt (refine SBL.add (hsz := add_fit (by assumption) (by assumption)) ?_); intro _ _))
set_option maxHeartbeats 0 in
theorem t_closed (ns : List Nat) (t : Tok) (hn : ns.length ≤ 128) (h0 : 0 < ns.length) : Claim 3 189 [.str ⟨ns.toArray⟩ t] (IsS ⟨(closedF ns).toArray⟩) := by
  dsimp only [Claim]; k_fill
  intro w mean mg mb news dp un gd cn cs a ccd cl outer A₀ base h₀ L m s Q E B F X N T hk hd hu hret
  refine wpAny_call ?_
  walk_at "mine:enterC"
  rename Obj.data _ = _ => hd1
  replace hd1 : _ = Data.cell (some (Value.str ⟨ns.toArray⟩ t)) := hd1
  (try walk_at "mine:let")
  k_steps
  refine plan_range (n := ns.length) (fun i ys => IntsAre ys (((List.range i).filter fun k => palF (ns.drop k)).map fun k : Nat => (k : Int))) (by rfl) (by k_asm) (by k_asm) (by assumption) (small_one (by lia) (by lia) (by lia) (by lia)) (by rw [rangeSize_nat]; lia) (by (rw [sizeLine_eq]; lia)) (by rfl) (by rfl) .nil ?_ ?_
  · intro i t1 ys I oI C oC D m₂ h tk E' s₂ hs hi hJ hC hm F N
    subst hs
    show wpAny _ _ (isTrue _ _ _) _ _ _
    k_steps
    rw [slice_from_is (by lia), slice_rev_is, str_beq]
    cases hb : palF (ns.drop i)
    · rw [show (ns.drop i == (ns.drop i).reverse) = false from hb]
      refine ctest_no (CDone.intro (by k_asm) (by walk_at "mine:drop") ?_)
      rw [List.range_succ, List.filter_append, List.map_append]
      simp only [List.filter_cons, hb, Bool.false_eq_true, if_false, List.filter_nil, List.map_nil, List.append_nil]
      exact hJ
    · rw [show (ns.drop i == (ns.drop i).reverse) = true from hb]
      refine ctest_yes ?_
      k_steps
      refine CDone.intro (by k_asm) (by walk_at "mine:drop") ?_
      rw [List.range_succ, List.filter_append, List.map_append]
      simp only [List.filter_cons, hb, if_true, List.filter_nil, List.map_cons, List.map_nil]
      exact IntsAre.append hJ (by rw [Int.zero_add]; exact .cons _ _ .nil)
  intro g ys hJ
  have hpos : 0 < (((List.range ns.length).filter fun k => palF (ns.drop k)).map fun k : Nat => (k : Int)).length := by
    rw [List.length_map]
    exact List.length_pos_of_mem (List.mem_filter.mpr ⟨List.mem_range.mpr (Nat.sub_lt h0 (by decide)), last_pal h0⟩)
  k_steps
  rename _ ∈ List.map _ _ => hm
  rename ∀ a : Int, _ → _ ≤ a => hle
  obtain ⟨k, rfl, hkn, hfind⟩ := min_is hm hle
  refine hret _ _ _ ?_ (by k_asm) (by walk_at "mine:drop")
  refine isS ?_
  rw [slice_to_is rfl (Nat.le_of_lt hkn), slice_rev_is]
  unfold closedF placeF; rw [hfind]; exact str_app _ _
end
section
theorem start_W4 : True := by w_top off; exact trivial
/-- as Claim, for a call that reads the ledger and puts objects on it -/
noncomputable def ClaimN (j : Nat) (f : Addr) (vs : List Value) (Pre : List (Addr × Obj) → Prop) (Post : List (Addr × Obj) → List (Addr × Obj) → Value → Prop) : Prop :=
  ∀ (w : World) (mean : ExcName → Option Value) (mg mb : Str → Option Value) (news : List (Addr × Obj))
    (dp un : Nat) (gd : Option (List Code)) (cn : Str) (cs : Scope) (a : Addr) (ccd : Value) (cl : List (Str × Addr)) (outer : List Env)
    (A₀ : Around) (base h₀ : Heap) (L : Addr) (m : Str → Option Value) (s : Shared) (Q E : Value → Shared → Prop),
    Below A₀ base outer h₀ → Fr h₀ L s.heap m → (K w.params).In h₀ → News h₀ L s.heap news → Pre news → Top q loose mean mg mb h₀ → cs.kind = .function →
    dp + 20 + j < recursionLimit → un + 100 + 10 * j < cLine →
    (∀ v h' tk' news', Post news news' v → Fr h₀ L h' m → News h₀ L h' news' → Q v { s with heap := h', toks := tk' }) →
    wpAny (model PySem.Challenge.rw_rw0107_01.row.prog w) (ktrTop dp un gd cn cs L a ccd cl outer) (call (.ref f) vs) Q E s
local macro_rules | `(tactic| walk_at "call ref") => `(tactic| (k_here; (with_reducible show wpAny _ _ (call (Value.ref _) [Value.float _ _, Value.float _ _, Value.float _ _]) _ _ _); k_dflt (refine ClaimT.use3 (by first | exact t_hsv _ _ _ _ _ _ (by assumption) | exact t_hls _ _ _ _ _ _ (by assumption)) (by k_asm) (by k_asm) (by k_asm) (by k_asm) (by k_asm) (by first | exact rfl | assumption) (by ktr_room) (by ktr_units) ?_); k_whole; intro D9 t9 u9 v9 h9 tk9 F9 N9 l9; (try k_lt l9)))
theorem isList_of {h₀ h : Heap} {L l : Addr} {vs : List Value} {news : List (Addr × Obj)} (N : News h₀ L h news) (hm : (l, LCg.lst vs) ∈ news) : h.IsList l vs.toArray := News.isList N hm
noncomputable def partF (kd x : Int) : UInt64 := if kd.fmod 3 = 1 then Float64.sub 4607182418800017408 (Float64.div (Float64.ofInt x) 4724276009111650304) else Float64.div (Float64.ofInt x) 4724276009111650304
inductive FlsAre : List Value → List UInt64 → Prop
  | nil : FlsAre [] []
  | cons (x : UInt64) (t : Tok) {vs : List Value} {xs : List UInt64} (r : FlsAre vs xs) : FlsAre (.float x t :: vs) (x :: xs)
theorem fls_snoc {y : UInt64} {t : Tok} : ∀ {vs : List Value} {ys : List UInt64}, FlsAre vs ys → FlsAre (vs ++ [.float y t]) (ys ++ [y])
  | _, _, .nil => .cons y t .nil
  | _, _, .cons z u r => .cons z u (fls_snoc r)
theorem fls_three {vs : List Value} {x y z : UInt64} (h : FlsAre vs [x, y, z]) : ∃ t u v, vs = [.float x t, .float y u, .float z v] := by
  cases h with
  | cons _ t r => cases r with
    | cons _ u r => cases r with
      | cons _ v r => cases r; exact ⟨t, u, v, rfl⟩
theorem three_at {la lb lc : Int} {ta tb tc : Tok} {i : Nat} {v : Value} (h : [Value.int la ta, .int lb tb, .int lc tc].toArray[i]? = some v) : ∃ x t, v = .int x t ∧ [la, lb, lc][i]? = some x := by
  match i with
  | 0 => exact ⟨la, ta, by simpa using h.symm, rfl⟩
  | 1 => exact ⟨lb, tb, by simpa using h.symm, rfl⟩
  | 2 => exact ⟨lc, tc, by simpa using h.symm, rfl⟩
  | n + 3 => simp at h
theorem part_turn {ys : List Value} {ls : List Int} {kd x : Int} {i : Nat} {y : UInt64} {t : Tok} (h : FlsAre ys ((ls.take i).map (partF kd))) (hx : ls[i]? = some x) (e : y = partF kd x) : FlsAre (ys ++ [.float y t]) ((ls.take (i + 1)).map (partF kd)) := by
  subst e
  rw [List.take_add_one, hx, List.map_append]
  exact fls_snoc h
/-- int of this float is i -/
noncomputable def intB (x : UInt64) (i : Int) : Bool := match Float64.decode x with | .fin s m e => decide (Float64.truncOf s m e = i) | _ => false
theorem int_of {prog : Program} {w : World} {A : Around} {E : Value → Shared → Prop} {s : Shared} {x : UInt64} {i : Int} {u : Tok} {Q : Value → Shared → Prop} (h : intB x i = true)
    (hQ : Q (.int i s.toks) { s with toks := s.toks + 1 }) : wpAny (model prog w) A (call (.type "int") [.float x u]) Q E s := by
  unfold intB at h
  split at h
  · rename_i sg m e hd
    have e1 := of_decide_eq_true h
    subst e1
    exact call_int_float hd hQ
  · cases h
theorem not_over {x : Int} (h0 : 0 ≤ x) (h1 : x ≤ 1099511627776) : ¬ Flt.Over x := by
  intro h
  unfold Flt.Over at h
  have e : (2 : Nat) ^ 41 ≤ 2 ^ 1024 - 2 ^ 970 := by decide +kernel
  have e2 : (2 : Nat) ^ 41 = 2199023255552 := by decide +kernel
  rw [e2] at e
  lia
theorem small_log {y : Int} (h0 : 0 < y) (h1 : y ≤ 4611686018427387904) : y.natAbs.log2 < 9000 := by
  refine Nat.lt_trans ((Nat.log2_lt (by lia)).mpr (?_ : y.natAbs < 2 ^ 63)) (by decide)
  have : (2 : Nat) ^ 63 = 9223372036854775808 := by decide +kernel
  lia
theorem fdiv_small {prog : Program} {w : World} {A : Around} {E : Value → Shared → Prop} {s : Shared} {x y : Int} {t u : Tok} {Q : Value → Shared → Prop} (h0 : 0 < y) (h1 : y ≤ 4611686018427387904)
    (hQ : Q (.int (x.fdiv y) s.toks) { s with toks := s.toks + 1 }) : wpAny (model prog w) A (binaryOp .FloorDiv (.int x t) (.int y u)) Q E s :=
  floordiv_int (by lia) hQ (Or.inl (PyProof.noPylong_of_log2 (small_log h0 h1)))
theorem lamp_turn {ys : List Value} {ls : List Int} {f : Int → Int} {x : Int} {i : Nat} {y : Int} {t : Tok} (h : IntsAre ys ((ls.take i).map f)) (hx : ls[i]? = some x) (e : y = f x) : IntsAre (ys ++ [.int y t]) ((ls.take (i + 1)).map f) := by
  subst e
  rw [List.take_add_one, hx, List.map_append]
  exact IntsAre.append h (.cons _ _ .nil)
local macro_rules | `(tactic| walk_at "binaryOp FloorDiv int int") => `(tactic| (k_here; k_dflt (refine fdiv_small (by omega) (by omega) ?_)))
noncomputable def absI (x : Int) : Int := if x < 0 then -x else x
noncomputable def wayF (pl sp c : Int) : Int := absI ((pl + (3 - 2 * c) * sp).fmod (6 * sp) - 3 * sp)
noncomputable def lampW (le sp way : Int) : Int := le + if (if 2 * sp - way < sp then 2 * sp - way else sp) > 0 then (if 2 * sp - way < sp then 2 * sp - way else sp) else 0
noncomputable def cornerF (pl sp : Int) : Int := ((pl + sp).fdiv (2 * sp)).fmod 3
theorem news_keep2 {h₀ h : Heap} {L : Addr} {a b : Addr × Obj} {l news : List (Addr × Obj)} (N : News h₀ L h (a :: b :: l)) (hs : ∀ p ∈ news, p ∈ l) : News h₀ L h (a :: b :: news) := fun p hp => by
  rcases List.mem_cons.mp hp with rfl | hp
  · exact N _ List.mem_cons_self
  · rcases List.mem_cons.mp hp with rfl | hp
    · exact N _ (List.mem_cons_of_mem _ List.mem_cons_self)
    · exact N p (List.mem_cons_of_mem _ (List.mem_cons_of_mem _ (hs p hp)))
noncomputable def leastF (kd sp n2 : Int) : Int := if kd.fmod 3 = 0 then n2 - sp else if kd.fmod 3 = 1 then 67108864 - (n2 - sp).fdiv 2 - sp else (n2 - sp).fdiv 2
noncomputable def spotF (kd sp n3 : Int) : Int := if kd.fmod 3 = 1 then n3 + 3 * sp else n3
/-- what the last two statements make -/
inductive TailPost (pl sp le : Int) (rest news' : List (Addr × Obj)) (v : Value) : Prop
  | mk (D LL : Addr) (t1 t2 t3 t4 : Tok) (ev : v = .ref D) (en : news' = (D, tupO #[.ref LL, .int (cornerF pl sp) t4]) :: (LL, LCg.lst [.int (lampW le sp (wayF pl sp 0)) t1, .int (lampW le sp (wayF pl sp 1)) t2, .int (lampW le sp (wayF pl sp 2)) t3]) :: rest)
    (o : LCg.Off1 LL rest) (l : AllLt D rest) (ll : @LT.lt Nat _ LL D) : TailPost pl sp le rest news' v
noncomputable def SeenPost (la lb lc kd sp n2 n3 : Int) (news news' : List (Addr × Obj)) (v : Value) : Prop := TailPost (spotF kd sp n3) sp (leastF kd sp n2) news news' v
local macro_rules | `(tactic| walk_at "mine:lt") => `(tactic| first | walk_at "mine:off" | omega)
structure SeenOk (la lb lc kd sp n2 n3 : Int) : Prop where
  z : kd.fmod 3 = 0 → hsvOk (partF kd la) (partF kd lb) (partF kd lc) = true ∧
    intB (Float64.add (Float64.mul (Float64.mul 4724276009111650304 (hsvF (partF kd la) (partF kd lb) (partF kd lc)).2.1) (hsvF (partF kd la) (partF kd lb) (partF kd lc)).2.2) 4602678819172646912) sp = true ∧
    intB (Float64.add (Float64.mul 4724276009111650304 (hsvF (partF kd la) (partF kd lb) (partF kd lc)).2.2) 4602678819172646912) n2 = true ∧
    intB (Float64.add (Float64.mul (Float64.mul 4618441417868443648 (hsvF (partF kd la) (partF kd lb) (partF kd lc)).1) (Float64.ofInt sp)) 4602678819172646912) n3 = true
  nz : ¬ kd.fmod 3 = 0 → hlsOk (partF kd la) (partF kd lb) (partF kd lc) = true ∧
    intB (Float64.add (Float64.mul (Float64.mul 4724276009111650304 (hlsF (partF kd la) (partF kd lb) (partF kd lc)).2.2) (Float64.sub 4607182418800017408 (Float64.abs (Float64.sub (Float64.mul 4611686018427387904 (hlsF (partF kd la) (partF kd lb) (partF kd lc)).2.1) 4607182418800017408)))) 4602678819172646912) sp = true ∧
    intB (Float64.add (Float64.mul 4728779608739020800 (hlsF (partF kd la) (partF kd lb) (partF kd lc)).2.1) 4602678819172646912) n2 = true ∧
    intB (Float64.add (Float64.mul (Float64.mul 4618441417868443648 (hlsF (partF kd la) (partF kd lb) (partF kd lc)).1) (Float64.ofInt sp)) 4602678819172646912) n3 = true
  l0 : ∀ x ∈ [la, lb, lc], 0 ≤ x ∧ x ≤ 1099511627776
  s0 : 0 < sp
  s1 : sp ≤ 1073741824
  b2 : -1099511627776 ≤ n2 ∧ n2 ≤ 1099511627776
  b3 : -1099511627776 ≤ n3 ∧ n3 ≤ 1099511627776
local macro_rules | `(tactic| walk_at "call type:int") => `(tactic| (k_here; (with_reducible show wpAny _ _ (call (Value.type "int") [Value.float _ _]) _ _ _); k_dflt (refine int_of (by assumption) ?_)))
theorem ints_turn {ys : List Value} {f : Nat → Int} {i : Nat} {y : Int} {t : Tok} (h : IntsAre ys ((List.range i).map f)) (e : y = f i) : IntsAre (ys ++ [.int y t]) ((List.range (i + 1)).map f) := by
  subst e
  rw [List.range_succ, List.map_append]
  exact IntsAre.append h (.cons _ _ .nil)
theorem ints_three {ys : List Value} {a b c : Int} (h : IntsAre ys [a, b, c]) : ∃ t u v, ys = [.int a t, .int b u, .int c v] := by
  cases h with
  | cons _ t r => cases r with
    | cons _ u r => cases r with
      | cons _ v r => cases r; exact ⟨t, u, v, rfl⟩
noncomputable def seenFd : FuncData := fd 20 3 .none .none
noncomputable def seenTail : List Stmt := match seenFd.body with | .stmts b => b.drop 4 | _ => []
noncomputable abbrev seenEnv (L1 : Addr) : Env := envOfC (Str.ofString "_law_seen") seenFd.scope L1 194 (.ref 193)
set_option maxHeartbeats 0 in
theorem seen_tail (pl sp le : Int) {news : List (Addr × Obj)} {w : World} {mean : ExcName → Option Value} {mg mb : Str → Option Value}
    {dp un : Nat} {gd : Option (List Code)} {cn : Str} {cs : Scope} {a : Addr} {ccd : Value} {cl : List (Str × Addr)} {outer : List Env}
    {base g1 : Heap} {L L1 : Addr} {m : Str → Option Value} {s : Shared} {Q : Flow → Shared → Prop} {E : Value → Shared → Prop} (o4 o3 o2 o1 : Obj) (t4 t3 t2 : Tok)
    (B1 : Below (ktrTop dp un gd cn cs L a ccd cl outer) base (envX cn cs L a ccd cl :: outer) g1) (F1 : Fr g1 L1 s.heap m) (X1 : (K w.params).In g1)
    (N1 : News g1 L1 s.heap ((L1 + 1 + 1 + 1 + 1, o4) :: (L1 + 1 + 1 + 1, o3) :: (L1 + 1 + 1, o2) :: (L1 + 1, o1) :: news)) (T1 : Top q loose mean mg mb g1)
    (l1 : ∀ p ∈ news, p.1 < L1) (d4 : o4.data = .cell (some (.int pl t4))) (d3 : o3.data = .cell (some (.int le t3))) (d2 : o2.data = .cell (some (.int sp t2)))
    (sp0 : 0 < sp) (sp1 : sp ≤ 1073741824) (pl0 : -1099511627776 ≤ pl) (pl1 : pl ≤ 1099511627776 + 3 * 1073741824)
    (hd : dp + 20 + 5 < recursionLimit) (hu : un + 100 + 10 * 5 < cLine)
    (hret : ∀ v m' h' tk' news', TailPost pl sp le news news' v → Fr g1 L1 h' m' → News g1 L1 h' news' → Q (.ret v) { s with heap := h', toks := tk' }) :
    wpAny (model PySem.Challenge.rw_rw0107_01.row.prog w) ((ktrTop dp un gd cn cs L a ccd cl outer).deeper (seenEnv L1)) (execs seenTail (seenEnv L1)) Q E s := by
  dsimp only [seenTail, seenEnv, seenFd]
  revert X1; k_fill; intro X1
  with_unfolding_all show wpAny _ _ (execs [Stmt.Assign _ _ _, Stmt.Return _ _] _) _ _ _
  (try walk_at "mine:let")
  k_steps
  refine plan_range (n := 3) (fun i ys => IntsAre ys ((List.range i).map fun c : Nat => wayF pl sp c)) (by rfl) (by k_asm) (by k_asm) (by assumption) (by decide) (by decide) (Nat.le_of_ble_eq_true rfl) (by rfl) (by rfl) .nil ?_ ?_
  · intro i t1 ys I oI C oC D m₂ h tk E' s₂ hs hi hJ hC hm F N
    subst hs
    show wpAny _ _ (eval _ _) _ _ _
    have hi0 : (0 : Int) ≤ i := Int.natCast_nonneg i
    have hi2 : (i : Int) ≤ 2 := by lia
    replace hm : m₂ (Str.ofString "corner") = some (.int (0 + (i : Int)) t1) := hm
    rw [Int.zero_add] at hm
    k_steps
    refine CDone.intro (by k_asm) (by walk_at "mine:drop") (ints_turn hJ ?_)
    rfl
  intro g2 ys hJ
  obtain ⟨t4, t5, t6, rfl⟩ := ints_three (show IntsAre ys [wayF pl sp 0, wayF pl sp 1, wayF pl sp 2] from hJ)
  k_steps
  refine plan_list (its := [Value.int (wayF pl sp 0) t4, .int (wayF pl sp 1) t5, .int (wayF pl sp 2) t6].toArray) (fun i ys => IntsAre ys (([wayF pl sp 0, wayF pl sp 1, wayF pl sp 2].take i).map (lampW le sp))) (by rfl) (by k_asm) (by k_asm) (.inr ⟨_, by k_mem⟩) (News.isList (by k_asm) (by k_mem)) (Nat.le_of_ble_eq_true rfl) (by rfl) (by rfl) .nil ?_ ?_
  · intro i v ys I oI C oC D m₂ h tk E' s₂ hs hc hJ' hC hm F N
    subst hs
    obtain ⟨x, tx, rfl, hx⟩ := three_at hc
    show wpAny _ _ (eval _ _) _ _ _
    k_steps
    all_goals refine CDone.intro (by k_asm) (by walk_at "mine:drop") ?_
    all_goals exact lamp_turn hJ' hx rfl
  intro g3 ys hJ3
  obtain ⟨t7, t8, t9, rfl⟩ := ints_three (show IntsAre ys [lampW le sp (wayF pl sp 0), lampW le sp (wayF pl sp 1), lampW le sp (wayF pl sp 2)] from hJ3)
  k_steps
  refine' hret _ _ _ _ _ ?zP1 (by k_asm) ?zN1
  case zN1 => exact news_keep2 (news := news) (by assumption) (by intro p hp; repeat (first | exact hp | apply List.mem_cons_of_mem))
  case zP1 => exact ⟨_, _, _, _, _, _, rfl, rfl, by walk_at "mine:off", by walk_at "mine:lt", by walk_at "mine:lt"⟩
set_option maxHeartbeats 0 in
theorem t_seen (la lb lc kd sp n2 n3 : Int) (l : Addr) (ta tb tc tk : Tok) (ok : SeenOk la lb lc kd sp n2 n3) : ClaimN 5 194 [.ref l, .int kd tk] (fun news => (l, LCg.lst [.int la ta, .int lb tb, .int lc tc]) ∈ news) (SeenPost la lb lc kd sp n2 n3) := by
  have stp : StopRet := trivial
  dsimp only [ClaimN]; k_fill
  intro w mean mg mb news dp un gd cn cs a ccd cl outer A₀ base h₀ L m s Q E B F X N hpre T hk hd hu hret
  obtain ⟨okz, oknz, lm, sp0, sp1, ⟨nb2, nc2⟩, ⟨nb3, nc3⟩⟩ := ok
  refine wpAny_call ?_
  walk_at "mine:enterC"
  (try walk_at "mine:let")
  k_steps
  refine plan_list (its := [Value.int la ta, .int lb tb, .int lc tc].toArray) (fun i ys => FlsAre ys (([la, lb, lc].take i).map (partF kd))) (by rfl) (by k_asm) (by k_asm) (.inr ⟨_, by repeat (first | exact hpre | apply List.mem_cons_of_mem)⟩) (isList_of (by k_asm) (by repeat (first | exact hpre | apply List.mem_cons_of_mem))) (Nat.le_of_ble_eq_true rfl) (by rfl) (by rfl) .nil ?_ ?_
  · intro i v ys I oI C oC D m₂ h tk E' s₂ hs hc hJ' hC hm F N
    subst hs
    obtain ⟨x, tx, rfl, hx⟩ := three_at hc
    show wpAny _ _ (eval _ _) _ _ _
    k_steps
    all_goals first
      | (exfalso; rename Flt.Over _ => hz; exact not_over (lm x (List.mem_of_getElem? hx)).1 (lm x (List.mem_of_getElem? hx)).2 hz)
      | (exfalso; rename Float64.isZero _ = true => hz; exact absurd hz (by decide +kernel))
      | (refine CDone.intro (by k_asm) (by walk_at "mine:drop") ?_
         refine part_turn hJ' hx ?_
         unfold partF
         first | rw [if_pos (by assumption)] | rw [if_neg (by assumption)])
  intro g ys hJ
  obtain ⟨t1, t2, t3, rfl⟩ := fls_three (show FlsAre ys [partF kd la, partF kd lb, partF kd lc] from hJ)
  k_steps
  · obtain ⟨kc, i1, i2, i3⟩ := okz (by assumption)
    k_steps
    · rename kd.fmod 3 = 0 => hz0
      rename kd.fmod 3 = 1 => hz1
      rw [hz0] at hz1; cases hz1
    · unfold Hlt
      rename Fr _ _ _ _ => F9
      rename News _ _ _ _ => N9
      refine seen_tail n3 sp (n2 - sp) _ _ _ _ _ _ _ (by assumption) F9 (by assumption) (fun p hp => N9 p (by first | exact hp | exact .tail _ hp | exact .tail _ (.tail _ hp) | exact .tail _ (.tail _ (.tail _ hp)))) (by assumption) (by assumption) (by assumption) (by assumption) (by assumption) sp0 sp1 (by lia) (by lia) hd hu ?_
      intro v m' h' tk' news' hv F8 N8
      k_steps
      have es : spotF kd sp n3 = n3 := by unfold spotF; first | exact if_pos (by assumption) | exact if_neg (by assumption)
      have el : leastF kd sp n2 = (n2 - sp) := by unfold leastF; first | exact if_pos (by assumption) | exact (if_neg (by assumption)).trans (if_pos (by assumption)) | exact (if_neg (by assumption)).trans (if_neg (by assumption))
      refine hret _ _ _ _ ?_ (by k_asm) (by assumption)
      unfold SeenPost; rw [es, el]; exact hv
  · obtain ⟨kc, i1, i2, i3⟩ := oknz (by assumption)
    k_steps
    · unfold Hlt
      rename Fr _ _ _ _ => F9
      rename News _ _ _ _ => N9
      refine seen_tail (n3 + 3 * sp) sp (67108864 - (n2 - sp).fdiv 2 - sp) _ _ _ _ _ _ _ (by assumption) F9 (by assumption) (fun p hp => N9 p (by first | exact hp | exact .tail _ hp | exact .tail _ (.tail _ hp) | exact .tail _ (.tail _ (.tail _ hp)))) (by assumption) (by assumption) (by assumption) (by assumption) (by assumption) sp0 sp1 (by lia) (by lia) hd hu ?_
      intro v m' h' tk' news' hv F8 N8
      k_steps
      have es : spotF kd sp n3 = (n3 + 3 * sp) := by unfold spotF; first | exact if_pos (by assumption) | exact if_neg (by assumption)
      have el : leastF kd sp n2 = (67108864 - (n2 - sp).fdiv 2 - sp) := by unfold leastF; first | exact if_pos (by assumption) | exact (if_neg (by assumption)).trans (if_pos (by assumption)) | exact (if_neg (by assumption)).trans (if_neg (by assumption))
      refine hret _ _ _ _ ?_ (by k_asm) (by assumption)
      unfold SeenPost; rw [es, el]; exact hv
    · unfold Hlt
      rename Fr _ _ _ _ => F9
      rename News _ _ _ _ => N9
      refine seen_tail n3 sp ((n2 - sp).fdiv 2) _ _ _ _ _ _ _ (by assumption) F9 (by assumption) (fun p hp => N9 p (by first | exact hp | exact .tail _ hp | exact .tail _ (.tail _ hp) | exact .tail _ (.tail _ (.tail _ hp)))) (by assumption) (by assumption) (by assumption) (by assumption) (by assumption) sp0 sp1 (by lia) (by lia) hd hu ?_
      intro v m' h' tk' news' hv F8 N8
      k_steps
      have es : spotF kd sp n3 = n3 := by unfold spotF; first | exact if_pos (by assumption) | exact if_neg (by assumption)
      have el : leastF kd sp n2 = ((n2 - sp).fdiv 2) := by unfold leastF; first | exact if_pos (by assumption) | exact (if_neg (by assumption)).trans (if_pos (by assumption)) | exact (if_neg (by assumption)).trans (if_neg (by assumption))
      refine hret _ _ _ _ ?_ (by k_asm) (by assumption)
      unfold SeenPost; rw [es, el]; exact hv
end
end
section
theorem slot_fn_setattr : Slot "function" "__setattr__" "object.__setattr__" :=
  .of (owner := "object") (n := "__setattr__") (by rw [typeLookup_type, builtinLookup_eq_fast]; kernel_rfl) (by decide +kernel) (by decide +kernel) (by decide +kernel)
    (by first | exact .inl (by decide +kernel) | exact .inr (by decide +kernel)) (by rw [isSubtype_type]; kernel_rfl)
theorem mro_fn : mroOf (.type "function") = pure [.type "function", .type "object"] := by
  kernel_rfl
theorem look_fn_read : typeLookup (.type "function") "read" = pure none := by rw [typeLookup_type, builtinLookup_eq_fast]; kernel_rfl
theorem own_fn_setattr : classOwn (.type "function") "__setattr__" = pure none := by kernel_rfl
theorem fn_hasDict : typeHasDict (.type "function") = true := by decide +kernel
theorem fn_dictMade (f d : Addr) : dictMade (.type "function") f d = pure (some d) := by kernel_rfl
/-- a function with one attribute of its own */ -/
noncomputable abbrev readDict (P : Params) (t : Tok) (v : Value) : Obj := { cls := .type "dict", data := .dict #[⟨PyData.keyHash P (Str.ofString "read"), .str (Str.ofString "read") t, v⟩] 1 }
set_option maxHeartbeats 1000000 in
theorem fn_store {prog : Program} {w : World} {A : Around} {E : Value → Shared → Prop} {s : Shared} {f : Addr} {fd : FuncData} {v : Value} {tk : Tok} {Q : Fin → Shared → Prop}
    (ho : s.heap.get? f = some { cls := .type "function", data := .func fd })
    (h : ∀ d h' t, s.heap.get? d = none → h'.get? f = some { cls := .type "function", dict := some d, data := .func fd } → h'.get? d = some (readDict w.params t v) → (∀ b o, b ≠ f → s.heap.get? b = some o → h'.get? b = some o) → s.heap.objs.size ≤ d →
      Q (.done (.ret .none)) { s with heap := h', toks := s.toks + 1 }) :
    wpAny (model prog w) A (Builtin.«object.__setattr__» ⟨[.ref f, .str "read" tk, v], []⟩) Q E s := by
  have hT : s.TypeIs (.ref f) "function" := ⟨_, ho, rfl⟩
  unfold Builtin.«object.__setattr__»
  wp_walk using mro_fn, look_fn_read
  rw [look_fn_read]
  refine wpAny_pure ?_
  show wpAny _ _ (Builtin.ObjectAttr.storeInOwnDict (Value.ref f) (Value.type "function") (Value.str (Str.ofString "read") tk) (Str.ofString "read") v false) _ _ _
  unfold Builtin.ObjectAttr.storeInOwnDict
  show wpAny _ _ (do let d ← instanceDict f true; match d with | some d => Builtin.ObjectAttr.storeInDict d (Value.str (Str.ofString "read") tk) (Str.ofString "read") v | none => _) _ _ _
  unfold instanceDict
  refine wpAny_bind (wpAny_bind (wpAny_loadPart ho ?_))
  dsimp only
  rw [fn_hasDict]
  show wpAny _ _ (do let d ← alloc { cls := Value.type "dict", data := Data.dict #[] }; update f (fun o => { cls := o.cls, dict := some d, data := o.data, slots := o.slots }); dictMade (Value.type "function") f d) _ _ _
  refine wpAny_bind (wpAny_alloc ?_)
  have g1 : (s.heap.push { cls := Value.type "dict", data := Data.dict #[] }).get? f = some { cls := .type "function", data := .func fd } := Heap.get?_push_of_some _ ho
  refine wpAny_bind (wpAny_update g1 ?_)
  rw [fn_dictMade]
  refine wpAny_pure ?_
  dsimp only
  have hlt := Heap.lt_size ho
  have hne : @Ne Nat s.heap.objs.size f := Nat.ne_of_gt hlt
  have g2 : ((s.heap.push { cls := Value.type "dict", data := Data.dict #[] }).update f fun o => { cls := o.cls, dict := some s.heap.objs.size, data := o.data, slots := o.slots }).get? s.heap.objs.size = some { cls := Value.type "dict", data := Data.dict #[] } := by
    rw [Heap.get?_update_ne _ _ _ _ hne]
    exact Heap.get?_push_size _ rfl
  have g3 : ((s.heap.push { cls := Value.type "dict", data := Data.dict #[] }).update f fun o => { cls := o.cls, dict := some s.heap.objs.size, data := o.data, slots := o.slots }).get? f = some { cls := .type "function", dict := some s.heap.objs.size, data := .func fd } :=
    Heap.get?_update_self _ g1 rfl
  have g4 : ∀ b o, b ≠ f → s.heap.get? b = some o → ((s.heap.push { cls := Value.type "dict", data := Data.dict #[] }).update f fun o => { cls := o.cls, dict := some s.heap.objs.size, data := o.data, slots := o.slots }).get? b = some o := fun b o hb e => by
    rw [Heap.get?_update_ne _ _ _ _ hb]
    exact Heap.get?_push_of_some _ e
  have hn : s.heap.get? s.heap.objs.size = none := by
    cases e : s.heap.get? s.heap.objs.size with
    | none => rfl
    | some o => exact absurd (Heap.lt_size e) (Nat.lt_irrefl _)
  generalize ((s.heap.push { cls := Value.type "dict", data := Data.dict #[] }).update f fun o => { cls := o.cls, dict := some s.heap.objs.size, data := o.data, slots := o.slots }) = h1 at g2 g3 g4 ⊢
  unfold Builtin.ObjectAttr.storeInDict nsSet
  refine wpAny_bind (wpAny_pure (wpAny_bind ?_))
  refine wpAny_bind (wpAny_bind (wpAny_askSetting (wpAny_pure (wpAny_bind (wpAny_mkText (wpAny_bind (wpAny_loadPart g2 ?_)))))))
  dsimp only
  rw [show aRefKeyMayBeTheName (Str.ofString "read") #[] = false from by decide +kernel, if_neg Bool.false_ne_true]
  refine wpAny_updatePart g2 ?_
  have g5 : (h1.update s.heap.objs.size (Obj.putName (Str.ofString "read") (PyData.keyHash w.params (Str.ofString "read")) (Value.str (Str.ofString "read") s.toks) v)).get? s.heap.objs.size = some (readDict w.params s.toks v) :=
    (Heap.get?_update_self _ g2 rfl).trans rfl
  refine wpAny_bind (wpAny_lookBehind g5 (pastItsLine_dict (by show (1 : Nat) ≤ _; rw [sizeLine_eq]; decide)) ?_)
  refine wpAny_pure ?_
  refine h s.heap.objs.size _ s.toks hn ?_ g5 ?_ (Nat.le_refl _)
  · exact (Heap.get?_update_ne _ _ _ _ hne.symm).trans g3
  · intro b o hb e
    refine (Heap.get?_update_ne _ _ _ _ ?_).trans (g4 b o hb e)
    exact Nat.ne_of_lt (Heap.lt_size e)
theorem fn_setattr {prog : Program} {w : World} {A : Around} {E : Value → Shared → Prop} {s : Shared} {h₀ : Heap} {L : Addr} {m : Str → Option Value} {f : Addr} {fd : FuncData} {v : Value} {news : List (Addr × Obj)} {g : Obj → List (Addr × Obj)} {Q : Unit → Shared → Prop}
    (F : Fr h₀ L s.heap m) (N : News h₀ L s.heap news) (U : UpdF f { cls := .type "function", data := .func fd } news g)
    (h : ∀ d h' tk t, Fr h₀ L h' m → News h₀ L h' ((d, readDict w.params t v) :: g { cls := .type "function", dict := some d, data := .func fd }) → (∀ p ∈ news, p.1 < d) → Q () { s with heap := h', toks := tk }) :
    wpAny (model prog w) A (setAttr (.ref f) "read" v) Q E s := by
  obtain ⟨own, rest, rfl, hgr, h1, h2⟩ := U.split
  have hm := N (f, _) (List.mem_append_right _ (.head _))
  have hT : s.TypeIs (.ref f) "function" := ⟨_, hm.1, rfl⟩
  unfold setAttr
  refine wpAny_bind (wpAny_mkText (wpAny_bind (wpAny_callSpecial?_slot (s := { s with toks := s.toks + 1 }) hT slot_fn_setattr
    (wpAny_call_entry slot_fn_setattr hT PySem.F.entry_object_setattr ?_ (PySem.F.args_object_setattr_3 _ _ _)))))
  refine fn_store (s := { s with toks := s.toks + 1 }) hm.1 fun d h' t hd hf hdd hk hsz => ⟨_, rfl, wpAny_pure ?_⟩
  refine h d h' _ t ⟨F.ns.at' fun o e => hk L o hm.2.1.symm e, fun b o e => hk b o (fun q => by rw [q, hm.2.2] at e; cases e) (F.keep b o e), F.above⟩ (fun p hp => ?_) (fun p hp => Nat.lt_of_lt_of_le (Heap.lt_size (N p hp).1) hsz)
  have hdL : L < d := Nat.lt_of_lt_of_le F.ns.lt hsz
  have hd0 : h₀.get? d = none := Heap.get?_none_of_le (Nat.le_trans F.above (Nat.le_of_lt hdL))
  rcases List.mem_cons.mp hp with rfl | hp
  · exact ⟨hdd, Nat.ne_of_gt hdL, hd0⟩
  · rw [hgr] at hp
    rcases List.mem_append.mp hp with hp | hp
    · have n := N p (List.mem_append_left _ hp)
      exact ⟨hk _ _ (h1 p hp) n.1, n.2⟩
    · rcases List.mem_cons.mp hp with rfl | hp
      · exact ⟨hf, hm.2⟩
      · have n := N p (List.mem_append_right _ (.tail _ hp))
        exact ⟨hk _ _ (h2 p hp) n.1, n.2⟩
end
section
theorem slot_fn_getattribute : Slot "function" "__getattribute__" "object.__getattribute__" :=
  .of (owner := "object") (n := "__getattribute__") (by rw [typeLookup_type, builtinLookup_eq_fast]; kernel_rfl) (by decide +kernel) (by decide +kernel) (by decide +kernel)
    (by first | exact .inl (by decide +kernel) | exact .inr (by decide +kernel)) (by rw [isSubtype_type]; kernel_rfl)
theorem look_fn_getattribute : typeLookup (.type "function") "__getattribute__" = pure (some (.builtin "object.__getattribute__")) := by rw [typeLookup_type, builtinLookup_eq_fast]; kernel_rfl
theorem look_fn_getattr : typeLookup (.type "function") "__getattr__" = pure none := by rw [typeLookup_type, builtinLookup_eq_fast]; kernel_rfl
set_option maxHeartbeats 1000000 in
theorem fn_find {prog : Program} {w : World} {A : Around} {E : Value → Shared → Prop} {s : Shared} {f d : Addr} {fd : FuncData} {v : Value} {t tk : Tok} {Q : Fin → Shared → Prop}
    (ho : s.heap.get? f = some { cls := .type "function", dict := some d, data := .func fd }) (hd : s.heap.get? d = some (readDict w.params t v))
    (h : ∀ tk, Q (.done (.ret v)) { s with toks := tk }) :
    wpAny (model prog w) A (Builtin.«object.__getattribute__» ⟨[.ref f, .str "read" tk], []⟩) Q E s := by
  have hT : s.TypeIs (.ref f) "function" := ⟨_, ho, rfl⟩
  unfold Builtin.«object.__getattribute__»
  wp_walk using mro_fn, look_fn_read
  rw [look_fn_read]
  refine wpAny_pure (wpAny_bind (wpAny_pure (a := none) (wpAny_bind (wpAny_pure (a := none) ?_))))
  dsimp only
  unfold Builtin.ObjectAttr.ownThenClass
  wp_walk
  exact h _
set_option maxHeartbeats 1000000 in
theorem fn_getmethod {prog : Program} {w : World} {A : Around} {E : Value → Shared → Prop} {s : Shared} {f d r : Addr} {fd : FuncData} {t : Tok} {pl : Sem Bool} {Q : Value × List Value → Shared → Prop}
    (ho : s.heap.get? f = some { cls := .type "function", dict := some d, data := .func fd }) (hd : s.heap.get? d = some (readDict w.params t (.ref r)))
    (h : ∀ tk, Q (.ref r, []) { s with toks := tk }) :
    wpAny (model prog w) A (getMethod (.ref f) "read" pl) Q E s := by
  have hT : s.TypeIs (.ref f) "function" := ⟨_, ho, rfl⟩
  unfold getMethod specialOf
  refine wpAny_bind (wpAny_bind (wpAny_typeOf hT ?_))
  rw [look_fn_getattribute]
  refine wpAny_pure ?_
  dsimp only
  rw [show (Manifest.canonical "object.__getattribute__" != "object.__getattribute__") = false from by decide +kernel, if_neg Bool.false_ne_true]
  refine wpAny_bind (wpAny_bind (wpAny_typeOf hT ?_))
  rw [look_fn_getattr]
  refine wpAny_pure ?_
  dsimp only [Option.isSome_none]
  rw [if_neg Bool.false_ne_true]
  refine wpAny_bind (wpAny_bind (wpAny_typeOf hT ?_))
  rw [look_fn_read]
  refine wpAny_pure ?_
  dsimp only
  refine wpAny_bind ?_
  unfold getAttr
  refine wpAny_bind (wpAny_mkText ?_)
  unfold getAttrBy
  refine wpAny_holding (wpAny_bind (wpAny_typeOf hT ?_))
  rw [look_fn_getattribute]
  refine wpAny_bind (wpAny_pure ?_)
  show wpAny _ _ (getAttrByItsOwn (.ref f) _ (.type "function") (.builtin "object.__getattribute__") true false) _ _ _
  unfold getAttrByItsOwn
  refine wpAny_bind (wpAny_pure (a := none) (wpAny_bind (wpAny_attempt (wpAny_holding ?_))))
  show wpAny _ _ (boundAndCalled (.builtin "object.__getattribute__") (.ref f) _) _ _ _
  unfold boundAndCalled
  rw [slot_fn_getattribute.bind]
  refine wpAny_bind (wpAny_pure ?_)
  refine wpAny_call_entry slot_fn_getattribute hT PySem.F.entry_object_getattribute ?_ (PySem.F.args_object_getattribute_2 _ _)
  refine fn_find (s := { s with toks := s.toks + 1 }) ho hd fun tk => ⟨_, rfl, ?_⟩
  exact wpAny_pure (wpAny_pure (h _))
end
section
/-- as Claim, for a call that reads and turns the ledger -/
noncomputable def ClaimP (j : Nat) (f : Addr) (vs : List Value) (Pre : Params → List (Addr × Obj) → Prop) (Post : Params → List (Addr × Obj) → List (Addr × Obj) → Value → Prop) : Prop :=
  ∀ (w : World) (mean : ExcName → Option Value) (mg mb : Str → Option Value) (news : List (Addr × Obj))
    (dp un : Nat) (gd : Option (List Code)) (cn : Str) (cs : Scope) (a : Addr) (ccd : Value) (cl : List (Str × Addr)) (outer : List Env)
    (A₀ : Around) (base h₀ : Heap) (L : Addr) (m : Str → Option Value) (s : Shared) (Q E : Value → Shared → Prop),
    Below A₀ base outer h₀ → Fr h₀ L s.heap m → (K w.params).In h₀ → News h₀ L s.heap news → Pre w.params news → Top q loose mean mg mb h₀ → cs.kind = .function →
    dp + 20 + j < recursionLimit → un + 100 + 10 * j < cLine →
    (∀ v h' tk' news', Post w.params news news' v → Fr h₀ L h' m → News h₀ L h' news' → Q v { s with heap := h', toks := tk' }) →
    wpAny (model PySem.Challenge.rw_rw0107_01.row.prog w) (ktrTop dp un gd cn cs L a ccd cl outer) (call (.ref f) vs) Q E s
/-- the read lambda, read off the def that makes it -/
noncomputable def lamOf : Option (Arguments × PySem.Expr × Scope) := match (fd 11 3 .none .none).body with
  | .stmts b => (match b[2]? with | some (Stmt.Assign _ (Expr.Lambda p e sc _) _) => some (p, e, sc) | _ => none)
  | _ => none
noncomputable def lamP : Arguments := match lamOf with | some x => x.1 | none => default
noncomputable def lamB : PySem.Expr := match lamOf with | some x => x.2.1 | none => default
noncomputable def lamS : Scope := match lamOf with | some x => x.2.2 | none => default
structure LexK where
  x : Addr
  d : Addr
  rd : Addr
  rf : Addr
  rc : Addr
  st : Addr
  sl : Addr
  cl : Addr
  pb : Addr
  t1 : Tok
  t2 : Tok
  t3 : Tok
  t4 : Tok
  u3 : Tok
  rt : Tok
  qual : Str
  pm : Value
  ctv : Value
  oc : Obj
  os : Obj
  sd : FuncData
noncomputable def lexDict (P : Params) (k : LexK) (ln : Int) (lt : Tok) : List DictEntry :=
  [⟨PyData.keyHash P (Str.ofString "lineno"), .str (Str.ofString "lineno") k.t1, .int ln lt⟩, ⟨PyData.keyHash P (Str.ofString "instream"), .str (Str.ofString "instream") k.t2, .ref k.st⟩,
   ⟨PyData.keyHash P (Str.ofString "whitespace"), .str (Str.ofString "whitespace") k.t3, .str (Str.ofString "\n\t\r ") k.u3⟩, ⟨PyData.keyHash P (Str.ofString "pushback"), .str (Str.ofString "pushback") k.t4, .ref k.pb⟩]
noncomputable def LexK.objs (P : Params) (k : LexK) (ln : Int) (lt : Tok) (ys : List Value) (n : Nat) (ps : List Value) (pn : Nat) : List (Addr × Obj) :=
  [(k.pb, listOf ps.toArray pn), (k.x, instObj 130 k.d), (k.d, dictOf (lexDict P k ln lt) 4), (k.rd, readDict P k.rt (.ref k.rf)), (k.rf, kla_obj (Str.ofString "<lambda>") k.qual lamP lamB lamS [(Str.ofString "signs", k.cl)] k.pm k.rc k.ctv),
   (k.rc, k.oc), (k.st, { cls := .type "function", dict := some k.rd, data := .func k.sd }), (k.sl, listOf ys.toArray n), (k.cl, k.os)]
structure LexOk (k : LexK) : Prop where
  code : ∃ vs t, k.oc.data = .fields vs ∧ vs[1]? = some (.str k.qual t)
  cell : k.os.data = .cell (some (.ref k.sl))
  o1 : @LT.lt Nat _ k.cl k.sl
  o2 : @LT.lt Nat _ k.sl k.st
  o3 : @LT.lt Nat _ k.st k.rc
  o4 : @LT.lt Nat _ k.rc k.rf
  o5 : @LT.lt Nat _ k.rf k.rd
  o6 : @LT.lt Nat _ k.rd k.d
  o7 : @LT.lt Nat _ k.d k.x
  o8 : @LT.lt Nat _ k.x k.pb
/-- the rest of the ledger is none of the lexer's own -/
noncomputable def OffL (k : LexK) (rest : List (Addr × Obj)) : Prop := (∀ p ∈ rest, p.1 ≠ k.pb) ∧ (∀ p ∈ rest, p.1 ≠ k.d) ∧ (∀ p ∈ rest, p.1 ≠ k.sl)
theorem allLt_mono {d c : Addr} : ∀ {l : List (Addr × Obj)}, AllLt d l → @LE.le Nat _ d c → AllLt c l
  | [], _, _ => trivial
  | _ :: _, h, hc => ⟨Nat.lt_of_lt_of_le h.1 hc, allLt_mono h.2 hc⟩
theorem lex_news {h₀ h : Heap} {L : Addr} {a1 a2 a3 a4 a5 a6 a7 a8 a9 b : Addr × Obj} {l : List (Addr × Obj)} (N : News h₀ L h (a1 :: a2 :: a3 :: a4 :: a5 :: a6 :: a7 :: b :: a8 :: a9 :: l)) : News h₀ L h (a1 :: a2 :: a3 :: a4 :: a5 :: a6 :: a7 :: a8 :: a9 :: l) := fun p hp => N p (by
  simp only [List.mem_cons] at hp ⊢
  rcases hp with hp | hp | hp | hp | hp | hp | hp | hp | hp | hp <;> simp [hp])
theorem all_ne_lt {d c : Addr} : ∀ {l : List (Addr × Obj)}, AllLt d l → @LE.le Nat _ d c → ∀ p ∈ l, p.1 ≠ c
  | [], _, _ => fun _ h => (nomatch h)
  | p :: l, h, hc => fun q hq => by
    rcases List.mem_cons.mp hq with rfl | hq
    · exact Nat.ne_of_lt (Nat.lt_of_lt_of_le h.1 hc)
    · exact all_ne_lt h.2 hc q hq
end
local macro_rules | `(tactic| walk_at "mine:enter2") => `(tactic| k_dflt (refine code_def (by k_asm) (by k_asm) (by k_asm) (by k_asm) (by k_asm) (by rfl) (by rfl) (by first | assumption | exact rfl) (by k_is) (by k_is) (by ktr_room) (by exact BindsTo.of_eq rfl) (by exact locs rfl) ?_ (by rfl) (by rfl) (by rfl) (by decide); k_whole; intro g' L' h' FG' F' N' B' X' T'; (try dsimp only); (try k_lift B'); (try k_fold)))
section
local macro_rules | `(tactic| walk_at "mine:pad") => `(tactic| skip)
theorem start_L1 : True := by w_top off; exact trivial
local macro_rules | `(tactic| k_all) => `(tactic| exact above_all (by assumption) (by k_dflt (first | exact Nat.le_refl _ | exact Nat.le_add_right _ 1 | exact Nat.le_add_right _ 2 | exact Nat.le_add_right _ 3 | exact Nat.le_add_right _ 4 | exact Nat.le_add_right _ 5 | exact Nat.le_add_right _ 6 | exact Nat.le_add_right _ 7)))
local macro_rules | `(tactic| k_all) => `(tactic| exact all_ne_lt (by assumption) (by lia))
noncomputable abbrev lsN (ys : List Value) (n : Nat) : Obj := listOf ys.toArray n
theorem strs_of_carried : ∀ {ys : List Value} {xs : List Str}, CarriedAll ys (xs.map .str) → StrsAre ys xs
  | [], [], _ => .nil
  | [], _ :: _, h => by cases h
  | _ :: _, [], h => by cases h
  | y :: ys, x :: xs, h => by
    cases h with
    | cons h r =>
      cases h with
      | str _ u => exact .cons _ _ (strs_of_carried r)
theorem list_strN {prog : Program} {w : World} {A : Around} {E : Value → Shared → Prop} {s : Shared} {h₀ : Heap} {L : Addr} {m : Str → Option Value} {x : Str} {t : Tok} {news : List (Addr × Obj)} {Q : Value → Shared → Prop} (hh : A.handled = none) (Fh : Fr h₀ L s.heap m) (N : News h₀ L s.heap news) (hsz : x.length ≤ sizeLine)
    (hQ : ∀ D h' tk (ys : List Value) n, Fr h₀ L h' m → News h₀ L h' ((D, lsN ys n) :: news) → (∀ p ∈ news, p.1 < D) → StrsAre ys (signs x) → Q (.ref D) { s with heap := h', toks := tk }) :
    wpAny (model prog w) A (call (.type "list") [.str x t]) Q E s := by
  refine list_strD hh Fh N (hsz := hsz) fun h' tk ys F' N' hk h0 hl hp hc => ?_
  obtain ⟨⟨n, e⟩, hne⟩ := hp
  refine hQ _ h' tk ys n F' (fun p hp => ?_) (fun p hp => Heap.lt_size (N p hp).1) (strs_of_carried hc)
  rcases List.mem_cons.mp hp with rfl | hp
  · exact ⟨e, Nat.ne_of_gt Fh.ns.lt, h0⟩
  · exact N' p hp
local macro_rules | `(tactic| walk_at "call type:list") => `(tactic| (k_here; k_dflt (refine list_strN (by with_unfolding_all rfl) (by k_asm) (by k_asm) (by (rw [sizeLine_eq, len_is]; lia)) ?_; k_whole); intro D9 h9 tk9 ys9 n9 F9 N9 l9 hS9; (try k_lt l9)))
local macro_rules | `(tactic| walk_at "eval Lambda") => `(tactic| (k_here; k_dflt (refine kla_eval (by rfl) ?_); (k_dflt (refine kla_nest (P := 136) (by k_asm) (by k_asm) (by k_asm) (by assumption) (by rfl) (by k_updF) (by kn_triples) (by kn_among) (by rfl) ?_; k_whole); intro f' c' oc' vs' t' ct' h' tk' F' N' d1' d2' l1 l2; (try dsimp only at N'); (try k_lt l1); (try k_lt2 l2))))
local macro_rules | `(tactic| walk_at "setAttr ref") => `(tactic| (k_here; (with_reducible show wpAny _ _ (setAttr (Value.ref _) (Str.ofString "read") _) _ _ _); k_dflt (refine fn_setattr (by k_asm) (by k_asm) (by k_updF) ?_; k_whole); intro d' h' tk' t' F' N' l1; (try dsimp only at N'); (try k_lt l1)))
local macro_rules | `(tactic| walk_at "call ref") => `(tactic| (k_here; (with_reducible show wpAny _ _ (call (Value.ref 130) _) _ _ _); k_dflt (refine call_cls (by k_asm) (by k_asm) (by k_asm) (by k_is) (by k_is) (by k_is) ?_; k_whole; intro x' d' h' F' N' l1 l2; (try k_lt l1); (try k_lt2 l2); (try k_sweep)); walk_at "mine:enter2"))
set_option maxHeartbeats 0 in
theorem t_lexer (ns : List Nat) (tk : Tok) (hn : ns.length ≤ 400) : ClaimP 5 141 [.str ⟨ns.toArray⟩ tk] (fun _ news => ∃ rest, news = (136, tabObj #[]) :: rest ∧ ∀ p ∈ rest, p.1 ≠ 136)
    (fun P news news' v => ∃ rest T k lt ys n pn, news = (136, tabObj #[]) :: rest ∧ v = .ref k.x ∧ LexOk k ∧ StrsAre ys (signs ⟨ns.toArray⟩) ∧ news' = k.objs P 1 lt ys n [] pn ++ (136, tabObj T) :: rest ∧ @LT.lt Nat _ 136 k.cl ∧ AllLt k.cl rest) := by
  dsimp only [ClaimP]; k_fill
  intro w mean mg mb news dp un gd cn cs a ccd cl outer A₀ base h₀ L m s Q E B F X N hpre T hk hd hu hret
  obtain ⟨rest, rfl, hoff⟩ := hpre
  refine wpAny_call ?_
  walk_at "mine:enterC"
  rename ∀ p ∈ (136, tabObj #[]) :: rest, p.1 < _ => l1
  k_lt l1
  have hL9 := l1.2
  rename (K w.params).In _ => X9
  have C9 := codeHd_of_K (c := 140) (P := 136) X9 (by kernel_rfl)
  k_steps
  rename StrsAre _ _ => hS9
  rename Obj.data _ = Data.cell (some (Value.ref _)) => hc9
  refine' hret _ _ _ _ ?zP (by k_asm) ?zN
  case zN => exact lex_news (by assumption)
  case zP =>
    refine' ⟨rest, _, ⟨_, _, _, _, _, _, _, _, _, _, _, _, _, _, _, _, _, _, _, _, _⟩, _, _, _, _, rfl, ?e1, ?e2, ?e3, ?e4, ?e5, ?e6⟩
    case e4 => exact rfl
    case e1 => exact rfl
    case e2 => exact ⟨⟨_, _, by assumption, by assumption⟩, hc9, by dsimp only; lia, by dsimp only; lia, by dsimp only; lia, by dsimp only; lia, by dsimp only; lia, by dsimp only; lia, by dsimp only; lia, by dsimp only; lia⟩
    case e3 => exact hS9
    case e5 => dsimp only; lia
    case e6 => exact allLt_mono hL9 (by dsimp only; lia)
end
local macro_rules | `(tactic| walk_at "call builtin:list.pop") => `(tactic| (k_here; k_dflt (refine pop_head (by k_asm) (by k_asm) (by k_upd) (by assumption) ?_; k_whole); intro h' F' N'; (try dsimp only [List.nil_append, List.cons_append] at N')))
local macro_rules | `(tactic| walk_at "truthy ref") => `(tactic| (k_here; first | k_dflt (refine truthy_nil (by k_asm) (by k_mem) ?_; k_whole) | k_dflt (refine truthy_cons (by k_asm) (by k_mem) (by assumption) ?_; k_whole); intro tk9))
section
theorem start_L5 : True := by w_top off; exact trivial
theorem fn_method {prog : Program} {w : World} {A : Around} {E : Value → Shared → Prop} {s : Shared} {h₀ : Heap} {L : Addr} {news : List (Addr × Obj)} {f d r : Addr} {fd : FuncData} {t : Tok} {pl : Sem Bool} {Q : Value × List Value → Shared → Prop}
    (N : News h₀ L s.heap news) (hf : (f, { cls := .type "function", dict := some d, data := .func fd }) ∈ news) (hd : (d, readDict w.params t (.ref r)) ∈ news) (h : ∀ tk, Q (.ref r, []) { s with toks := tk }) :
    wpAny (model prog w) A (getMethod (.ref f) "read" pl) Q E s := fn_getmethod (N _ hf).1 (N _ hd).1 h
local macro_rules | `(tactic| walk_at "getMethod ref") => `(tactic| (k_here; (with_reducible show wpAny _ _ (getMethod (Value.ref _) (Str.ofString "read") _) _ _ _); k_dflt (refine fn_method (by k_asm) (by k_mem) (by k_mem) ?_; k_whole); intro tk9; (try dsimp only)))
local macro_rules | `(tactic| walk_at "call ref") => `(tactic| (k_here; (with_reducible show wpAny _ _ (call (Value.ref (LexK.rf _)) _) _ _ _); k_dflt (refine wpAny_call ?_; refine kla_code (by k_asm) (by k_asm) (by k_asm) (by k_asm) (by k_asm) (by rfl) (by rfl) (by rfl) (by k_mem) (by exact codeRec_news (by k_asm) (by k_mem) (by assumption) (by assumption)) (by ktr_room) (by rfl) (by exact locs rfl) ?_ (by rfl) (by rfl) (by rfl) (by decide); k_whole; intro g' L' h' FG' F' N' B' X' T'; (try dsimp only); (try k_lift B'); (try k_fold); (show wpAny _ _ (eval (PySem.Expr.IfExp _ _ _ _) _) _ _ _))))
theorem truthy_cons {prog : Program} {w : World} {A : Around} {E : Value → Shared → Prop} {s : Shared} {h₀ : Heap} {L l : Addr} {news : List (Addr × Obj)} {y : Value} {r : List Value} {n : Nat} {Q : Bool → Shared → Prop} (N : News h₀ L s.heap news) (hm : (l, listOf (y :: r).toArray n) ∈ news) (hsz : r.length ≤ 1000000) (h : ∀ tk, Q true { s with toks := tk }) :
    wpAny (model prog w) A (truthy (.ref l)) Q E s := by
  refine wpAny_truthy_list (News.isList N hm) ?_ ?_
  · rw [List.size_toArray, List.length_cons, show (2 : Int) ^ 63 = 9223372036854775808 from rfl]; omega
  · exact h _
theorem pop_head {prog : Program} {w : World} {A : Around} {E : Value → Shared → Prop} {s : Shared} {h₀ : Heap} {L D : Addr} {m : Str → Option Value} {news news' : List (Addr × Obj)} {y : Value} {r : List Value} {n : Nat} {u : Tok} {Q : Value → Shared → Prop} (F : Fr h₀ L s.heap m) (N : News h₀ L s.heap news)
    (U : Upd D (listOf (y :: r).toArray n) (listOf r.toArray (n + 1)) news news') (hsz : r.length ≤ 1000000) (h : ∀ h', Fr h₀ L h' m → News h₀ L h' news' → Q y { s with heap := h' }) : wpAny (model prog w) A (call (.builtin "list.pop") [.ref D, .int 0 u]) Q E s := by
  refine kl_popAt (k := 0) (p := []) (q := r) F N (by decide) ?_ rfl U ?_ h
  · rw [List.size_toArray, List.length_cons]; unfold seqIndex?; simp
  · show (y :: r).length ≤ sizeLine
    rw [sizeLine_eq, List.length_cons]; omega
theorem is_nl {c : Nat} : ((⟨#[c]⟩ : Str) == Str.ofString "\n") = decide (c = 10) := by
  have e : Str.ofString "\n" = ⟨#[10]⟩ := by decide +kernel
  rw [e, Bool.eq_iff_iff, one_eq, decide_eq_true_eq]
/-- as ClaimP, at the code -/
noncomputable def ClaimC (j : Nat) (f : Addr) (vs : List Value) (Pre : Params → List (Addr × Obj) → Prop) (Post : Params → List (Addr × Obj) → List (Addr × Obj) → Value → Prop) : Prop :=
  ∀ (w : World) (mean : ExcName → Option Value) (mg mb : Str → Option Value) (news : List (Addr × Obj))
    (dp un : Nat) (gd : Option (List Code)) (cn : Str) (cs : Scope) (a : Addr) (ccd : Value) (cl : List (Str × Addr)) (outer : List Env)
    (A₀ : Around) (base h₀ : Heap) (L : Addr) (m : Str → Option Value) (s : Shared) (Q E : Value → Shared → Prop),
    Below A₀ base outer h₀ → Fr h₀ L s.heap m → (K w.params).In h₀ → News h₀ L s.heap news → Pre w.params news → Top q loose mean mg mb h₀ → cs.kind = .function →
    dp + 20 + j < recursionLimit → un + 100 + 10 * j < cLine →
    (∀ v h' tk' news', Post w.params news news' v → Fr h₀ L h' m → News h₀ L h' news' → Q v { s with heap := h', toks := tk' }) →
    codeAny (model PySem.Challenge.rw_rw0107_01.row.prog w) (ktrTop dp un gd cn cs L a ccd cl outer) (.call (.ref f) ⟨vs, []⟩) (fun r s' => match r with | .ok (.ret v) => Q v s' | .ok _ => False | .error e => E e s') s
theorem ClaimC.toP {j f vs Pre Post} (h : ClaimC j f vs Pre Post) : ClaimP j f vs Pre Post := by
  intro w mean mg mb news dp un gd cn cs a ccd cl outer A₀ base h₀ L m s Q E B F X N hpre T hk hd hu hret
  exact wpAny_call (h w mean mg mb news dp un gd cn cs a ccd cl outer A₀ base h₀ L m s Q E B F X N hpre T hk hd hu hret)
set_option maxHeartbeats 0 in
theorem c_read_cons (k : LexK) (ok : LexOk k) (ln : Int) (lt : Tok) (c : Nat) (u : Tok) (r : List Value) (n : Nat) (ps : List Value) (pn : Nat) (hr : r.length ≤ 1000000) :
    ClaimC 5 113 [.ref k.x] (fun P news => ∃ rest, news = k.objs P ln lt (.str ⟨#[c]⟩ u :: r) n ps pn ++ rest ∧ OffL k rest)
    (fun P news news' v => ∃ rest lt' n', news = k.objs P ln lt (.str ⟨#[c]⟩ u :: r) n ps pn ++ rest ∧ v = .str ⟨#[c]⟩ u ∧ news' = k.objs P (if c = 10 then ln + 1 else ln) lt' r n' ps pn ++ rest) := by
  dsimp only [ClaimC]; k_fill
  intro w mean mg mb news dp un gd cn cs a ccd cl outer A₀ base h₀ L m s Q E B F X N hpre T hk hd hu hret
  obtain ⟨rest, rfl, hoff1, hoff2, hoff3⟩ := hpre
  obtain ⟨⟨vs9, t9, hco, hcv⟩, hcell, o1, o2, o3, o4, o5, o6, o7, o8⟩ := ok
  simp only [LexK.objs, lexDict, List.cons_append, List.nil_append] at N
  walk_at "mine:enter2"
  rename (K w.params).In _ => X9
  have C9 := codeHd_of_K (c := 140) (P := 136) X9 (by kernel_rfl)
  k_steps
  · rename (_ == _) = true => hc
    have hc' : c = 10 := of_decide_eq_true (is_nl.symm.trans hc)
    refine' hret _ _ _ _ ?zP1 (by k_asm) ?zN1
    case zN1 => assumption
    case zP1 =>
      refine' ⟨rest, _, _, rfl, rfl, ?e1⟩
      case e1 => rw [if_pos hc']; exact rfl
  · rename (_ == _) = false => hc
    have hc' : ¬ c = 10 := of_decide_eq_false (is_nl.symm.trans hc)
    refine' hret _ _ _ _ ?zP2 (by k_asm) ?zN2
    case zN2 => assumption
    case zP2 =>
      refine' ⟨rest, _, _, rfl, rfl, ?e2⟩
      case e2 => rw [if_neg hc']; exact rfl
theorem truthy_nil {prog : Program} {w : World} {A : Around} {E : Value → Shared → Prop} {s : Shared} {h₀ : Heap} {L l : Addr} {news : List (Addr × Obj)} {n : Nat} {Q : Bool → Shared → Prop} (N : News h₀ L s.heap news) (hm : (l, listOf ([] : List Value).toArray n) ∈ news) (h : ∀ tk, Q false { s with toks := tk }) :
    wpAny (model prog w) A (truthy (.ref l)) Q E s := by
  refine wpAny_truthy_list (News.isList N hm) ?_ ?_
  · decide
  · exact h _
set_option maxHeartbeats 0 in
theorem c_read_nil (k : LexK) (ok : LexOk k) (ln : Int) (lt : Tok) (n : Nat) (ps : List Value) (pn : Nat) :
    ClaimC 5 113 [.ref k.x] (fun P news => ∃ rest, news = k.objs P ln lt [] n ps pn ++ rest ∧ OffL k rest)
    (fun P news news' v => ∃ t, v = .str (Str.ofString "") t ∧ news' = news) := by
  dsimp only [ClaimC]; k_fill
  intro w mean mg mb news dp un gd cn cs a ccd cl outer A₀ base h₀ L m s Q E B F X N hpre T hk hd hu hret
  obtain ⟨rest, rfl, hoff1, hoff2, hoff3⟩ := hpre
  obtain ⟨⟨vs9, t9, hco, hcv⟩, hcell, o1, o2, o3, o4, o5, o6, o7, o8⟩ := ok
  simp only [LexK.objs, lexDict, List.cons_append, List.nil_append] at N
  walk_at "mine:enter2"
  rename (K w.params).In _ => X9
  have C9 := codeHd_of_K (c := 140) (P := 136) X9 (by kernel_rfl)
  k_steps
  refine' hret _ _ _ _ ?zP2 (by k_asm) ?zN2
  case zN2 => assumption
  case zP2 => exact ⟨_, rfl, rfl⟩
theorem t_read_cons (k : LexK) (ok : LexOk k) (ln : Int) (lt : Tok) (c : Nat) (u : Tok) (r : List Value) (n : Nat) (ps : List Value) (pn : Nat) (hr : r.length ≤ 1000000) :
    ClaimP 5 113 [.ref k.x] (fun P news => ∃ rest, news = k.objs P ln lt (.str ⟨#[c]⟩ u :: r) n ps pn ++ rest ∧ OffL k rest)
    (fun P news news' v => ∃ rest lt' n', news = k.objs P ln lt (.str ⟨#[c]⟩ u :: r) n ps pn ++ rest ∧ v = .str ⟨#[c]⟩ u ∧ news' = k.objs P (if c = 10 then ln + 1 else ln) lt' r n' ps pn ++ rest) :=
  (c_read_cons k ok ln lt c u r n ps pn hr).toP
theorem t_read_nil (k : LexK) (ok : LexOk k) (ln : Int) (lt : Tok) (n : Nat) (ps : List Value) (pn : Nat) :
    ClaimP 5 113 [.ref k.x] (fun P news => ∃ rest, news = k.objs P ln lt [] n ps pn ++ rest ∧ OffL k rest)
    (fun P news news' v => ∃ t, v = .str (Str.ofString "") t ∧ news' = news) := (c_read_nil k ok ln lt n ps pn).toP
end
section
theorem start_L6 : True := by w_top off; exact trivial
theorem append_ps {prog : Program} {w : World} {A : Around} {E : Value → Shared → Prop} {s : Shared} {h₀ : Heap} {L D : Addr} {m : Str → Option Value} {news news' : List (Addr × Obj)} {y : Value} {ps : List Value} {n : Nat} {Q : Value → Shared → Prop} (F : Fr h₀ L s.heap m) (N : News h₀ L s.heap news)
    (U : Upd D (listOf ps.toArray n) (listOf (ps ++ [y]).toArray (n + 1)) news news') (hsz : ps.length ≤ 1000000) (h : ∀ h', Fr h₀ L h' m → News h₀ L h' news' → Q .none { s with heap := h' }) : wpAny (model prog w) A (call (.builtin "list.append") [.ref D, y]) Q E s := by
  refine append_K F N (its := ps.toArray) (by rw [List.push_toArray]; exact U) h (hsz := ?_)
  rw [List.size_toArray, sizeLine_eq]; lia
local macro_rules | `(tactic| walk_at "call builtin:list.append") => `(tactic| (k_here; k_dflt (refine append_ps (by k_asm) (by k_asm) (by k_upd) (by assumption) ?_; k_whole); intro h' F' N'; (try dsimp only [List.nil_append, List.cons_append] at N')))
set_option maxHeartbeats 0 in
theorem t_push (k : LexK) (ok : LexOk k) (ln : Int) (lt : Tok) (ys : List Value) (n : Nat) (ps : List Value) (pn : Nat) (y : Str) (u : Tok) (hps : ps.length ≤ 1000000) :
    ClaimP 5 127 [.ref k.x, .str y u] (fun P news => ∃ rest, news = k.objs P ln lt ys n ps pn ++ rest ∧ OffL k rest)
    (fun P news news' v => ∃ rest, news = k.objs P ln lt ys n ps pn ++ rest ∧ v = .none ∧ news' = k.objs P ln lt ys n (ps ++ [.str y u]) (pn + 1) ++ rest) := by
  dsimp only [ClaimP]; k_fill
  intro w mean mg mb news dp un gd cn cs a ccd cl outer A₀ base h₀ L m s Q E B F X N hpre T hk hd hu hret
  obtain ⟨rest, rfl, hoff1, hoff2, hoff3⟩ := hpre
  obtain ⟨⟨vs9, t9, hco, hcv⟩, hcell, o1, o2, o3, o4, o5, o6, o7, o8⟩ := ok
  simp only [LexK.objs, lexDict, List.cons_append, List.nil_append] at N
  refine wpAny_call ?_
  walk_at "mine:enter2"
  (try walk_at "mine:let")
  k_steps
  refine' hret _ _ _ _ ?zP2 (by k_asm) ?zN2
  case zN2 => assumption
  case zP2 => exact ⟨rest, rfl, rfl, rfl⟩
set_option maxHeartbeats 0 in
theorem t_pop (k : LexK) (ok : LexOk k) (ln : Int) (lt : Tok) (ys : List Value) (n : Nat) (y : Value) (ps : List Value) (pn : Nat) (hps : ps.length ≤ 1000000) :
    ClaimP 5 120 [.ref k.x] (fun P news => ∃ rest, news = k.objs P ln lt ys n (y :: ps) pn ++ rest ∧ OffL k rest)
    (fun P news news' v => ∃ rest, news = k.objs P ln lt ys n (y :: ps) pn ++ rest ∧ v = y ∧ news' = k.objs P ln lt ys n ps (pn + 1) ++ rest) := by
  dsimp only [ClaimP]; k_fill
  intro w mean mg mb news dp un gd cn cs a ccd cl outer A₀ base h₀ L m s Q E B F X N hpre T hk hd hu hret
  obtain ⟨rest, rfl, hoff1, hoff2, hoff3⟩ := hpre
  obtain ⟨⟨vs9, t9, hco, hcv⟩, hcell, o1, o2, o3, o4, o5, o6, o7, o8⟩ := ok
  simp only [LexK.objs, lexDict, List.cons_append, List.nil_append] at N
  refine wpAny_call ?_
  walk_at "mine:enter2"
  (try walk_at "mine:let")
  k_steps
  refine' hret _ _ _ _ ?zP2 (by k_asm) ?zN2
  case zN2 => assumption
  case zP2 => exact ⟨rest, rfl, rfl, rfl⟩
end
section
theorem it2_entry : entryFor table "iter" = some Builtin.«iter» := kdk_entry_iter
theorem it2_args (a b : Value) : argsOk "iter" ⟨[a, b], []⟩ := by unfold argsOk; kernel_rfl
theorem it2_call : typeLookup (.type "method") (Str.ofString "__call__") = pure (some (.builtin "method.__call__")) := by rw [typeLookup_type, builtinLookup_eq_fast]; kernel_rfl
noncomputable def citObj (q : Addr) (t : Tok) : Obj := { cls := .type "callable_iterator", data := .fields #[.ref q, .str (Str.ofString "") t, .bool false] }
theorem iter2 {prog : Program} {w : World} {A : Around} {E : Value → Shared → Prop} {s : Shared} {h₀ : Heap} {L q : Addr} {m : Str → Option Value} {news : List (Addr × Obj)} {f x : Value} {t : Tok} {Q : Value → Shared → Prop} (F : Fr h₀ L s.heap m) (N : News h₀ L s.heap news) (hp : (q, methodObj f x) ∈ news)
    (h : ∀ (I : Addr) h', Fr h₀ L h' m → News h₀ L h' ((I, citObj q t) :: news) → (∀ p ∈ news, p.1 < I) → Q (.ref I) { s with heap := h' }) :
    wpAny (model prog w) A (call (.builtin "iter") [.ref q, .str (Str.ofString "") t]) Q E s := by
  refine call_function_entry (by decide +kernel) (by decide +kernel) it2_entry (it2_args _ _) ?_
  unfold Builtin.«iter»
  refine wpAny_bind (m := someArgs "iter" 1 2 _) (wpAny_of_eq (a := [Value.ref q, .str (Str.ofString "") t]) (by first | rfl | kernel_rfl!) ?_)
  dsimp only
  refine wpAny_bind (wpAny_specialOf (T := "method") ⟨_, (N _ hp).1, rfl⟩ it2_call ?_)
  refine wpAny_ite_split (fun hab => absurd hab (by decide)) (fun _ => ?_)
  refine wpAny_bind (wpAny_rule (wpAny_bind (wpAny_newObj_type ?_ (by size_fits))))
  exact wpAny_pure ⟨_, rfl, h _ _ (F.push _) (News.push F N _ rfl) (fun q hq => Heap.lt_size (N q hq).1)⟩
end
section
theorem slot_cit : Slot "callable_iterator" "__next__" "callable_iterator.__next__" :=
  .of (owner := "callable_iterator") (n := "__next__") (by rw [typeLookup_type, builtinLookup_eq_fast]; kernel_rfl) (by decide +kernel) (by decide +kernel) (by decide +kernel)
    (by first | exact .inl (by decide +kernel) | exact .inr (by decide +kernel)) (by rw [isSubtype_type]; kernel_rfl)
theorem entry_cit : entryFor table "callable_iterator.__next__" = some Builtin.«callable_iterator.__next__» := entryFor_of_fast (by kernel_rfl)
theorem args_cit (a : Value) : argsOk "callable_iterator.__next__" ⟨[a], []⟩ := by unfold argsOk; kernel_rfl
theorem any_callBorrowed {M : Model} {A : Around} {E : Value → Shared → Prop} {s : Shared} {f : Value} {pos : List Value} {Q : Value → Shared → Prop} (h : wpAny M A (call f pos) Q E s) : wpAny M A (callBorrowed f pos) Q E s := by
  have e : callBorrowed f pos = (call f pos).keep [borrowed] := by
    unfold callBorrowed call runValue
    show Sem.call _ _ _ _ _ = Sem.call _ _ _ _ _
    congr 1
    funext r
    rcases r with e | v
    · rfl
    · cases v <;> rfl
  rw [e]; exact wpAny_keep h
theorem any_borrows {M : Model} {A : Around} {E : Value → Shared → Prop} {s : Shared} {q f : Addr} {x : Value} {o : Obj} {fd : FuncData} {Q : Bool → Shared → Prop}
    (hq : s.heap.get? q = some (methodObj (.ref f) x)) (hf : s.heap.get? f = some o) (hfd : o.data = .func fd) (h : Q true s) : wpAny M A (borrowsExactly (.ref q)) Q E s := by
  unfold borrowsExactly
  refine wpAny_bind (wpAny_load hq ?_)
  dsimp only
  rw [if_pos (by decide)]
  show wpAny M A (load f >>= _) Q E s
  refine wpAny_bind (wpAny_load hf ?_)
  rw [hfd]
  exact wpAny_pure h
section
variable {prog : Program} {w : World} {A : Around} {E : Value → Shared → Prop} {s : Shared} {I q f : Addr} {x : Value} {t : Tok} {of : Obj} {fd : FuncData}
theorem cit_item {Q : Option Value → Shared → Prop} (hI : s.heap.get? I = some (citObj q t)) (hq : s.heap.get? q = some (methodObj (.ref f) x)) (hf : s.heap.get? f = some of) (hfd : of.data = .func fd)
    (hc : wpAny (model prog w) A.in1 (call (.ref q) []) (fun v s' => s'.heap.get? I = some (citObj q t) ∧ ∃ c u, v = .str ⟨#[c]⟩ u ∧ Q (some v) s') (fun _ _ => False) s) :
    wpAny (model prog w) A (pyNext (.ref I)) Q E s := by
  have hT : s.TypeIs (.ref I) "callable_iterator" := ⟨_, hI, rfl⟩
  unfold pyNext
  refine wpAny_bind (wpAny_attempt (wpAny_callSpecial?_slot (name := Str.ofString "__next__") hT slot_cit (wpAny_call_entry slot_cit hT entry_cit ?_ (args_cit _))))
  show wpAny _ _ (field (.ref I) 2 >>= _) _ _ s
  refine wpAny_bind (wpAny_field hI rfl (x := .bool false) rfl ?_)
  rw [if_neg (by decide)]
  refine wpAny_bind (wpAny_field hI rfl (x := .ref q) rfl ?_)
  refine wpAny_bind (wpAny_attempt ?_)
  unfold callOutOfASlot
  refine wpAny_bind (any_borrows hq hf hfd ?_)
  rw [if_pos rfl]
  refine any_callBorrowed (wpAny_mono hc (fun v s' hv => ?_) fun _ _ z => z.elim)
  obtain ⟨hI', c, u, rfl, hQ⟩ := hv
  dsimp only
  refine wpAny_bind (wpAny_field hI' rfl (x := .bool false) rfl ?_)
  rw [if_neg (by decide)]
  refine wpAny_bind (wpAny_field hI' rfl (x := .str (Str.ofString "") t) rfl ?_)
  refine wpAny_bind (wpAny_holding (wpAny_eqBool_str ?_))
  have e : decide (Str.ofString "" = (⟨#[c]⟩ : Str)) = false := decide_eq_false (fun h => by
    have h2 := congrArg (fun z : Str => z.cps.size) h
    exact absurd (show (Str.ofString "").cps.size = 1 from h2) (by decide))
  rw [e]
  exact wpAny_pure ⟨_, rfl, wpAny_pure hQ⟩
theorem cit_end {Q : Option Value → Shared → Prop} (hh : A.handled = none) (hI : s.heap.get? I = some (citObj q t)) (hq : s.heap.get? q = some (methodObj (.ref f) x)) (hf : s.heap.get? f = some of) (hfd : of.data = .func fd)
    (hc : wpAny (model prog w) A.in1 (call (.ref q) []) (fun v s' => s'.heap.get? I = some (citObj q t) ∧ s'.heap.get? q = some (methodObj (.ref f) x) ∧ s'.heap.get? f = some of ∧ (∃ u, v = .str (Str.ofString "") u) ∧ ∀ h', Heap.ExtBut I s'.heap h' → Q none { s' with heap := h' }) (fun _ _ => False) s) :
    wpAny (model prog w) A (pyNext (.ref I)) Q E s := by
  have hT : s.TypeIs (.ref I) "callable_iterator" := ⟨_, hI, rfl⟩
  unfold pyNext
  refine wpAny_bind (wpAny_attempt (wpAny_callSpecial?_slot (name := Str.ofString "__next__") hT slot_cit (wpAny_call_entry slot_cit hT entry_cit ?_ (args_cit _))))
  show wpAny _ _ (field (.ref I) 2 >>= _) _ _ s
  refine wpAny_bind (wpAny_field hI rfl (x := .bool false) rfl ?_)
  rw [if_neg (by decide)]
  refine wpAny_bind (wpAny_field hI rfl (x := .ref q) rfl ?_)
  refine wpAny_bind (wpAny_attempt ?_)
  unfold callOutOfASlot
  refine wpAny_bind (any_borrows hq hf hfd ?_)
  rw [if_pos rfl]
  refine any_callBorrowed (wpAny_mono hc (fun v s' hv => ?_) fun _ _ z => z.elim)
  obtain ⟨hI', hq', hf', ⟨u, rfl⟩, hQ⟩ := hv
  dsimp only
  refine wpAny_bind (wpAny_field hI' rfl (x := .bool false) rfl ?_)
  rw [if_neg (by decide)]
  refine wpAny_bind (wpAny_field hI' rfl (x := .str (Str.ofString "") t) rfl ?_)
  refine wpAny_bind (wpAny_holding (wpAny_eqBool_str ?_))
  rw [show decide (Str.ofString "" = Str.ofString "") = true from decide_eq_true rfl]
  rw [if_neg (by decide)]
  refine wpAny_bind (wpAny_rule ?_)
  refine wpAny_bind ?_
  show wpAny _ _ (field (.ref I) 0 >>= _) _ _ s'
  refine wpAny_bind (wpAny_field hI' rfl (x := .ref q) rfl ?_)
  refine wpAny_bind ?_
  unfold slotLetsGo
  dsimp only
  refine wpAny_bind (any_borrows hq' hf' hfd ?_)
  rw [if_pos rfl]
  refine wpAny_pure ?_
  refine wpAny_bind (wpAny_setField hI' rfl (by simp) ?_)
  refine wpAny_bind (wpAny_setField (Heap.get?_update_self _ hI' rfl) rfl (by simp) ?_)
  refine (wpAny_setField (Heap.get?_update_self _ (Heap.get?_update_self _ hI' rfl) rfl) rfl (by simp) ?_)
  show wpAny _ _ (newExc (.type "StopIteration") [] >>= _) _ _ _
  refine wpAny_bind ?_
  simp only [newExc, newTuple]
  refine wpAny_bind (wpAny_newObj_type ?_ (by size_fits))
  refine wpAny_bind (m := firstArgMember _ _) (wpAny_of_eq (a := Value.none) (by first | rfl | (simp only [firstArgMember]; rfl)) ?_)
  refine wpAny_newObj_type ?_ (by size_fits)
  simp only [raiseNew]
  refine wpAny_bind (wpAny_handled ?_)
  rw [show A.in1.handled = none from hh]
  refine wpAny_bind (wpAny_pure (wpAny_throw ?_))
  refine wpAny_bind (wpAny_isInstance (T := "StopIteration") (b := true) ⟨_, Heap.get?_push_size _ rfl, rfl⟩ (by rw [isSubtype_type]; kernel_rfl) ?_)
  exact wpAny_pure (hQ _ ((((Heap.SameBut.update ..).trans (Heap.SameBut.update ..)).trans (Heap.SameBut.update ..)).extBut.push _ |>.push _))
end
end
section
theorem slot_cit_iter : Slot "callable_iterator" "__iter__" "callable_iterator.__iter__" :=
  .of (owner := "callable_iterator") (n := "__iter__") (by rw [typeLookup_type, builtinLookup_eq_fast]; kernel_rfl) (by decide +kernel) (by decide +kernel) (by decide +kernel)
    (by first | exact .inl (by decide +kernel) | exact .inr (by decide +kernel)) (by rw [isSubtype_type]; kernel_rfl)
theorem entry_cit_iter : entryFor table "callable_iterator.__iter__" = some Builtin.«dict_keyiterator.__iter__» :=
  entryFor_alias (id' := "dict_keyiterator.__iter__") (by kernel_rfl) (by first | rfl | decide +kernel | (unfold String.splitOn; simp +decide [String.splitOnAux])) (by decide +kernel) (by kernel_rfl)
theorem args_cit_iter (a : Value) : argsOk "callable_iterator.__iter__" ⟨[a], []⟩ := by unfold argsOk; kernel_rfl
theorem cit_iter {prog : Program} {w : World} {A : Around} {E : Value → Shared → Prop} {s : Shared} {I q : Addr} {t : Tok} {Q : Value → Shared → Prop} (hI : s.heap.get? I = some (citObj q t)) (h : Q (.ref I) s) :
    wpAny (model prog w) A (pyIter (.ref I)) Q E s := by
  have hT : s.TypeIs (.ref I) "callable_iterator" := ⟨_, hI, rfl⟩
  refine wpAny_pyIter_slot hT slot_cit_iter (wpAny_call_entry slot_cit_iter hT entry_cit_iter ?_ (args_cit_iter _))
  show wpAny _ _ (ret (.ref I)) _ _ s
  exact wpAny_pure ⟨_, rfl, "callable_iterator", _, hT, slot_cit.lookup, h⟩
/-- nl signs -/
noncomputable def nlI : List Nat → Int
  | [] => 0
  | c :: r => (if c = 10 then 1 else 0) + nlI r
noncomputable def isWs (c : Nat) : Bool := c == 10 || c == 9 || c == 13 || c == 32
inductive Bare : List Nat → List Nat → List Nat → Prop
  | stop {c r} : isWs c = true → Bare (c :: r) [] r
  | esc {d r t r'} : Bare r t r' → Bare (92 :: d :: r) (d :: t) r'
  | one {c r t r'} : isWs c = false → c ≠ 92 → Bare r t r' → Bare (c :: r) (c :: t) r'
inductive Quo : List Nat → List Nat → List Nat → Prop
  | stop {r} : Quo (34 :: r) [] r
  | esc {d r t r'} : Quo r t r' → Quo (92 :: d :: r) (d :: t) r'
  | one {c r t r'} : c ≠ 34 → c ≠ 92 → Quo r t r' → Quo (c :: r) (c :: t) r'
inductive TokR : List Nat → List Nat → List Nat → Prop
  | fin : TokR [] [] []
  | skip {c r t r'} : isWs c = true → TokR r t r' → TokR (c :: r) t r'
  | quo {r t r'} : Quo r t r' → TokR (34 :: r) t r'
  | esc {d r t r'} : Bare r t r' → TokR (92 :: d :: r) (d :: t) r'
  | one {c r t r'} : isWs c = false → c ≠ 34 → c ≠ 92 → Bare r t r' → TokR (c :: r) (c :: t) r'
end
section
theorem fr_extBut {h₀ h h' : Heap} {L d : Addr} {m : Str → Option Value} (F : Fr h₀ L h m) (hs : Heap.ExtBut d h h') (hL : d ≠ L) (hn : h₀.get? d = none) : Fr h₀ L h' m := by
  obtain ⟨oL, a1, a2, hoL, a3⟩ := F.ns
  refine ⟨⟨oL, a1, a2, hs L oL hL.symm hoL, a3⟩, fun b x e => hs b x ?_ (F.keep b x e), F.above⟩
  rintro rfl
  rw [hn] at e
  cases e
theorem news_extBut {h₀ h h' : Heap} {L d : Addr} {l : List (Addr × Obj)} (N : News h₀ L h l) (hs : Heap.ExtBut d h h') (hd : ∀ p ∈ l, p.1 ≠ d) : News h₀ L h' l :=
  fun p hp => ⟨hs p.1 p.2 (hd p hp) (N p hp).1, (N p hp).2.1, (N p hp).2.2⟩
theorem fn113 (P : Params) : ∃ o fd, (K P).lookup 113 = some o ∧ o.data = .func fd := ⟨_, _, rfl, rfl⟩
theorem news_turn {h₀ h : Heap} {L : Addr} {a b : Addr × Obj} {l r : List (Addr × Obj)} (N : News h₀ L h (a :: b :: (l ++ r))) : News h₀ L h (l ++ (a :: b :: r)) := fun p hp => N p (by
  simp only [List.mem_append, List.mem_cons] at hp ⊢
  rcases hp with hp | hp | hp | hp
  · exact .inr (.inr (.inl hp))
  · exact .inl hp
  · exact .inr (.inl hp)
  · exact .inr (.inr (.inr hp)))
theorem news_back {h₀ h : Heap} {L : Addr} {a b : Addr × Obj} {l r : List (Addr × Obj)} (N : News h₀ L h (l ++ (a :: b :: r))) : News h₀ L h (a :: b :: (l ++ r)) := fun p hp => N p (by
  simp only [List.mem_append, List.mem_cons] at hp ⊢
  rcases hp with hp | hp | hp | hp
  · exact .inr (.inl hp)
  · exact .inr (.inr (.inl hp))
  · exact .inl hp
  · exact .inr (.inr (.inr hp)))
theorem off_two {k : LexK} {a b : Addr × Obj} {r : List (Addr × Obj)} (h : OffL k r) (ha : OffL k [a, b]) : OffL k (a :: b :: r) := by
  obtain ⟨h1, h2, h3⟩ := h
  obtain ⟨a1, a2, a3⟩ := ha
  simp only [List.mem_cons, List.not_mem_nil, or_false] at a1 a2 a3
  refine ⟨fun p hp => ?_, fun p hp => ?_, fun p hp => ?_⟩ <;> simp only [List.mem_cons] at hp <;> rcases hp with hp | hp | hp
  · exact a1 p (.inl hp)
  · exact a1 p (.inr hp)
  · exact h1 p hp
  · exact a2 p (.inl hp)
  · exact a2 p (.inr hp)
  · exact h2 p hp
  · exact a3 p (.inl hp)
  · exact a3 p (.inr hp)
  · exact h3 p hp
section
variable (k : LexK) (ok : LexOk k) {I q1 : Addr} {t : Tok} {rest : List (Addr × Obj)}
  {w : World} {mean : ExcName → Option Value} {mg mb : Str → Option Value}
  {dp un : Nat} {gd : Option (List Code)} {cn : Str} {cs : Scope} {a : Addr} {ccd : Value} {cl : List (Str × Addr)} {outer : List Env}
  {A₀ : Around} {base h₀ : Heap} {L : Addr} {m : Str → Option Value} {s : Shared} {Q : Option Value → Shared → Prop} {E : Value → Shared → Prop}
include ok in
theorem next_cons (ln : Int) (lt : Tok) (c : Nat) (u : Tok) (r : List Value) (n : Nat) (ps : List Value) (pn : Nat) (hr : r.length ≤ 1000000)
    (B : Below A₀ base outer h₀) (F : Fr h₀ L s.heap m) (X : (K w.params).In h₀)
    (N : News h₀ L s.heap ((I, citObj q1 t) :: (q1, methodObj (.ref 113) (.ref k.x)) :: (k.objs w.params ln lt (.str ⟨#[c]⟩ u :: r) n ps pn ++ rest)))
    (off : OffL k rest) (ha : OffL k [(I, citObj q1 t), (q1, methodObj (.ref 113) (.ref k.x))])
    (T : Top q loose mean mg mb h₀) (hk : cs.kind = .function) (hd : dp + 20 + 5 < recursionLimit) (hu : un + 1 + 100 + 10 * 5 < cLine)
    (h : ∀ h' tk' lt' n', Fr h₀ L h' m → News h₀ L h' ((I, citObj q1 t) :: (q1, methodObj (.ref 113) (.ref k.x)) :: (k.objs w.params (if c = 10 then ln + 1 else ln) lt' r n' ps pn ++ rest)) →
      Q (some (.str ⟨#[c]⟩ u)) { s with heap := h', toks := tk' }) :
    wpAny (model PySem.Challenge.rw_rw0107_01.row.prog w) (ktrTop dp un gd cn cs L a ccd cl outer) (pyNext (.ref I)) Q E s := by
  obtain ⟨o, fd, ho, hfd⟩ := fn113 w.params
  refine cit_item (N _ (.head _)).1 (N _ (.tail _ (.head _))).1 ((X.keeps F.keep) 113 o ho) hfd ?_
  refine call_meth N (.tail _ (.head _)) ?_
  refine c_read_cons k ok ln lt c u r n ps pn hr w mean mg mb _ dp (un + 1) gd cn cs a ccd cl outer A₀ base h₀ L m s _ _ B F X (news_turn N) ⟨_, rfl, off_two off ha⟩ T hk hd hu ?_
  rintro v h' tk' news' ⟨rest', lt', n', e, rfl, rfl⟩ F' N'
  have e' := List.append_cancel_left e
  subst e'
  have N2 := news_back N'
  exact ⟨(N2 _ (.head _)).1, c, u, rfl, h h' tk' lt' n' F' N2⟩
include ok in
theorem next_nil (ln : Int) (lt : Tok) (n : Nat) (ps : List Value) (pn : Nat)
    (B : Below A₀ base outer h₀) (F : Fr h₀ L s.heap m) (X : (K w.params).In h₀)
    (N : News h₀ L s.heap ((I, citObj q1 t) :: (q1, methodObj (.ref 113) (.ref k.x)) :: (k.objs w.params ln lt [] n ps pn ++ rest)))
    (off : OffL k rest) (ha : OffL k [(I, citObj q1 t), (q1, methodObj (.ref 113) (.ref k.x))])
    (hI : ∀ p ∈ k.objs w.params ln lt [] n ps pn ++ rest, p.1 ≠ I)
    (T : Top q loose mean mg mb h₀) (hk : cs.kind = .function) (hd : dp + 20 + 5 < recursionLimit) (hu : un + 1 + 100 + 10 * 5 < cLine)
    (h : ∀ h' tk', Fr h₀ L h' m → News h₀ L h' (k.objs w.params ln lt [] n ps pn ++ rest) → Q none { s with heap := h', toks := tk' }) :
    wpAny (model PySem.Challenge.rw_rw0107_01.row.prog w) (ktrTop dp un gd cn cs L a ccd cl outer) (pyNext (.ref I)) Q E s := by
  obtain ⟨o, fd, ho, hfd⟩ := fn113 w.params
  refine cit_end rfl (N _ (.head _)).1 (N _ (.tail _ (.head _))).1 ((X.keeps F.keep) 113 o ho) hfd ?_
  refine call_meth N (.tail _ (.head _)) ?_
  refine c_read_nil k ok ln lt n ps pn w mean mg mb _ dp (un + 1) gd cn cs a ccd cl outer A₀ base h₀ L m s _ _ B F X (news_turn N) ⟨_, rfl, off_two off ha⟩ T hk hd hu ?_
  rintro v h' tk' news' ⟨u, rfl, rfl⟩ F' N'
  have N2 := news_back N'
  refine ⟨(N2 _ (.head _)).1, (N2 _ (.tail _ (.head _))).1, (X.keeps F'.keep) 113 o ho, ⟨u, rfl⟩, fun h2 hx => ?_⟩
  exact h h2 tk' (fr_extBut F' hx (N2 _ (.head _)).2.1 (N2 _ (.head _)).2.2) (news_extBut (fun p hp => N2 p (.tail _ (.tail _ hp))) hx hI)
end
end
local macro_rules | `(tactic| walk_at "inplaceOp Add str str") => `(tactic| (k_here; k_dflt (refine SBL.iadd (hsz := add_tok (by assumption)) ?_); intro _ _ _))
section
local macro_rules | `(tactic| walk_at "mine:pad") => `(tactic| skip)
theorem start_L7 : True := by w_top off; exact trivial
noncomputable def mm (base : Str → Option Value) (chv : Option Value) (tok : Value) (I : Addr) : Str → Option Value :=
  fun y => if y = Str.ofString "ch" then chv else if y = Str.ofString "token" then some tok else if y = Str.ofString "fiter" then some (.ref I) else base y
theorem mm_init {base : Str → Option Value} {tok : Value} {I : Addr} (hb : base (Str.ofString "ch") = none) :
    (fun y => if y = Str.ofString "fiter" then some (.ref I) else if y = Str.ofString "token" then some tok else base y) = mm base none tok I := by
  funext y
  unfold mm
  by_cases h1 : y = Str.ofString "ch"
  · subst h1
    rw [if_neg (by decide +kernel), if_neg (by decide +kernel), if_pos rfl, hb]
  · rw [if_neg h1]
    by_cases h2 : y = Str.ofString "fiter"
    · subst h2; rw [if_pos rfl, if_neg (by decide +kernel), if_pos rfl]
    · rw [if_neg h2, if_neg h2]
theorem mm_ch {base : Str → Option Value} {chv : Option Value} {tok : Value} {I : Addr} {v : Value} :
    (fun y => if y = Str.ofString "ch" then some v else mm base chv tok I y) = mm base (some v) tok I := by
  funext y; unfold mm
  by_cases h1 : y = Str.ofString "ch"
  · rw [if_pos h1, if_pos h1]
  · rw [if_neg h1, if_neg h1, if_neg h1]
theorem mm_tok {base : Str → Option Value} {chv : Option Value} {tok : Value} {I : Addr} {v : Value} :
    (fun y => if y = Str.ofString "token" then some v else mm base chv tok I y) = mm base chv v I := by
  funext y; unfold mm
  by_cases h1 : y = Str.ofString "token"
  · subst h1; rw [if_pos rfl, if_neg (by decide +kernel), if_pos rfl]
  · simp only [if_neg h1]
theorem base_self {x : Value} : (fun y => List.lookup y [(Str.ofString "self", x)]) = fun y => if y = Str.ofString "self" then some x else none := by
  funext y
  simp only [List.lookup]
  by_cases h : y = Str.ofString "self"
  · subst h; simp
  · rw [if_neg h, beq_false_of_ne h]
/-- values that are one sign each -/
noncomputable def Chs : List Value → List Nat → Prop
  | [], [] => True
  | .str s _ :: r, c :: cs => s = ⟨#[c]⟩ ∧ Chs r cs
  | _, _ => False
theorem chs_nil {l : List Value} (h : Chs l []) : l = [] := by
  cases l with
  | nil => rfl
  | cons a r => cases a <;> exact h.elim
theorem chs_cons {l : List Value} {c : Nat} {cs : List Nat} (h : Chs l (c :: cs)) : ∃ u r, l = .str ⟨#[c]⟩ u :: r ∧ Chs r cs := by
  cases l with
  | nil => exact h.elim
  | cons a r =>
    cases a <;> try exact h.elim
    obtain ⟨rfl, h2⟩ := h
    exact ⟨_, _, rfl, h2⟩
theorem chs_length : ∀ {l : List Value} {cs : List Nat}, Chs l cs → l.length = cs.length
  | [], [], _ => rfl
  | .str _ _ :: r, _ :: cs, h => congrArg (· + 1) (chs_length (l := r) (cs := cs) h.2)
theorem ws_list : (Str.ofString "\n\t\r ").cps.toList = [10, 9, 13, 32] := by decide +kernel
theorem ws_yes {c : Nat} (h : (Builtin.Str.occurrences (Str.ofString "\n\t\r ") ⟨#[c]⟩ 0 (Str.ofString "\n\t\r ").length 1).isEmpty = false) : isWs c = true := by
  have h' := PySem.StrLaws.found_one (Str.ofString "\n\t\r ") c
  rw [h, ws_list] at h'
  have : c ∈ [10, 9, 13, 32] := by simpa using h'
  simp only [List.mem_cons, List.not_mem_nil, or_false] at this
  rcases this with rfl | rfl | rfl | rfl <;> rfl
theorem ws_no {c : Nat} (h : (Builtin.Str.occurrences (Str.ofString "\n\t\r ") ⟨#[c]⟩ 0 (Str.ofString "\n\t\r ").length 1).isEmpty = true) : isWs c = false := by
  have h' := PySem.StrLaws.found_one (Str.ofString "\n\t\r ") c
  rw [h, ws_list] at h'
  have : ¬ c ∈ [10, 9, 13, 32] := by simpa using h'
  simp only [List.mem_cons, List.not_mem_nil, or_false, not_or] at this
  unfold isWs
  simp [this]
theorem is_qu {c : Nat} : ((⟨#[c]⟩ : Str) == Str.ofString "\"") = decide (c = 34) := by
  have e : Str.ofString "\"" = ⟨#[34]⟩ := by decide +kernel
  rw [e, Bool.eq_iff_iff, one_eq, decide_eq_true_eq]
theorem is_bs {c : Nat} : ((⟨#[c]⟩ : Str) == Str.ofString "\\") = decide (c = 92) := by
  have e : Str.ofString "\\" = ⟨#[92]⟩ := by decide +kernel
  rw [e, Bool.eq_iff_iff, one_eq, decide_eq_true_eq]
theorem ht_skip {c : Nat} {r t r' : List Nat} (hw : isWs c = true) (h : TokR (c :: r) t r') : TokR r t r' := by
  cases h with
  | skip _ h2 => exact h2
  | quo h2 => exact absurd hw (by decide)
  | esc h2 => exact absurd hw (by decide)
  | one h1 _ _ _ => rw [h1] at hw; cases hw
theorem ht_quo {c : Nat} {r t r' : List Nat} (hc : c = 34) (h : TokR (c :: r) t r') : Quo r t r' := by
  cases h with
  | skip h1 _ => subst hc; exact absurd h1 (by decide)
  | quo h2 => exact h2
  | esc h2 => exact absurd hc (by decide)
  | one _ h1 _ _ => exact absurd hc h1
theorem ht_esc {c : Nat} {r t r' : List Nat} (hc : c = 92) (h : TokR (c :: r) t r') : ∃ d r1 t1, r = d :: r1 ∧ t = d :: t1 ∧ Bare r1 t1 r' := by
  cases h with
  | skip h1 _ => subst hc; exact absurd h1 (by decide)
  | quo h2 => exact absurd hc (by decide)
  | esc h2 => exact ⟨_, _, _, rfl, rfl, h2⟩
  | one _ _ h1 _ => exact absurd hc h1
theorem ht_one {c : Nat} {r t r' : List Nat} (hw : isWs c = false) (h1 : c ≠ 34) (h2 : c ≠ 92) (h : TokR (c :: r) t r') : ∃ t1, t = c :: t1 ∧ Bare r t1 r' := by
  cases h with
  | skip h3 _ => rw [hw] at h3; cases h3
  | quo h3 => exact absurd rfl h1
  | esc h3 => exact absurd rfl h2
  | one _ _ _ h3 => exact ⟨_, rfl, h3⟩
noncomputable def tokBody : List Stmt := match (fdm 2 3 .none .none).body with | .stmts b => b | _ => []
noncomputable def forB : Stmt → List Stmt | .For _ _ b _ _ => b | _ => []
noncomputable def ifT : Stmt → List Stmt | .If _ b _ _ => b | _ => []
noncomputable def ifE : Stmt → List Stmt | .If _ _ b _ => b | _ => []
noncomputable def tokFor : Stmt := tokBody.getD 3 default
noncomputable def tokIf : Stmt := (forB tokFor).getD 1 default
noncomputable def quoFor : Stmt := (ifT tokIf).getD 0 default
noncomputable def bareFor : Stmt := (ifE tokIf).getD 2 default
noncomputable abbrev tokScope : Scope := { kind := .function, names := [(Str.ofString "self", .local), (Str.ofString "token", .local), (Str.ofString "fiter", .local), (Str.ofString "ch", .local), (Str.ofString "iter", .globalImplicit)], isGenerator := false, isCoroutine := false }
noncomputable abbrev tokEnv (L1 : Addr) : Env := envOf (Str.ofString "_netrclex.get_token") tokScope L1 120 (.ref 119)
noncomputable abbrev selfM (k : LexK) : Str → Option Value := fun y => if y = Str.ofString "self" then some (.ref k.x) else none
theorem snoc_str (tp : List Nat) (c : Nat) : (⟨tp.toArray⟩ : Str) ++ ⟨#[c]⟩ = ⟨(tp ++ [c]).toArray⟩ := str_app tp [c]
theorem add_tok {tp : List Nat} {c n : Nat} (h : tp.length + n ≤ 1000001) : (⟨tp.toArray⟩ : Str).length + (⟨#[c]⟩ : Str).length ≤ sizeLine := by
  rw [len_is, show (⟨#[c]⟩ : Str).length = 1 from rfl, sizeLine_eq]; lia
theorem hb_stop {c : Nat} {r t r' : List Nat} (hw : isWs c = true) (h : Bare (c :: r) t r') : t = [] ∧ r' = r := by
  cases h with
  | stop _ => exact ⟨rfl, rfl⟩
  | esc _ => exact absurd hw (by decide)
  | one h1 _ _ => rw [h1] at hw; cases hw
theorem hq_stop {c : Nat} {r t r' : List Nat} (hw : c = 34) (h : Quo (c :: r) t r') : t = [] ∧ r' = r := by
  cases h with
  | stop => exact ⟨rfl, rfl⟩
  | esc _ => exact absurd hw (by decide)
  | one h1 _ _ => exact absurd hw h1
theorem mm_both {base : Str → Option Value} {chv : Option Value} {tok v x : Value} {I : Addr} :
    (fun y => if y = Str.ofString "token" then some v else if y = Str.ofString "ch" then some x else mm base chv tok I y) = mm base (some x) v I := by
  funext y; unfold mm
  by_cases h1 : y = Str.ofString "token"
  · subst h1; rw [if_pos rfl, if_neg (by decide +kernel), if_pos rfl]
  · simp only [if_neg h1]
    by_cases h2 : y = Str.ofString "ch"
    · rw [if_pos h2, if_pos h2]
    · rw [if_neg h2, if_neg h2, if_neg h2]
theorem mm_both2 {base : Str → Option Value} {chv : Option Value} {tok v x x' : Value} {I : Addr} :
    (fun y => if y = Str.ofString "token" then some v else if y = Str.ofString "ch" then some x else if y = Str.ofString "ch" then some x' else mm base chv tok I y) = mm base (some x) v I := by
  funext y
  rw [← congrFun (mm_both (base := base) (chv := chv) (tok := tok) (v := v) (x := x) (I := I)) y]
  by_cases h2 : y = Str.ofString "ch"
  · simp only [if_pos h2]
  · simp only [if_neg h2]
theorem nl_one {c : Nat} {c1 : List Nat} {ln x : Int} (h : ln + nlI (c :: c1) = x) : (if c = 10 then ln + 1 else ln) + nlI c1 = x := by
  simp only [nlI] at h; split <;> simp_all <;> lia
theorem fr_tok {g h : Heap} {L I : Addr} {base : Str → Option Value} {chv : Option Value} {tok x : Value} {tp : List Nat} {c : Nat} {u : Tok}
    (F : Fr g L h fun y => if y = Str.ofString "token" then some (.str (⟨tp.toArray⟩ ++ ⟨#[c]⟩) u) else if y = Str.ofString "ch" then some x else mm base chv tok I y) : Fr g L h (mm base (some x) (.str ⟨(tp ++ [c]).toArray⟩ u) I) := by
  rw [mm_both, snoc_str] at F; exact F
theorem fr_tok2 {g h : Heap} {L I : Addr} {base : Str → Option Value} {chv : Option Value} {tok x x' : Value} {tp : List Nat} {c : Nat} {u : Tok}
    (F : Fr g L h fun y => if y = Str.ofString "token" then some (.str (⟨tp.toArray⟩ ++ ⟨#[c]⟩) u) else if y = Str.ofString "ch" then some x else if y = Str.ofString "ch" then some x' else mm base chv tok I y) : Fr g L h (mm base (some x) (.str ⟨(tp ++ [c]).toArray⟩ u) I) := by
  rw [mm_both2, snoc_str] at F; exact F
theorem app_snoc {tp t1 : List Nat} {c : Nat} : tp ++ [c] ++ t1 = tp ++ c :: t1 := by simp
theorem bare_esc {c : Nat} {r t r' : List Nat} {C : Prop} (hc : c = 92) (h : Bare (c :: r) t r') (k : ∀ d r1 t1, r = d :: r1 → t = d :: t1 → Bare r1 t1 r' → C) : C := by
  cases h with
  | stop h1 => subst hc; exact absurd h1 (by decide)
  | esc h2 => exact k _ _ _ rfl rfl h2
  | one _ h1 _ => exact absurd hc h1
theorem bare_one {c : Nat} {r t r' : List Nat} {C : Prop} (hw : isWs c = false) (h2 : c ≠ 92) (h : Bare (c :: r) t r') (k : ∀ t1, t = c :: t1 → Bare r t1 r' → C) : C := by
  cases h with
  | stop h3 => rw [hw] at h3; cases h3
  | esc h3 => exact absurd rfl h2
  | one _ _ h3 => exact k _ rfl h3
theorem quo_esc {c : Nat} {r t r' : List Nat} {C : Prop} (hc : c = 92) (h : Quo (c :: r) t r') (k : ∀ d r1 t1, r = d :: r1 → t = d :: t1 → Quo r1 t1 r' → C) : C := by
  cases h with
  | stop => exact absurd hc (by decide)
  | esc h2 => exact k _ _ _ rfl rfl h2
  | one _ h1 _ => exact absurd hc h1
theorem quo_one {c : Nat} {r t r' : List Nat} {C : Prop} (h1 : c ≠ 34) (h2 : c ≠ 92) (h : Quo (c :: r) t r') (k : ∀ t1, t = c :: t1 → Quo r t1 r' → C) : C := by
  cases h with
  | stop => exact absurd rfl h1
  | esc h3 => exact absurd rfl h2
  | one _ _ h3 => exact k _ rfl h3
section
variable (k : LexK) (ok : LexOk k) {I q1 : Addr} {t : Tok} {rest : List (Addr × Obj)}
  {w : World} {mean : ExcName → Option Value} {mg mb : Str → Option Value}
  {dp un : Nat} {gd : Option (List Code)} {cn : Str} {cs : Scope} {a : Addr} {ccd : Value} {cl : List (Str × Addr)} {outer : List Env}
  {A₀ : Around} {base h₀ : Heap} {L : Addr} {m : Str → Option Value} {s : Shared}
include ok in
/-- _read_char by hand, in the middle of a loop on the lexer's own iterator -/
theorem read_chs {Q : Value → Shared → Prop} {E : Value → Shared → Prop} (ln : Int) (lt : Tok) (d : Nat) (c0 : List Nat) (ys : List Value) (n pn : Nat) (hy : Chs ys (d :: c0)) (hl : c0.length ≤ 1000000)
    (B : Below A₀ base outer h₀) (F : Fr h₀ L s.heap m) (X : (K w.params).In h₀)
    (N : News h₀ L s.heap ((I, citObj q1 t) :: (q1, methodObj (.ref 113) (.ref k.x)) :: (k.objs w.params ln lt ys n [] pn ++ rest)))
    (off : OffL k rest) (ha : OffL k [(I, citObj q1 t), (q1, methodObj (.ref 113) (.ref k.x))])
    (T : Top q loose mean mg mb h₀) (hk : cs.kind = .function) (hd : dp + 20 + 5 < recursionLimit) (hu : un + 100 + 10 * 5 < cLine)
    (h : ∀ h' tk' lt' n' u r, Chs r c0 → Fr h₀ L h' m → News h₀ L h' ((I, citObj q1 t) :: (q1, methodObj (.ref 113) (.ref k.x)) :: (k.objs w.params (if d = 10 then ln + 1 else ln) lt' r n' [] pn ++ rest)) →
      Q (.str ⟨#[d]⟩ u) { s with heap := h', toks := tk' }) :
    wpAny (model PySem.Challenge.rw_rw0107_01.row.prog w) (ktrTop dp un gd cn cs L a ccd cl outer) (call (.ref 113) [.ref k.x]) Q E s := by
  obtain ⟨u, r, rfl, hr⟩ := chs_cons hy
  refine wpAny_call ?_
  refine c_read_cons k ok ln lt d u r n [] pn (by rw [chs_length hr]; exact hl) w mean mg mb _ dp un gd cn cs a ccd cl outer A₀ base h₀ L m s _ _ B F X (news_turn N) ⟨_, rfl, off_two off ha⟩ T hk hd hu ?_
  rintro v h' tk' news' ⟨rest', lt', n', e, rfl, rfl⟩ F' N'
  have e' := List.append_cancel_left e
  subst e'
  exact h _ _ _ _ _ _ hr F' (news_back N')
/-- a turn of an inner loop, from its sign on; R9: what is to do behind the turn -/
noncomputable def Turn (P : List Nat → List Nat → List Nat → Prop) (k : LexK) (I q1 : Addr) (t : Tok) (rest : List (Addr × Obj)) (w : World) (h₀ : Heap) (L : Addr) (pn : Nat) (rfin : List Nat) (A : Around) (target : Expr) (body : List Stmt) (env : Env) (s : Shared) : Prop :=
  ∀ (h : Heap) (tk c : Nat) (c1 tp t2 : List Nat) (ln : Int) (lt : Tok) (r : List Value) (n : Nat) (chv : Option Value) (u ut : Tok) (R9 : Flow → Shared → Prop),
    P (c :: c1) t2 rfin → Chs r c1 → tp.length + c1.length + 1 ≤ 1000001 → Fr h₀ L h (mm (selfM k) chv (.str ⟨tp.toArray⟩ ut) I) → News h₀ L h ((I, citObj q1 t) :: (q1, methodObj (.ref 113) (.ref k.x)) :: (k.objs w.params ln lt r n [] pn ++ rest)) →
    (∀ h tk chv c0 r lt n ln' ut tp' t2', c0.length < c1.length + 1 → Fr h₀ L h (mm (selfM k) chv (.str ⟨tp'.toArray⟩ ut) I) → News h₀ L h ((I, citObj q1 t) :: (q1, methodObj (.ref 113) (.ref k.x)) :: (k.objs w.params ln' lt r n [] pn ++ rest)) → Chs r c0 → P c0 t2' rfin → tp' ++ t2' = tp ++ t2 →
      tp'.length + c0.length ≤ 1000001 → ln' + nlI c0 = ln + nlI c1 → R9 .next { s with heap := h, toks := tk }) →
    (∀ h tk m, t2 = [] → rfin = c1 → Fr h₀ L h m → News h₀ L h (k.objs w.params ln lt r n [] pn ++ rest) → R9 (.ret (.str ⟨tp.toArray⟩ ut)) { s with heap := h, toks := tk }) →
    wpAny (model PySem.Challenge.rw_rw0107_01.row.prog w) A (assign target env (.str ⟨#[c]⟩ u)) (fun _ s₂ => wpAny (model PySem.Challenge.rw_rw0107_01.row.prog w) A (execs body env) R9 (fun _ _ => False) s₂) (fun _ _ => False) { s with heap := h, toks := tk }
/-- what holds between the turns -/
inductive TInv (P : List Nat → List Nat → List Nat → Prop) (k : LexK) (I q1 : Addr) (t : Tok) (rest : List (Addr × Obj)) (w : World) (pn : Nat) (g1 : Heap) (L1 : Addr) (s : Shared) (full rfin : List Nat) (lnT : Int) : Nat → Shared → Prop
  | mk (h : Heap) (tk : Nat) (chv : Option Value) (c0 : List Nat) (yr : List Value) (lt : Tok) (n : Nat) (ln : Int) (ut : Tok) (tp t2 : List Nat)
    (F : Fr g1 L1 h (mm (selfM k) chv (.str ⟨tp.toArray⟩ ut) I)) (N : News g1 L1 h ((I, citObj q1 t) :: (q1, methodObj (.ref 113) (.ref k.x)) :: (k.objs w.params ln lt yr n [] pn ++ rest)))
    (hy : Chs yr c0) (hb : P c0 t2 rfin) (ht : tp ++ t2 = full) (hl : tp.length + c0.length ≤ 1000001) (hn : ln + nlI c0 = lnT) : TInv P k I q1 t rest w pn g1 L1 s full rfin lnT c0.length { s with heap := h, toks := tk }
include ok in
theorem inner_turns {P : List Nat → List Nat → List Nat → Prop} (hP : ∀ t r, ¬ P [] t r) {target : Expr} {body : List Stmt} {env : Env} {R : Result → Shared → Prop} {A : Around} (hA : A = ktrTop dp un gd cn cs L a ccd cl outer)
    (ln : Int) (lt ut : Tok) (chv : Option Value) (yr : List Value) (n pn : Nat) (c0 tp t2 rfin : List Nat)
    (B : Below A₀ base outer h₀) (X : (K w.params).In h₀) (T : Top q loose mean mg mb h₀)
    (F : Fr h₀ L s.heap (mm (selfM k) chv (.str ⟨tp.toArray⟩ ut) I)) (N : News h₀ L s.heap ((I, citObj q1 t) :: (q1, methodObj (.ref 113) (.ref k.x)) :: (k.objs w.params ln lt yr n [] pn ++ rest)))
    (off : OffL k rest) (ha : OffL k [(I, citObj q1 t), (q1, methodObj (.ref 113) (.ref k.x))]) (hk : cs.kind = .function)
    (hd : dp + 20 + 5 < recursionLimit) (hu : un + 1 + 100 + 10 * 5 < cLine) (hys : Chs yr c0) (hb : P c0 t2 rfin) (hsz : tp.length + c0.length ≤ 1000001)
    (hret : ∀ h' tk' m' ln' lt' yr' n' u, Fr h₀ L h' m' → News h₀ L h' (k.objs w.params ln' lt' yr' n' [] pn ++ rest) → Chs yr' rfin → ln' + nlI rfin = ln + nlI c0 →
      R (.ok (.ret (.str ⟨(tp ++ t2).toArray⟩ u))) { s with heap := h', toks := tk' })
    (turn : Turn P k I q1 t rest w h₀ L pn rfin A target body env s) (hlet : ∀ v, letOwnedTupleGo target (.ref I) v = pure () := by intro _; rfl) :
    codeAny (model PySem.Challenge.rw_rw0107_01.row.prog w) A (.forLoop target (.ref I) body [] env) R s := by
  refine codeAny_forLoop (TInv P k I q1 t rest w pn h₀ L s (tp ++ t2) rfin (ln + nlI c0)) ?_ c0.length (.mk _ _ _ c0 yr lt n ln _ tp t2 F N hys hb rfl hsz rfl) hlet
  rintro _ _ ⟨h, tk, chv, c0', yr, lt', n', ln', ut, tp', t2', F6, N6, hyr, hb, htp, hl0, hnl⟩
  cases c0' with
  | nil => exact absurd hb (hP _ _)
  | cons c c1 =>
    obtain ⟨u, r, rfl, hr⟩ := chs_cons hyr
    rw [hA]
    refine next_cons k ok ln' lt' c u r n' [] pn (by rw [chs_length hr]; simp only [List.length_cons] at hl0; lia) B F6 X N6 off ha T hk hd hu ?_
    intro h5 tk5 lt5 n5 F5 N5
    rw [← hA]
    refine wpAny_mono (turn h5 tk5 c c1 tp' t2' _ lt5 r n5 chv u ut _ hb hr (by simp only [List.length_cons] at hl0; lia) F5 N5 ?_ ?_) (fun _ _ x => wpAny_mono x (fun _ _ y => y) fun _ _ y => y.elim) fun _ _ y => y.elim
    · intro h tk chv c0 r lt n ln2 ut tp2 t22 hlt F N hr2 hb2 e hl2 hn2
      exact ⟨_, hlt, .mk _ _ _ c0 r lt n ln2 _ tp2 t22 F N hr2 hb2 (e.trans htp) hl2 (by rw [hn2]; exact nl_one hnl)⟩
    · intro h tk m e1 e2 F N
      subst e1 e2
      rw [List.append_nil] at htp
      rw [← htp] at hret
      exact hret _ _ _ _ _ _ _ _ F N hr (nl_one hnl)
end
section
variable (k : LexK) (ok : LexOk k) {I q1 : Addr} {t : Tok} {rest : List (Addr × Obj)}
  {w : World} {mean : ExcName → Option Value} {mg mb : Str → Option Value}
  {dp un : Nat} {gd : Option (List Code)} {cn : Str} {cs : Scope} {a : Addr} {ccd : Value} {cl : List (Str × Addr)} {outer : List Env}
  {A₀ : Around} {base g1 : Heap} {L L1 : Addr} {s : Shared} {Q : Flow → Shared → Prop} {E : Value → Shared → Prop}
include ok in
set_option maxHeartbeats 0 in
theorem bare_for (ln : Int) (lt ut : Tok) (chv : Option Value) (yr : List Value) (n pn : Nat) (c0 tp t2 rfin : List Nat)
    (B1 : Below (ktrTop dp un gd cn cs L a ccd cl outer) base (envX cn cs L a ccd cl :: outer) g1) (X1 : (K w.params).In g1) (T1 : Top q loose mean mg mb g1)
    (F1 : Fr g1 L1 s.heap (mm (selfM k) chv (.str ⟨tp.toArray⟩ ut) I))
    (N1 : News g1 L1 s.heap ((I, citObj q1 t) :: (q1, methodObj (.ref 113) (.ref k.x)) :: (k.objs w.params ln lt yr n [] pn ++ rest)))
    (hoff : OffL k rest) (ha : OffL k [(I, citObj q1 t), (q1, methodObj (.ref 113) (.ref k.x))])
    (hd : dp + 1 + 20 + 5 < recursionLimit) (hu : un + 3 + 1 + 100 + 10 * 5 < cLine)
    (hys : Chs yr c0) (hb : Bare c0 t2 rfin) (hsz : tp.length + c0.length ≤ 1000001)
    (hret : ∀ h' tk' m' ln' lt' yr' n' u, Fr g1 L1 h' m' → News g1 L1 h' (k.objs w.params ln' lt' yr' n' [] pn ++ rest) → Chs yr' rfin → ln' + nlI rfin = ln + nlI c0 →
      Q (.ret (.str ⟨(tp ++ t2).toArray⟩ u)) { s with heap := h', toks := tk' }) :
    wpAny (model PySem.Challenge.rw_rw0107_01.row.prog w) ((ktrTop dp un gd cn cs L a ccd cl outer).deeper (tokEnv L1)) (exec bareFor (tokEnv L1)) Q E s := by
  have ok0 := ok
  obtain ⟨⟨vs9, t9, hco, hcv⟩, hcell, o1, o2, o3, o4, o5, o6, o7, o8⟩ := ok
  dsimp only [bareFor, ifE, tokIf, forB, tokFor, tokBody, tokEnv, tokScope]
  revert X1; k_fill; intro X1
  (try walk_at "mine:let")
  refine wpAny_For ?_
  k_steps
  k_here
  refine cit_iter (N1 _ (.head _)).1 ?_
  refine inner_turns k ok0 (P := Bare) (fun _ _ h => nomatch h) rfl ln lt ut chv yr n pn c0 tp t2 rfin B1 X1 T1 F1 N1 hoff ha rfl hd hu hys hb hsz hret ?_
  clear F1 N1 hys hb hsz hret
  intro h tk c c1 tp' t2' ln' lt' r n' chv' u ut' R9 hb hr hl1 F5 N5 hN hR
  simp only [LexK.objs, lexDict, List.cons_append, List.nil_append] at N5
  have hl9 : tp'.length + 1 ≤ 1000001 := by lia
  try dsimp only
  k_steps
  · rename (({ cps := #[c] } : Str) == _) = true => hc92
    refine bare_esc (of_decide_eq_true (is_bs.symm.trans hc92)) hb fun d r1 t1 e1 e2 hb1 => ?_
    rename News _ _ _ _ => N4
    rename Fr _ _ _ _ => F4
    refine read_chs k ok0 ln' lt' d r1 r n' pn (e1 ▸ hr) (by rw [e1] at hl1; simp only [List.length_cons] at hl1; lia) B1 F4 X1 N4 hoff ha T1 rfl (by lia) (by lia) ?_
    clear N4 F4
    intro h' tk' lt6 n6 u2 r2 hr2 F5 N2
    simp only [LexK.objs, lexDict, List.cons_append, List.nil_append] at N2
    try dsimp only
    k_steps
    rename News _ _ _ _ => N4
    rename Fr _ _ _ _ => F4
    try dsimp only
    refine hN _ _ _ r1 r2 lt6 n6 _ _ (tp' ++ [d]) t1 (by rw [e1]; simp only [List.length_cons]; lia) (fr_tok2 F4) N4 hr2 hb1 (by rw [app_snoc, e2]) ?_ (by rw [e1]; exact nl_one rfl)
    rw [e1] at hl1; simp only [List.length_append, List.length_cons, List.length_nil] at hl1 ⊢; lia
  · rename (_ : List _).isEmpty = true => hw0
    rename (({ cps := #[c] } : Str) == _) = false => hc92
    refine bare_one (ws_no hw0) (of_decide_eq_false (is_bs.symm.trans hc92)) hb fun t1 e2 hb1 => ?_
    rename News _ _ _ _ => N4
    rename Fr _ _ _ _ => F4
    try dsimp only
    exact hN _ _ _ c1 r lt' n' ln' _ (tp' ++ [c]) t1 (Nat.lt_succ_self _) (fr_tok F4) N4 hr hb1 (by rw [app_snoc, e2]) (by simp only [List.length_append, List.length_cons, List.length_nil]; lia) rfl
  · rename (_ : List _).isEmpty = false => hw0
    have hs := hb_stop (ws_yes hw0) hb
    rename News _ _ _ _ => N4
    rename Fr _ _ _ _ => F4
    try dsimp only
    exact hR _ _ _ hs.1 hs.2 F4 (fun p hp => N4 p (.tail _ (.tail _ hp)))
include ok in
set_option maxHeartbeats 0 in
theorem quo_for (ln : Int) (lt ut : Tok) (chv : Option Value) (yr : List Value) (n pn : Nat) (c0 tp t2 rfin : List Nat)
    (B1 : Below (ktrTop dp un gd cn cs L a ccd cl outer) base (envX cn cs L a ccd cl :: outer) g1) (X1 : (K w.params).In g1) (T1 : Top q loose mean mg mb g1)
    (F1 : Fr g1 L1 s.heap (mm (selfM k) chv (.str ⟨tp.toArray⟩ ut) I))
    (N1 : News g1 L1 s.heap ((I, citObj q1 t) :: (q1, methodObj (.ref 113) (.ref k.x)) :: (k.objs w.params ln lt yr n [] pn ++ rest)))
    (hoff : OffL k rest) (ha : OffL k [(I, citObj q1 t), (q1, methodObj (.ref 113) (.ref k.x))])
    (hd : dp + 1 + 20 + 5 < recursionLimit) (hu : un + 3 + 1 + 100 + 10 * 5 < cLine)
    (hys : Chs yr c0) (hb : Quo c0 t2 rfin) (hsz : tp.length + c0.length ≤ 1000001)
    (hret : ∀ h' tk' m' ln' lt' yr' n' u, Fr g1 L1 h' m' → News g1 L1 h' (k.objs w.params ln' lt' yr' n' [] pn ++ rest) → Chs yr' rfin → ln' + nlI rfin = ln + nlI c0 →
      Q (.ret (.str ⟨(tp ++ t2).toArray⟩ u)) { s with heap := h', toks := tk' }) :
    wpAny (model PySem.Challenge.rw_rw0107_01.row.prog w) ((ktrTop dp un gd cn cs L a ccd cl outer).deeper (tokEnv L1)) (exec quoFor (tokEnv L1)) Q E s := by
  have ok0 := ok
  obtain ⟨⟨vs9, t9, hco, hcv⟩, hcell, o1, o2, o3, o4, o5, o6, o7, o8⟩ := ok
  dsimp only [quoFor, ifT, tokIf, forB, tokFor, tokBody, tokEnv, tokScope]
  revert X1; k_fill; intro X1
  (try walk_at "mine:let")
  refine wpAny_For ?_
  k_steps
  k_here
  refine cit_iter (N1 _ (.head _)).1 ?_
  refine inner_turns k ok0 (P := Quo) (fun _ _ h => nomatch h) rfl ln lt ut chv yr n pn c0 tp t2 rfin B1 X1 T1 F1 N1 hoff ha rfl hd hu hys hb hsz hret ?_
  clear F1 N1 hys hb hsz hret
  intro h tk c c1 tp' t2' ln' lt' r n' chv' u ut' R9 hb hr hl1 F5 N5 hN hR
  simp only [LexK.objs, lexDict, List.cons_append, List.nil_append] at N5
  have hl9 : tp'.length + 1 ≤ 1000001 := by lia
  try dsimp only
  k_steps
  · rename (({ cps := #[c] } : Str) == _) = true => hc34
    have hs := hq_stop (of_decide_eq_true (is_qu.symm.trans hc34)) hb
    rename News _ _ _ _ => N4
    rename Fr _ _ _ _ => F4
    try dsimp only
    exact hR _ _ _ hs.1 hs.2 F4 (fun p hp => N4 p (.tail _ (.tail _ hp)))
  · rename (({ cps := #[c] } : Str) == _) = true => hc92
    refine quo_esc (of_decide_eq_true (is_bs.symm.trans hc92)) hb fun d r1 t1 e1 e2 hb1 => ?_
    rename News _ _ _ _ => N4
    rename Fr _ _ _ _ => F4
    refine read_chs k ok0 ln' lt' d r1 r n' pn (e1 ▸ hr) (by rw [e1] at hl1; simp only [List.length_cons] at hl1; lia) B1 F4 X1 N4 hoff ha T1 rfl (by lia) (by lia) ?_
    clear N4 F4
    intro h' tk' lt6 n6 u2 r2 hr2 F5 N2
    simp only [LexK.objs, lexDict, List.cons_append, List.nil_append] at N2
    try dsimp only
    k_steps
    rename News _ _ _ _ => N4
    rename Fr _ _ _ _ => F4
    try dsimp only
    refine hN _ _ _ r1 r2 lt6 n6 _ _ (tp' ++ [d]) t1 (by rw [e1]; simp only [List.length_cons]; lia) (fr_tok2 F4) N4 hr2 hb1 (by rw [app_snoc, e2]) ?_ (by rw [e1]; exact nl_one rfl)
    rw [e1] at hl1; simp only [List.length_append, List.length_cons, List.length_nil] at hl1 ⊢; lia
  · rename (({ cps := #[c] } : Str) == Str.ofString "\"") = false => hc34
    rename (({ cps := #[c] } : Str) == Str.ofString "\\") = false => hc92
    refine quo_one (of_decide_eq_false (is_qu.symm.trans hc34)) (of_decide_eq_false (is_bs.symm.trans hc92)) hb fun t1 e2 hb1 => ?_
    rename News _ _ _ _ => N4
    rename Fr _ _ _ _ => F4
    try dsimp only
    exact hN _ _ _ c1 r lt' n' ln' _ (tp' ++ [c]) t1 (Nat.lt_succ_self _) (fr_tok F4) N4 hr hb1 (by rw [app_snoc, e2]) (by simp only [List.length_append, List.length_cons, List.length_nil]; lia) rfl
end
end
section
theorem start_L9 : True := by w_top off; exact trivial
theorem empty_snoc {c : Nat} : Str.ofString "" ++ ⟨#[c]⟩ = ⟨[c].toArray⟩ := by rw [empty_is]; exact str_app [] [c]
theorem tok_nil {t r : List Nat} (h : TokR [] t r) : t = [] ∧ r = [] := by cases h; exact ⟨rfl, rfl⟩
theorem tok_esc {c : Nat} {r t r' : List Nat} {C : Prop} (hc : c = 92) (h : TokR (c :: r) t r') (k : ∀ d r1 t1, r = d :: r1 → t = d :: t1 → Bare r1 t1 r' → C) : C := by
  obtain ⟨d, r1, t1, e1, e2, hb⟩ := ht_esc hc h
  exact k d r1 t1 e1 e2 hb
theorem tok_one {c : Nat} {r t r' : List Nat} {C : Prop} (hw : isWs c = false) (h1 : c ≠ 34) (h2 : c ≠ 92) (h : TokR (c :: r) t r') (k : ∀ t1, t = c :: t1 → Bare r t1 r' → C) : C := by
  obtain ⟨t1, e, hb⟩ := ht_one hw h1 h2 h
  exact k t1 e hb
/-- what a call of get_token gives -/
inductive TokPost (k : LexK) (P : Params) (ln : Int) (lt : Tok) (ys : List Value) (n pn : Nat) (cs0 tot rfin : List Nat) (news news' : List (Addr × Obj)) (v : Value) : Prop
  | mk (rest : List (Addr × Obj)) (ln' : Int) (lt' : Tok) (ys' : List Value) (n' : Nat) (u : Tok) (e : news = k.objs P ln lt ys n [] pn ++ rest) (ev : v = .str ⟨tot.toArray⟩ u) (e' : news' = k.objs P ln' lt' ys' n' [] pn ++ rest)
    (hy : Chs ys' rfin) (hn : ln' + nlI rfin = ln + nlI cs0) : TokPost k P ln lt ys n pn cs0 tot rfin news news' v
section
variable (k : LexK) (ok : LexOk k) {I q1 : Addr} {t : Tok} {rest : List (Addr × Obj)}
  {w : World} {mean : ExcName → Option Value} {mg mb : Str → Option Value}
  {dp un : Nat} {gd : Option (List Code)} {cn : Str} {cs : Scope} {a : Addr} {ccd : Value} {cl : List (Str × Addr)} {outer : List Env}
  {A₀ : Around} {base h₀ : Heap} {L : Addr} {m : Str → Option Value} {s : Shared}
/-- a turn of the outer loop, from its sign on; R9: what is to do behind the turn -/
noncomputable def TurnT (k : LexK) (I q1 : Addr) (t : Tok) (rest : List (Addr × Obj)) (w : World) (h₀ : Heap) (L : Addr) (pn : Nat) (tot rfin : List Nat) (A : Around) (target : Expr) (body : List Stmt) (env : Env) (s : Shared) : Prop :=
  ∀ (h : Heap) (tk c : Nat) (c1 : List Nat) (ln : Int) (lt : Tok) (r : List Value) (n : Nat) (chv : Option Value) (u ut : Tok) (R9 : Flow → Shared → Prop),
    TokR (c :: c1) tot rfin → Chs r c1 → c1.length + 1 ≤ 1000000 → Fr h₀ L h (mm (selfM k) chv (.str (Str.ofString "") ut) I) → News h₀ L h ((I, citObj q1 t) :: (q1, methodObj (.ref 113) (.ref k.x)) :: (k.objs w.params ln lt r n [] pn ++ rest)) →
    (∀ h tk chv, TokR c1 tot rfin → Fr h₀ L h (mm (selfM k) chv (.str (Str.ofString "") ut) I) → News h₀ L h ((I, citObj q1 t) :: (q1, methodObj (.ref 113) (.ref k.x)) :: (k.objs w.params ln lt r n [] pn ++ rest)) → R9 .cont { s with heap := h, toks := tk }) →
    (∀ h tk m ln' lt' r' n' u, Fr h₀ L h m → News h₀ L h (k.objs w.params ln' lt' r' n' [] pn ++ rest) → Chs r' rfin → ln' + nlI rfin = ln + nlI c1 → R9 (.ret (.str ⟨tot.toArray⟩ u)) { s with heap := h, toks := tk }) →
    wpAny (model PySem.Challenge.rw_rw0107_01.row.prog w) A (assign target env (.str ⟨#[c]⟩ u)) (fun _ s₂ => wpAny (model PySem.Challenge.rw_rw0107_01.row.prog w) A (execs body env) R9 (fun _ _ => False) s₂) (fun _ _ => False) { s with heap := h, toks := tk }
/-- what holds between the turns of the outer loop -/
inductive TokInv (k : LexK) (I q1 : Addr) (t : Tok) (rest : List (Addr × Obj)) (w : World) (pn : Nat) (g1 : Heap) (L1 : Addr) (s : Shared) (tot rfin : List Nat) (lnT : Int) : Nat → Shared → Prop
  | mk (h : Heap) (tk : Nat) (chv : Option Value) (c0 : List Nat) (yr : List Value) (lt : Tok) (n : Nat) (ln : Int) (ut : Tok)
    (F : Fr g1 L1 h (mm (selfM k) chv (.str (Str.ofString "") ut) I)) (N : News g1 L1 h ((I, citObj q1 t) :: (q1, methodObj (.ref 113) (.ref k.x)) :: (k.objs w.params ln lt yr n [] pn ++ rest)))
    (hy : Chs yr c0) (hb : TokR c0 tot rfin) (hl : c0.length ≤ 1000000) (hn : ln + nlI c0 = lnT) : TokInv k I q1 t rest w pn g1 L1 s tot rfin lnT c0.length { s with heap := h, toks := tk }
include ok in
theorem tok_turns {target : Expr} {body : List Stmt} {env : Env} {R : Result → Shared → Prop} {A : Around} (hA : A = ktrTop dp un gd cn cs L a ccd cl outer)
    (ln : Int) (lt ut : Tok) (yr : List Value) (n pn : Nat) (c0 tot rfin : List Nat)
    (B : Below A₀ base outer h₀) (X : (K w.params).In h₀) (T : Top q loose mean mg mb h₀)
    (F : Fr h₀ L s.heap (mm (selfM k) none (.str (Str.ofString "") ut) I)) (N : News h₀ L s.heap ((I, citObj q1 t) :: (q1, methodObj (.ref 113) (.ref k.x)) :: (k.objs w.params ln lt yr n [] pn ++ rest)))
    (off : OffL k rest) (ha : OffL k [(I, citObj q1 t), (q1, methodObj (.ref 113) (.ref k.x))]) (hI : ∀ P ln lt ys n ps pn, ∀ p ∈ k.objs P ln lt ys n ps pn ++ rest, p.1 ≠ I) (hk : cs.kind = .function)
    (hd : dp + 20 + 5 < recursionLimit) (hu : un + 1 + 100 + 10 * 5 < cLine) (hys : Chs yr c0) (hb : TokR c0 tot rfin) (hsz : c0.length ≤ 1000000)
    (hret : ∀ h' tk' m' ln' lt' yr' n' u, Fr h₀ L h' m' → News h₀ L h' (k.objs w.params ln' lt' yr' n' [] pn ++ rest) → Chs yr' rfin → ln' + nlI rfin = ln + nlI c0 →
      R (.ok (.ret (.str ⟨tot.toArray⟩ u))) { s with heap := h', toks := tk' })
    (hend : ∀ h' tk' ln' lt' n' chv ut, tot = [] → rfin = [] → Fr h₀ L h' (mm (selfM k) chv (.str (Str.ofString "") ut) I) → News h₀ L h' (k.objs w.params ln' lt' [] n' [] pn ++ rest) → ln' + nlI rfin = ln + nlI c0 →
      wpAny (model PySem.Challenge.rw_rw0107_01.row.prog w) A (execs [] env) (fun f s₃ => R (.ok f) s₃) (fun _ _ => False) { s with heap := h', toks := tk' })
    (turn : TurnT k I q1 t rest w h₀ L pn tot rfin A target body env s) (hlet : ∀ v, letOwnedTupleGo target (.ref I) v = pure () := by intro _; rfl) :
    codeAny (model PySem.Challenge.rw_rw0107_01.row.prog w) A (.forLoop target (.ref I) body [] env) R s := by
  refine codeAny_forLoop (TokInv k I q1 t rest w pn h₀ L s tot rfin (ln + nlI c0)) ?_ c0.length (.mk _ _ _ c0 yr lt n ln _ F N hys hb hsz rfl) hlet
  rintro _ _ ⟨h, tk, chv, c0', yr, lt', n', ln', ut, F6, N6, hyr, hb, hl0, hnl⟩
  cases c0' with
  | nil =>
    have e := chs_nil hyr
    subst e
    obtain ⟨e1, e2⟩ := tok_nil hb
    rw [hA]
    refine next_nil k ok ln' lt' n' [] pn B F6 X N6 off ha (hI _ _ _ _ _ _ _) T hk hd hu ?_
    intro h5 tk5 F5 N5
    rw [← hA]
    exact wpAny_mono (hend h5 tk5 ln' lt' n' chv ut e1 e2 F5 N5 (by rw [e2]; exact hnl)) (fun _ _ y => y) fun _ _ y => y.elim
  | cons c c1 =>
    obtain ⟨u, r, rfl, hr⟩ := chs_cons hyr
    rw [hA]
    refine next_cons k ok ln' lt' c u r n' [] pn (by rw [chs_length hr]; simp only [List.length_cons] at hl0; lia) B F6 X N6 off ha T hk hd hu ?_
    intro h5 tk5 lt5 n5 F5 N5
    rw [← hA]
    refine wpAny_mono (turn h5 tk5 c c1 _ lt5 r n5 chv u ut _ hb hr (by simp only [List.length_cons] at hl0; lia) F5 N5 ?_ ?_) (fun _ _ x => wpAny_mono x (fun _ _ y => y) fun _ _ y => y.elim) fun _ _ y => y.elim
    · intro h tk chv hb2 F N
      exact ⟨_, Nat.lt_succ_self _, .mk _ _ _ c1 r lt5 n5 _ _ F N hr hb2 (by simp only [List.length_cons] at hl0; lia) (nl_one hnl)⟩
    · intro h tk m ln2 lt2 r2 n2 u2 F N hr2 hn2
      exact hret _ _ _ _ _ _ _ _ F N hr2 (by rw [hn2]; exact nl_one hnl)
end
set_option maxHeartbeats 0 in
theorem t_token (k : LexK) (ok : LexOk k) (ln : Int) (lt : Tok) (ys : List Value) (n : Nat) (pn : Nat) (cs0 tot rfin : List Nat) (hys : Chs ys cs0) (htok : TokR cs0 tot rfin) (hlen : cs0.length ≤ 1000000) :
    ClaimP 12 120 [.ref k.x] (fun P news => ∃ rest, news = k.objs P ln lt ys n [] pn ++ rest ∧ OffL k rest)
    (fun P news news' v => TokPost k P ln lt ys n pn cs0 tot rfin news news' v) := by
  dsimp only [ClaimP]; k_fill
  intro w mean mg mb news dp un gd cn cs a ccd cl outer A₀ base h₀ L m s Q E B F X N hpre T hk hd hu hret
  obtain ⟨rest, rfl, hoff1, hoff2, hoff3⟩ := hpre
  have ok0 := ok
  obtain ⟨⟨vs9, t9, hco, hcv⟩, hcell, o1, o2, o3, o4, o5, o6, o7, o8⟩ := ok
  simp only [LexK.objs, lexDict, List.cons_append, List.nil_append] at N
  refine wpAny_call ?_
  refine' code_def ?pk1 ?pk2 ?pk3 ?pk4 ?pk5 ?pkA ?pkF ?pkK ?pk6 ?pk7 ?pk8 ?pk9 ?pkB ?_ ?pc2 ?pc3 ?pc4 ?pc5; (case pkA => exact rfl); (case pkF => exact rfl); (case pkK => first | assumption | exact rfl); (case pk1 => k_asm); (case pk2 => k_asm); (case pk3 => k_asm); (case pk4 => k_asm); (case pk5 => k_asm); (case pk6 => k_is); (case pk7 => k_is); (case pk8 => ktr_room); (case pk9 => exact BindsTo.of_eq rfl); (case pc5 => decide); (case pkB => exact locs rfl); (case pc2 => exact rfl); (case pc3 => exact rfl); (case pc4 => exact rfl)
  intro g1 L1 h1 FG1 F1 N1 B1 X1 T1
  (try dsimp only)
  (try k_lift B1)
  (try k_fold)
  (try walk_at "mine:let")
  k_steps
  rename News _ _ _ _ => NN
  rename_i qq hq Fq lq
  have hlq := lq
  k_here
  refine' iter2 ?itF NN ?itm ?_
  case itF => k_asm
  case itm => k_mem
  intro I9 h9 F9 N9 l9
  k_lt l9
  k_steps
  refine wpAny_For ?_
  k_steps
  k_here
  rename News _ _ _ _ => N8
  rename Fr _ _ _ _ => F8
  refine cit_iter (N8 _ (by k_mem)).1 ?_
  rw [mm_init (by rfl)] at F8
  have F7 : Fr g1 L1 _ (mm (fun y => List.lookup y [(Str.ofString "self", .ref k.x)]) none (.str (Str.ofString "") _) I9) := F8
  rw [base_self] at F7
  have ha : ∀ t, OffL k [(I9, citObj qq t), (qq, methodObj (.ref 113) (.ref k.x))] := by
    intro t
    obtain ⟨q1, q2, q3, q4, q5, q6, q7, q8, q9, q10⟩ := hlq
    obtain ⟨i0, i1, i2, i3, i4, i5, i6, i7, i8, i9, i10⟩ := l9
    exact ⟨List.forall_mem_cons.mpr ⟨Nat.ne_of_gt i1, List.forall_mem_cons.mpr ⟨Nat.ne_of_gt q1, fun _ x => nomatch x⟩⟩, List.forall_mem_cons.mpr ⟨Nat.ne_of_gt i3, List.forall_mem_cons.mpr ⟨Nat.ne_of_gt q3, fun _ x => nomatch x⟩⟩,
      List.forall_mem_cons.mpr ⟨Nat.ne_of_gt i8, List.forall_mem_cons.mpr ⟨Nat.ne_of_gt q8, fun _ x => nomatch x⟩⟩⟩
  have hI : ∀ P ln lt ys n ps pn, ∀ p ∈ k.objs P ln lt ys n ps pn ++ rest, p.1 ≠ I9 := by
    intro P ln lt ys n ps pn
    obtain ⟨i0, i1, i2, i3, i4, i5, i6, i7, i8, i9, i10⟩ := l9
    have c : ∀ {a : Addr × Obj} {l : List (Addr × Obj)}, a.1 < I9 → (∀ p ∈ l, p.1 ≠ I9) → ∀ p ∈ a :: l, p.1 ≠ I9 := fun h k => List.forall_mem_cons.mpr ⟨Nat.ne_of_lt h, k⟩
    exact c i1 (c i2 (c i3 (c i4 (c i5 (c i6 (c i7 (c i8 (c i9 (all_ne_lt i10 (Nat.le_refl _))))))))))
  have hoff : OffL k rest := ⟨hoff1, hoff2, hoff3⟩
  refine tok_turns k ok0 rfl ln lt _ ys n pn cs0 tot rfin B1 X1 T1 F7 N8 hoff (ha _) hI rfl (by show dp + 1 + 20 + 5 < _; lia) (by show un + 3 + 1 + 100 + 10 * 5 < _; lia) hys htok hlen ?_ ?_ ?_
  · intro h9 tk9 m9 ln9 lt9 yr9 n9 u9 F9 N9 hr9 hn9
    dsimp only
    k_steps
    exact hret _ _ _ _ ⟨rest, ln9, lt9, yr9, n9, u9, rfl, rfl, rfl, hr9, hn9⟩ (by k_asm) (by assumption)
  · intro h9 tk9 ln9 lt9 n9 chv9 ut9 e1 e2 F9 N9 hn9
    dsimp only
    k_steps
    exact hret _ _ _ _ ⟨rest, ln9, lt9, [], n9, _, rfl, by rw [e1]; rfl, rfl, by rw [e2]; trivial, hn9⟩ (by k_asm) (by assumption)
  · clear F7 N8 hret hys htok hlen
    intro h tk c c1 ln' lt' r n' chv' u ut' R9 ht hr hl0 F5 N5 hN hR
    simp only [LexK.objs, lexDict, List.cons_append, List.nil_append] at N5
    try dsimp only
    k_steps
    · rename (_ == _) = true => hq34
      have hq := ht_quo (of_decide_eq_true (is_qu.symm.trans hq34)) ht
      rename News _ _ _ _ => N4
      rename Fr _ _ _ _ => F4
      rw [mm_ch, empty_is] at F4
      refine quo_for k ok0 ln' lt' _ _ r n' pn c1 [] tot rfin B1 X1 T1 F4 N4 hoff (ha _) (by lia) (by lia) hr hq (by simp only [List.length_nil]; lia) ?_
      intro h9 tk9 m9 ln9 lt9 yr9 n9 u9 F9 N9 hr9 hn9
      try dsimp only
      exact hR _ _ _ _ _ _ _ _ F9 N9 hr9 hn9
    · rename (({ cps := #[c] } : Str) == _) = true => hc92
      refine tok_esc (of_decide_eq_true (is_bs.symm.trans hc92)) ht fun d r1 t1 e1 e2 hb1 => ?_
      rename News _ _ _ _ => N4
      rename Fr _ _ _ _ => F4
      have hl1 : r1.length + 2 ≤ 1000000 := by rw [e1] at hl0; simp only [List.length_cons] at hl0; lia
      refine read_chs k ok0 ln' lt' d r1 r n' pn (e1 ▸ hr) (by lia) B1 F4 X1 N4 hoff (ha _) T1 rfl (by lia) (by lia) ?_
      clear N4 F4
      intro h' tk' lt6 n6 u2 r2 hr2 F5 N2
      simp only [LexK.objs, lexDict, List.cons_append, List.nil_append] at N2
      try dsimp only
      k_steps
      rename News _ _ _ _ => N4
      rename Fr _ _ _ _ => F4
      rw [mm_both2, empty_snoc] at F4
      refine bare_for k ok0 (if d = 10 then ln' + 1 else ln') lt6 _ _ r2 n6 pn r1 [d] t1 rfin B1 X1 T1 F4 N4 hoff (ha _) (by lia) (by lia) hr2 hb1 (by simp only [List.length_cons, List.length_nil]; lia) ?_
      intro h9 tk9 m9 ln9 lt9 yr9 n9 u9 F9 N9 hr9 hn9
      try dsimp only
      rw [e2] at hR
      exact hR _ _ _ _ _ _ _ _ F9 N9 hr9 (by rw [hn9, e1]; exact nl_one rfl)
    · rename (_ : List _).isEmpty = true => hw0
      rename (({ cps := #[c] } : Str) == Str.ofString "\"") = false => hc34
      rename (({ cps := #[c] } : Str) == Str.ofString "\\") = false => hc92
      refine tok_one (ws_no hw0) (of_decide_eq_false (is_qu.symm.trans hc34)) (of_decide_eq_false (is_bs.symm.trans hc92)) ht fun t1 e2 hb1 => ?_
      rename News _ _ _ _ => N4
      rename Fr _ _ _ _ => F4
      rw [mm_both, empty_snoc] at F4
      refine bare_for k ok0 ln' lt' _ _ r n' pn c1 [c] t1 rfin B1 X1 T1 F4 N4 hoff (ha _) (by lia) (by lia) hr hb1 (by simp only [List.length_cons, List.length_nil]; lia) ?_
      intro h9 tk9 m9 ln9 lt9 yr9 n9 u9 F9 N9 hr9 hn9
      try dsimp only
      rw [e2] at hR
      exact hR _ _ _ _ _ _ _ _ F9 N9 hr9 hn9
    · rename (_ : List _).isEmpty = false => hw0
      rename News _ _ _ _ => N4
      rename Fr _ _ _ _ => F4
      try dsimp only
      rw [mm_ch] at F4
      exact hN _ _ _ (ht_skip (ws_yes hw0) ht) F4 N4
end
section
open PySem PySem.W PySem.Spec PySem.Calls PyProof.Rows PyProof.Rows.LCg
section
variable {prog : Program} {w : World} {A : Around} {E : Value → Shared → Prop} {s : Shared} {h₀ : Heap} {L : Addr} {m : Str → Option Value} {env : Env}
/-- the turns over a list of pairs -/
theorem pair_turns {elts : List PySem.Expr} {kk : Nat} {pos : Pos} (hh : A.handled = none) (I ax : Addr) (hne : ax ≠ I) (ts : List (Addr × Value × Value)) (hts : ∀ t ∈ ts, t.1 ≠ I) :
    KTurns prog w A (.Tuple elts kk pos) I (I :: ax :: ts.map (·.1)) [I] ts.length
      (fun i v h => ∃ t, ts[i]? = some t ∧ v = .ref t.1 ∧ h.IsTuple t.1 #[t.2.1, t.2.2])
      (fun i v h => (∃ t, ts[i]? = some t ∧ v = .ref t.1 ∧ h.IsTuple t.1 #[t.2.1, t.2.2]) ∧ ((h.IsListIter I ax (i + 1) ∧ h.IsList ax (ts.map fun t => Value.ref t.1).toArray) ∧ ∀ t ∈ ts, h.IsTuple t.1 #[t.2.1, t.2.2]))
      (fun i h => (h.IsListIter I ax i ∧ h.IsList ax (ts.map fun t => Value.ref t.1).toArray) ∧ ∀ t ∈ ts, h.IsTuple t.1 #[t.2.1, t.2.2]) where
  sub := fun b hb => by rw [List.mem_singleton.mp hb]; exact List.mem_cons_self
  frame := fun i h h' st k => ⟨⟨st.1.1.at fun o e => k I (by simp) o e, st.1.2.at fun o e => k ax (by simp) o e⟩, fun t ht => (st.2 t ht).at fun o e => k t.1 (by simp only [List.mem_cons, List.mem_map]; exact .inr (.inr ⟨t, ht, rfl⟩)) o e⟩
  item := fun i s Q E hi st hQ => by
    refine (Walks.list (prog := prog) (w := w) hh I ax hne (ts.map fun t => Value.ref t.1).toArray).item i s Q E (by simpa using hi) st.1 fun v h' tk hP st' hk => ?_
    obtain ⟨t, ht, rfl⟩ : ∃ t, ts[i]? = some t ∧ v = .ref t.1 := by
      simp only [List.getElem?_toArray, List.getElem?_map, Option.map_eq_some_iff] at hP
      obtain ⟨t, ht, e⟩ := hP
      exact ⟨t, ht, e.symm⟩
    have up : ∀ t ∈ ts, h'.IsTuple t.1 #[t.2.1, t.2.2] := fun t ht => (st.2 t ht).at fun o e => hk t.1 o (by simpa using hts t ht) e
    exact hQ _ h' tk ⟨⟨t, ht, rfl, up t (List.mem_of_getElem? ht)⟩, st', up⟩ hk
  go := fun i v s Q E hm hQ => by
    obtain ⟨⟨t, ht, rfl, hT⟩, st⟩ := hm
    exact wpAny_letOwnedTupleGo_listiter st.1.1 (hQ s.heap ⟨t, ht, rfl, hT⟩ st fun _ _ _ e => e)
  done := fun s Q E st hQ => (Walks.list (prog := prog) (w := w) hh I ax hne (ts.map fun t => Value.ref t.1).toArray).done s Q E (by simpa using st.1) hQ
theorem binds_pairT {a b : Str} {pa pb tp : Pos} {kk : Nat} {scope : Scope} {cl : List (Str × Addr)} {C : Addr} {n : Nat} {ts : List (Addr × Value × Value)} (hh : A.handled = none) (hkind : scope.kind = .function) (ha : scope.names.lookup a = some .local) (hb : scope.names.lookup b = some .local) (hab : a ≠ b) :
    Binds prog w A (.Tuple [.Name a pa, .Name b pb] kk tp) (compEnvC scope cl C env) n (fun i v h => ∃ t, ts[i]? = some t ∧ v = .ref t.1 ∧ h.IsTuple t.1 #[t.2.1, t.2.2]) (fun i m₃ => ∃ t, ts[i]? = some t ∧ m₃ a = some t.2.1 ∧ m₃ b = some t.2.2) := by
  intro i v s m' Q E hi hP hn hQ
  obtain ⟨t, ht, rfl, hT⟩ := hP
  refine kcp_assign (env := compEnvC scope cl C env) hh hT (lookup_relabel_local ha) (lookup_relabel_local hb) (by simp [compEnvC, relabel, hkind]) hn fun h₄ tk₄ hn₄ hs₄ => ?_
  exact hQ h₄ tk₄ _ hn₄ ⟨t, ht, by simp [hab], by simp⟩ hs₄
/-- a comprehension over a list of pairs -/
theorem plan_pairs {ax : Addr} {ts : List (Addr × Value × Value)} {its : Array Value} {elt : PySem.Expr} {a b : Str} {pa pb tp : Pos} {kk : Nat} {ifs : List PySem.Expr} {scope : Scope} {cl : List (Str × Addr)} {Fin : Shared → List Value → List (Addr × Obj) → Prop} {news : List (Addr × Obj)} (J : Nat → List Value → Prop)
    (hh : A.handled = none) (F : Fr h₀ L s.heap m) (N : News h₀ L s.heap news) (hax : ∃ o, (ax, o) ∈ news) (hl : s.heap.IsList ax its) (hits : its = (ts.map fun t => Value.ref t.1).toArray) (hts : ∀ t ∈ ts, (t.1, tupO #[t.2.1, t.2.2]) ∈ news) (hsz : ts.length ≤ sizeLine) (hkind : scope.kind = .function)
    (ha : scope.names.lookup a = some .local) (hb : scope.names.lookup b = some .local) (hab : a ≠ b) (hJ : J 0 [])
    (turn : ∀ i p x y ys I oI C oC D m₂ h tk (E' : Value → Shared → Prop) s₂, s₂ = { s with heap := h, toks := tk } → ts[i]? = some (p, x, y) → J i ys → NsObj oC m₂ → m₂ a = some x → m₂ b = some y → Fr h₀ L h m → News h₀ L h ((I, oI) :: (C, oC) :: (D, lst ys) :: news) →
      CTests prog w A ifs elt (compEnvC scope cl C env) (CDone h₀ L m s₂ ((I, oI) :: (C, oC) :: (D, lst ys) :: news) fun y => J (i + 1) (ys ++ [y]))
        (CDone h₀ L m s₂ ((I, oI) :: (C, oC) :: (D, lst ys) :: news) (fun _ => J (i + 1) ys) .none) E' s₂)
    (fin : ∀ g ys, J ts.length ys → Fin { s with heap := g } ys news) : wpAny (model prog w) A (pyIter (.ref ax)) (CPlan prog w A h₀ L m env elt (.Tuple [.Name a pa, .Name b pb] kk tp) ifs scope cl Fin) E s := by
  subst hits
  have hlt : ax < s.heap.objs.size := by obtain ⟨_, e, _⟩ := hl; exact Heap.lt_size e
  refine wpAny_pyIter_list hl ?_
  have tsl : ∀ t ∈ ts, t.1 < s.heap.objs.size := fun t ht => Heap.lt_size (N _ (hts t ht)).1
  refine ⟨_, _, _, [s.heap.objs.size], ts.length, _, _, _, news, (fun _ => []), J, _, fun _ => rfl, rfl, pair_turns hh s.heap.objs.size ax (Nat.ne_of_lt hlt) ts (fun t ht => Nat.ne_of_lt (tsl t ht)), fun i s Q E st hQ => wpAny_pyIter_listiter st.1.1 hQ, hsz, fun C => binds_pairT hh hkind ha hb hab, ?_, ?_, ?_, ?_, ⟨⟨⟨_, Heap.get?_push_size _ rfl, rfl, rfl⟩, hl.push _⟩, fun t ht => ?_⟩, (F.keeps fun _ _ e => Heap.get?_push_of_some _ e), (N.grown fun _ _ e => Heap.get?_push_of_some _ e), hJ, ?_, fun ys hJ' => fin _ ys hJ'⟩
  · intro i h st b hb
    rw [List.mem_singleton.mp hb]; obtain ⟨o, e, _⟩ := st.1.1; exact ⟨o, e⟩
  · intro c hc
    simp only [List.mem_cons, List.mem_map] at hc
    rcases hc with rfl | rfl | ⟨t, ht, rfl⟩
    · exact .inl (List.mem_singleton.mpr rfl)
    · exact .inr (.inr hax)
    · exact .inr (.inr ⟨_, hts t ht⟩)
  · intro c hc; exact hc
  · intro c hc
    rw [List.mem_singleton.mp hc]
    exact ⟨Nat.ne_of_gt F.ns.lt, next_is_new F, fun p hp => Nat.ne_of_lt (Heap.lt_size (N p hp).1)⟩
  · exact ⟨_, Heap.get?_push_of_some _ (N _ (hts t ht)).1, rfl, 0, rfl⟩
  · intro i ys own C oC D m₂ h tk E' hi hJ' hown hC hbd _ F' N'
    obtain ⟨⟨p, x, y⟩, ht, hm1, hm2⟩ := hbd
    obtain ⟨oI, rfl⟩ : ∃ oI, own = [(s.heap.objs.size, oI)] := by
      clear turn F' N' fin
      rcases own with _ | ⟨⟨a1, o1⟩, _ | ⟨p, r⟩⟩ <;> simp only [List.map_cons, List.map_nil, List.cons.injEq, reduceCtorEq, and_false, and_true] at hown
      subst hown
      exact ⟨_, rfl⟩
    exact turn i p x y ys _ oI C oC D m₂ h tk E' _ rfl ht hJ' hC hm1 hm2 F' N'
end
end
local macro_rules | `(tactic| walk_at "call builtin:list.append") => `(tactic| (k_here; k_dflt (refine append_lst (by k_asm) (by k_asm) (by k_upd) (by assumption) ?_; k_whole); intro h' F' N'; (try dsimp only [List.nil_append, List.cons_append] at N')))
section
theorem start_Wd1 : True := by w_top off; exact trivial

noncomputable def wordsBody : List Stmt := match (fd 17 3 .none .none).body with | .stmts b => b | _ => []
noncomputable def whB : Stmt → List Stmt | .While _ b _ _ => b | _ => []
noncomputable def wBody : List Stmt := whB (wordsBody.getD 2 default)
noncomputable abbrev wScope : Scope := { kind := .function, names := [(Str.ofString "letters", .local), (Str.ofString "form", .local), (Str.ofString "single", .local), (Str.ofString "words", .local), (Str.ofString "part", .local), (Str.ofString "pieces", .local), (Str.ofString "chr", .globalImplicit), (Str.ofString "_law_letter", .globalImplicit), (Str.ofString "_law_unseen", .globalImplicit), (Str.ofString "_law_stray", .globalImplicit), (Str.ofString "len", .globalImplicit)], isGenerator := false, isCoroutine := false, more := [(Str.ofString "fast", Const.str (Str.ofString "letters")), (Str.ofString "fast", Const.str (Str.ofString "form")), (Str.ofString "fast", Const.str (Str.ofString "single")), (Str.ofString "fast", Const.str (Str.ofString "words")), (Str.ofString "fast", Const.str (Str.ofString "part")), (Str.ofString "fast", Const.str (Str.ofString "pieces")), (Str.ofString "fast", Const.str (Str.ofString "sign")), (Str.ofString "fast", Const.str (Str.ofString "meant"))] }
noncomputable abbrev wEnv (L1 : Addr) : Env := envOf (Str.ofString "_law_words") wScope L1 177 (.ref 176)
noncomputable def wmap (lv fv : Value) (S W : Addr) (pt pc : Option Value) : Str → Option Value :=
  fun y => if y = Str.ofString "letters" then some lv else if y = Str.ofString "form" then some fv else if y = Str.ofString "single" then some (.ref S) else if y = Str.ofString "words" then some (.ref W) else if y = Str.ofString "part" then pt else if y = Str.ofString "pieces" then pc else none
noncomputable abbrev sgPairs (t1 u1 t2 u2 t3 u3 t4 u4 : Tok) : List (Value × Value) := [(Value.str (Str.ofString "hpa") t1, Value.int 13169 u1), (Value.str (Str.ofString "pa") t2, Value.int 13184 u2), (Value.str (Str.ofString "ph") t3, Value.int 13271 u3), (Value.str (Str.ofString "hp") t4, Value.int 13259 u4)]
/-- a piece: where its pair lies, the sign, what it means -/
structure Pt where
  a : Addr
  c : Nat
  m : List Nat
  t : Tok
  u : Tok
noncomputable def Pt.val (q : Pt) : Addr × Value × Value := (q.a, .str ⟨#[q.c]⟩ q.t, .str ⟨q.m.toArray⟩ q.u)
noncomputable def Pt.obj (q : Pt) : Addr × Obj := (q.a, tupO #[.str ⟨#[q.c]⟩ q.t, .str ⟨q.m.toArray⟩ q.u])
noncomputable def refsOf (l : List Pt) : List Value := l.map fun q => .ref q.a
theorem pt_at {pts : List Pt} {i : Nat} {p : Addr} {x y : Value} (h : (pts.map Pt.val)[i]? = some (p, x, y)) : ∃ q, pts[i]? = some q ∧ p = q.a ∧ x = .str ⟨#[q.c]⟩ q.t ∧ y = .str ⟨q.m.toArray⟩ q.u := by
  rw [List.getElem?_map, Option.map_eq_some_iff] at h
  obtain ⟨q, hq, e⟩ := h
  simp only [Pt.val, Prod.mk.injEq] at e
  exact ⟨q, hq, e.1.symm, e.2.1.symm, e.2.2.symm⟩
theorem pts_mem {pts : List Pt} {news : List (Addr × Obj)} (h : ∀ q ∈ pts.map Pt.obj, q ∈ news) : ∀ t ∈ pts.map Pt.val, (t.1, tupO #[t.2.1, t.2.2]) ∈ news := by
  intro t ht
  obtain ⟨q, hq, rfl⟩ := List.mem_map.mp ht
  exact h _ (List.mem_map_of_mem hq)
theorem pts_turn {pts : List Pt} {g : Pt → Str} {ys : List Value} {i : Nat} {q : Pt} {y : Str} {t : Tok} (h : StrsAre ys ((pts.take i).map g)) (hc : pts[i]? = some q) (e : y = g q) : StrsAre (ys ++ [.str y t]) ((pts.take (i + 1)).map g) := by
  subst e
  rw [List.take_add_one, hc, List.map_append]
  exact strs_snoc h
theorem weighs {α : Type} {g : α → Str} {l : List α} {b n : Nat} (h : ∀ q ∈ l, (g q).length ≤ b) (hn : l.length ≤ n) (hb : n * b + n ≤ 1048576) : ((l.map g).map (·.length)).sum + (l.map g).length ≤ 1048576 := by
  have : ((l.map g).map (·.length)).sum ≤ l.length * b := by
    clear hn
    induction l with
    | nil => simp
    | cons c r ih =>
      simp only [List.map_cons, List.sum_cons, List.length_cons, Nat.add_mul, Nat.one_mul]
      have h1 := h c List.mem_cons_self
      have h2 := ih fun q hq => h q (List.mem_cons_of_mem _ hq)
      lia
  have h2 : l.length * b ≤ n * b := Nat.mul_le_mul_right _ hn
  rw [List.length_map]
  lia
theorem join_signs (pts : List Pt) : Txt.join (Str.ofString "") (pts.map fun q => (⟨#[q.c]⟩ : Str)) = ⟨(pts.map (·.c)).toArray⟩ := by
  have := join_flat (pts.map fun q => [q.c])
  rw [List.map_map] at this
  rw [show (fun q : Pt => (⟨#[q.c]⟩ : Str)) = (fun x => (⟨x.toArray⟩ : Str)) ∘ (fun q : Pt => [q.c]) from rfl, this]
  congr 2
  clear this
  induction pts with
  | nil => rfl
  | cons q r ih => simpa using ih
theorem join_meant (pts : List Pt) : Txt.join (Str.ofString "") (pts.map fun q => (⟨q.m.toArray⟩ : Str)) = ⟨(pts.flatMap (·.m)).toArray⟩ := by
  have := join_flat (pts.map fun q => q.m)
  rw [List.map_map] at this
  rw [show (fun q : Pt => (⟨q.m.toArray⟩ : Str)) = (fun x => (⟨x.toArray⟩ : Str)) ∘ (fun q : Pt => q.m) from rfl, this]
  rfl
open PySem.Builtin PySem.Builtin.Str in
theorem slice_upto_is {ns : List Nat} {M : Int} (h0 : 0 ≤ M) : Txt.slice ⟨ns.toArray⟩ none (some M) = ⟨(ns.take M.toNat).toArray⟩ := by
  by_cases h : M ≤ ns.length
  · obtain ⟨i, rfl⟩ : ∃ i : Nat, M = i := ⟨M.toNat, by lia⟩
    exact slice_to_is rfl (by lia)
  · have e : strSliceIndices none (some M) 1 (⟨ns.toArray⟩ : Str).length = strSliceIndices none (some (ns.length : Int)) 1 (⟨ns.toArray⟩ : Str).length := by
      rw [len_is]
      have h1 : ¬ M < 0 := by lia
      have h2 : ¬ ((ns.length : Int) < 0) := by lia
      have h3 : (1 : Int) > 0 := by decide
      simp only [strSliceIndices, h1, h2, h3, if_false, if_true, Int.min_self]
      rw [Int.min_eq_right (by lia)]
    have : Txt.slice ⟨ns.toArray⟩ none (some M) = Txt.slice ⟨ns.toArray⟩ none (some (ns.length : Int)) := by
      unfold Txt.slice; rw [e]
    rw [this, slice_to_is rfl (Nat.le_refl _), List.take_of_length_le (Nat.le_refl _), List.take_of_length_le (by lia)]
theorem append_lst {prog : Program} {w : World} {A : Around} {E : Value → Shared → Prop} {s : Shared} {h₀ : Heap} {L D : Addr} {m : Str → Option Value} {news news' : List (Addr × Obj)} {y : Value} {ps : List Value} {n : Nat} {Q : Value → Shared → Prop} (F : Fr h₀ L s.heap m) (N : News h₀ L s.heap news)
    (U : Upd D (listOf ps.toArray n) (listOf (ps ++ [y]).toArray (n + 1)) news news') (hsz : ps.length ≤ 1000) (h : ∀ h', Fr h₀ L h' m → News h₀ L h' news' → Q .none { s with heap := h' }) : wpAny (model prog w) A (call (.builtin "list.append") [.ref D, y]) Q E s := by
  refine append_K F N (its := ps.toArray) (by rw [List.push_toArray]; exact U) h (hsz := ?_)
  rw [List.size_toArray, sizeLine_eq]; lia
theorem lt_of_all {d : Addr} : ∀ {l : List (Addr × Obj)}, AllLt d l → ∀ p ∈ l, @LT.lt Nat _ p.1 d
  | [], _ => fun _ h => (nomatch h)
  | p :: l, h => fun q hq => by
    rcases List.mem_cons.mp hq with rfl | hq
    · exact h.1
    · exact lt_of_all h.2 q hq
theorem len_fit7 {l : List Nat} {r : List Nat} (h : l.length ≤ r.length) (hr : r.length ≤ 6) : ¬ (((⟨l.toArray⟩ : Str).length : Int) ≥ 2 ^ 63) := by
  rw [len_is, show (2 : Int) ^ 63 = 9223372036854775808 from rfl]; lia
theorem slice_drop_is {ns : List Nat} {i : Nat} (h : i ≤ ns.length) : Txt.slice ⟨ns.toArray⟩ (some (i : Int)) none = ⟨(ns.drop i).toArray⟩ := by
  have := slice_from_is h
  rwa [Int.zero_add] at this
theorem map_letters {lv fv v : Value} {S W : Addr} {pt pc : Option Value} : (fun y => if y = Str.ofString "letters" then some v else wmap lv fv S W pt pc y) = wmap v fv S W pt pc := by
  funext y; unfold wmap
  by_cases h : y = Str.ofString "letters"
  · rw [if_pos h, if_pos h]
  · rw [if_neg h, if_neg h, if_neg h]
local macro_rules | `(tactic| walk_at "call builtin:len") => `(tactic| (k_here; refine PyProof.Rows.len_str (len_fit7 (by assumption) (by assumption)) ?_; (rw [len_is])))
section
variable {w : World} {mean : ExcName → Option Value} {mg mb : Str → Option Value}
  {dp un : Nat} {gd : Option (List Code)} {cn : Str} {cs : Scope} {a : Addr} {ccd : Value} {cl : List (Str × Addr)} {outer : List Env}
  {A₀ : Around} {base g1 : Heap} {L L1 : Addr} {s : Shared} {Q : Flow → Shared → Prop} {E : Value → Shared → Prop}
set_option maxHeartbeats 0 in
theorem words_turn3 (ls : List Nat) (f : Int) (lt ft : Tok) (S W PL : Addr) (p : List Nat) (pts : List Pt) (pt : Tok) (od : Obj) (vs : List Value) (n n1 : Nat) (rest : List (Addr × Obj))
    (B1 : Below (ktrTop dp un gd cn cs L a ccd cl outer) base (envX cn cs L a ccd cl :: outer) g1) (X1 : (K w.params).In g1) (T1 : Top q loose mean mg mb g1)
    (F1 : Fr g1 L1 s.heap (wmap (.str ⟨ls.toArray⟩ lt) (.int f ft) S W (some (.str ⟨p.toArray⟩ pt)) (some (.ref PL))))
    (N1 : News g1 L1 s.heap ((PL, listOf (refsOf pts).toArray n1) :: (W, listOf vs.toArray n) :: (pts.map Pt.obj ++ (S, od) :: rest)))
    (hoff : ∀ q ∈ pts.map Pt.obj ++ (S, od) :: rest, q.1 ≠ W) (hWP : @Ne Nat PL W)
    (hd : dp + 1 + 20 + 5 < recursionLimit) (hu : un + 3 + 1 + 100 + 10 * 5 < cLine)
    (hls : ls.length ≤ 6) (hpt : pts.length = 3) (hpm : ∀ q ∈ pts, q.m.length ≤ 3) (hp : p.length ≤ ls.length) (hvs : vs.length ≤ 1000)
    (hret : ∀ (T3 : Addr) (h' : Heap) (tk' : Nat) (u1 u2 u3 lt' : Tok), Fr g1 L1 h' (wmap (.str ⟨(ls.drop p.length).toArray⟩ lt') (.int f ft) S W (some (.str ⟨p.toArray⟩ pt)) (some (.ref PL))) →
      News g1 L1 h' ((W, listOf (vs ++ [Value.ref T3]).toArray (n + 1)) :: (T3, tupO #[.str ⟨(pts.map (·.c)).toArray⟩ u1, .str ⟨(pts.flatMap (·.m)).toArray⟩ u2, .str ⟨p.toArray⟩ u3]) :: (S, od) :: rest) →
      @LT.lt Nat _ W T3 → (∀ q ∈ (S, od) :: rest, @LT.lt Nat _ q.1 T3) → Q .next { s with heap := h', toks := tk' }) :
    wpAny (model PySem.Challenge.rw_rw0107_01.row.prog w) ((ktrTop dp un gd cn cs L a ccd cl outer).deeper (wEnv L1)) (execs (wBody.drop 5) (wEnv L1)) Q E s := by
  dsimp only [wBody, whB, wordsBody, wEnv, wScope]
  revert X1; k_fill; intro X1
  (try walk_at "mine:let")
  with_unfolding_all k_steps
  refine plan_pairs (ts := pts.map Pt.val) (fun i ys => StrsAre ys ((pts.take i).map fun q => (⟨#[q.c]⟩ : Str))) (by rfl) (by k_asm) (by k_asm) ⟨_, .head _⟩ (News.isList N1 (.head _)) (by simp [refsOf, Pt.val]) (pts_mem (by intro q hq; repeat (first | exact List.mem_append_left _ hq | apply List.mem_cons_of_mem))) (by rw [List.length_map, hpt, sizeLine_eq]; decide) (by rfl) (by rfl) (by rfl) (by decide) .nil ?_ ?_
  · intro i p x y ys I oI C oC D m₂ h tk E' s₂ hs hc hJ hC hm1 hm2 F N
    subst hs
    obtain ⟨q, hq, rfl, rfl, rfl⟩ := pt_at hc
    show wpAny _ _ (eval _ _) _ _ _
    k_steps
    refine CDone.intro (by k_asm) (by walk_at "mine:drop") (pts_turn hJ hq rfl)
  intro g ys hJ
  rw [show (pts.map Pt.val).length = pts.length from List.length_map .., List.take_length] at hJ
  k_steps
  k_dflt (refine join_listW (by is_list) hJ (by decide +kernel) (weighs (b := 1) (n := 3) (fun _ _ => Nat.le_refl 1) (by lia) (by decide)) ?_)
  intro w1 kk1
  rw [join_signs]
  k_steps
  refine plan_pairs (ts := pts.map Pt.val) (fun i ys => StrsAre ys ((pts.take i).map fun q => (⟨q.m.toArray⟩ : Str))) (by rfl) (by k_asm) (by k_asm) ⟨_, by k_mem⟩ (News.isList (by k_asm) (by k_mem)) (by simp [refsOf, Pt.val]) (pts_mem (by intro q hq; repeat (first | exact List.mem_append_left _ hq | apply List.mem_cons_of_mem))) (by rw [List.length_map, hpt, sizeLine_eq]; decide) (by rfl) (by rfl) (by rfl) (by decide) .nil ?_ ?_
  · intro i p x y ys I oI C oC D m₂ h tk E' s₂ hs hc hJ hC hm1 hm2 F N
    subst hs
    obtain ⟨q, hq, rfl, rfl, rfl⟩ := pt_at hc
    show wpAny _ _ (eval _ _) _ _ _
    k_steps
    refine CDone.intro (by k_asm) (by walk_at "mine:drop") (pts_turn hJ hq rfl)
  intro g2 ys2 hJ2
  rw [show (pts.map Pt.val).length = pts.length from List.length_map .., List.take_length] at hJ2
  k_steps
  k_dflt (refine join_listW (by is_list) hJ2 (by decide +kernel) (weighs (b := 3) (n := 3) (fun q hq => by rw [len_is]; exact hpm q hq) (by lia) (by decide)) ?_)
  intro w2 kk2
  rw [join_meant]
  k_steps
  rename Fr _ _ _ _ => F9
  rename News _ _ _ _ => N9
  rename _ ∧ _ ∧ _ ∧ _ ∧ AllLt _ _ => l9
  rw [map_letters, slice_drop_is hp] at F9
  refine hret _ _ _ w1 w2 pt _ F9 (news_drop N9 ?_) l9.2.2.2.1 (fun q hq => lt_of_all l9.2.2.2.2 q (List.mem_append_right _ hq))
  walk_at "mine:sub"
/-- an item put in at a place -/
noncomputable def insA {α : Type} (k : Nat) (y : α) (l : List α) : List α := l.take k ++ y :: l.drop k
theorem insA_refs (k : Nat) (y : Pt) (l : List Pt) : insA k (Value.ref y.a) (refsOf l) = refsOf (insA k y l) := by
  unfold insA refsOf
  rw [List.map_append, List.map_cons, List.map_take, List.map_drop]
theorem ins_pts {prog : Program} {w : World} {A : Around} {E : Value → Shared → Prop} {s : Shared} {h₀ : Heap} {L D a : Addr} {m : Str → Option Value} {news news' : List (Addr × Obj)} {l : List Pt} {x : Int} {u : Tok} {n : Nat} {Q : Value → Shared → Prop} (c : Nat) (mm : List Nat) (t1 t2 : Tok) (F : Fr h₀ L s.heap m) (N : News h₀ L s.heap news)
    (h0 : 0 ≤ x) (h1 : x ≤ l.length) (hsz : l.length ≤ 8)
    (U : Upd D (listOf (refsOf l).toArray n) (listOf (refsOf (insA x.toNat ⟨a, c, mm, t1, t2⟩ l)).toArray (n + 1)) news news') (h : ∀ h', Fr h₀ L h' m → News h₀ L h' news' → Q .none { s with heap := h' }) :
    wpAny (model prog w) A (call (.builtin "list.insert") [.ref D, .int x u, .ref a]) Q E s := by
  refine kl_insert F N (l := refsOf (insA x.toNat ⟨a, c, mm, t1, t2⟩ l)) ?_ ?_ U ?_ h
  · unfold Builtin.List.listFitsIndex
    have : (2 : Int) ^ 63 = 9223372036854775808 := rfl
    simp only [Bool.and_eq_true, decide_eq_true_eq]
    lia
  · rw [← insA_refs]
    unfold kl_ins insA
    have : (refsOf l).length = l.length := by unfold refsOf; rw [List.length_map]
    simp only [this, if_neg (show ¬ x < 0 by lia), Nat.min_eq_left (show x.toNat ≤ l.length by lia)]
  · show (refsOf l).length ≤ sizeLine
    have : (refsOf l).length = l.length := by unfold refsOf; rw [List.length_map]
    rw [this, sizeLine_eq]; lia
theorem insA_length {α : Type} {k : Nat} {y : α} {l : List α} (h : k ≤ l.length) : (insA k y l).length = l.length + 1 := by
  unfold insA; rw [List.length_append, List.length_cons, ← Nat.add_assoc, ← List.length_append, List.take_append_drop]
theorem insA_mem {α : Type} {k : Nat} {y : α} {l : List α} {x : α} (h : x ∈ insA k y l) : x = y ∨ x ∈ l := by
  unfold insA at h
  rcases List.mem_append.mp h with h | h
  · exact .inr (List.mem_of_mem_take h)
  · rcases List.mem_cons.mp h with h | h
    · exact .inl h
    · exact .inr (List.mem_of_mem_drop h)
theorem insA_map {α β : Type} (g : α → β) (k : Nat) (y : α) (l : List α) : (insA k y l).map g = insA k (g y) (l.map g) := by
  unfold insA; rw [List.map_append, List.map_cons, List.map_take, List.map_drop]
theorem mod2_in (x : Int) : 0 ≤ x.fmod 2 ∧ x.fmod 2 ≤ 1 := by
  have h1 := Int.fmod_nonneg_of_pos x (b := 2) (by lia)
  have h2 := Int.fmod_lt_of_pos x (b := 2) (by lia)
  lia
theorem mod3_in (x : Int) : 0 ≤ x.fmod 3 ∧ x.fmod 3 ≤ 2 := by
  have h1 := Int.fmod_nonneg_of_pos x (b := 3) (by lia)
  have h2 := Int.fmod_lt_of_pos x (b := 3) (by lia)
  lia
set_option maxHeartbeats 0 in
theorem words_turn2 (ls : List Nat) (f : Int) (lt ft : Tok) (S W PL T : Addr) (p : List Nat) (z : Nat) (pt ta tb : Tok) (od : Obj) (vs : List Value) (n n1 : Nat) (rest : List (Addr × Obj))
    (B1 : Below (ktrTop dp un gd cn cs L a ccd cl outer) base (envX cn cs L a ccd cl :: outer) g1) (X1 : (K w.params).In g1) (T1 : Top q loose mean mg mb g1)
    (F1 : Fr g1 L1 s.heap (wmap (.str ⟨ls.toArray⟩ lt) (.int f ft) S W (some (.str ⟨p.toArray⟩ pt)) (some (.ref PL))))
    (N1 : News g1 L1 s.heap ((PL, listOf (refsOf [⟨T, z, p, ta, tb⟩]).toArray n1) :: (T, tupO #[.str ⟨#[z]⟩ ta, .str ⟨p.toArray⟩ tb]) :: (W, listOf vs.toArray n) :: (S, od) :: rest))
    (hoff : ∀ p ∈ rest, p.1 ≠ W) (hoffP : ∀ p ∈ rest, p.1 ≠ PL) (hSW : @Ne Nat S W) (o1 : @LT.lt Nat _ W T) (o2 : @LT.lt Nat _ S T) (o3 : @LT.lt Nat _ T PL)
    (hd : dp + 1 + 20 + 5 < recursionLimit) (hu : un + 3 + 1 + 100 + 10 * 5 < cLine)
    (hls : ls.length ≤ 6) (hp : p.length ≤ 3) (hpl : p.length ≤ ls.length) (hf : 0 ≤ f ∧ f ≤ 4096) (hvs : vs.length ≤ 1000)
    (hret : ∀ (T3 : Addr) (h' : Heap) (tk' : Nat) (PL' : Addr) (pts : List Pt) (u1 u2 u3 lt' : Tok), pts.map (fun q => (q.c, q.m)) = insA ((f.fdiv 32).fmod 3).toNat (strayF f, [strayF f]) (insA ((f.fdiv 16).fmod 2).toNat (unseenF f, []) [(z, p)]) → Fr g1 L1 h' (wmap (.str ⟨(ls.drop p.length).toArray⟩ lt') (.int f ft) S W (some (.str ⟨p.toArray⟩ pt)) (some (.ref PL'))) →
      News g1 L1 h' ((W, listOf (vs ++ [Value.ref T3]).toArray (n + 1)) :: (T3, tupO #[.str ⟨(pts.map (·.c)).toArray⟩ u1, .str ⟨(pts.flatMap (·.m)).toArray⟩ u2, .str ⟨p.toArray⟩ u3]) :: (S, od) :: rest) →
      @LT.lt Nat _ W T3 → (∀ q ∈ (S, od) :: rest, @LT.lt Nat _ q.1 T3) → Q .next { s with heap := h', toks := tk' }) :
    wpAny (model PySem.Challenge.rw_rw0107_01.row.prog w) ((ktrTop dp un gd cn cs L a ccd cl outer).deeper (wEnv L1)) (execs (wBody.drop 3) (wEnv L1)) Q E s := by
  have stp : StopLen 2 := ⟨trivial, rfl⟩
  dsimp only [wBody, whB, wordsBody, wEnv, wScope]
  revert X1; k_fill; intro X1
  obtain ⟨i0, i1⟩ := mod2_in (f.fdiv 16)
  obtain ⟨j0, j1⟩ := mod3_in (f.fdiv 32)
  (try walk_at "mine:let")
  with_unfolding_all k_steps
  rename_i u9 hh9 tk9 D9 hx9 F9 N9 l9
  rw [empty_is] at N9
  k_dflt (refine' ins_pts (unseenF f) [] u9 tk9 (l := [⟨T, z, p, ta, tb⟩]) ?phF ?phN ?ph0 ?ph1 ?phs ?phU ?_; (case phF => k_asm); (case phN => k_asm); (case phU => k_upd); (case ph0 => assumption); (case ph1 => assumption); (case phs => exact Nat.le_of_ble_eq_true rfl); k_whole)
  clear F9 N9
  intro h' F' N'
  k_steps
  rename_i u7 hb9 tkb9 u8 hh8 tk8 D8 hx8 F8 N8 l8
  have hl2 : (insA ((f.fdiv 16).fmod 2).toNat (⟨D9, unseenF f, [], u9, tk9⟩ : Pt) [⟨T, z, p, ta, tb⟩]).length = 2 := insA_length (by show _ ≤ 1; lia)
  k_dflt (refine' ins_pts (strayF f) [strayF f] u7 u8 (l := insA ((f.fdiv 16).fmod 2).toNat (⟨D9, unseenF f, [], u9, tk9⟩ : Pt) [⟨T, z, p, ta, tb⟩]) ?phF ?phN ?ph0 ?ph1 ?phs ?phU ?_; (case phF => k_asm); (case phN => k_asm); (case phU => k_upd); (case ph0 => assumption); (case ph1 => rw [hl2]; exact j1); (case phs => rw [hl2]; decide); k_whole)
  clear F8 N8
  intro h' F' N'
  k_steps
  unfold Hlt
  have hl3 : (insA ((f.fdiv 32).fmod 3).toNat (⟨D8, strayF f, [strayF f], u7, u8⟩ : Pt) (insA ((f.fdiv 16).fmod 2).toNat (⟨D9, unseenF f, [], u9, tk9⟩ : Pt) [⟨T, z, p, ta, tb⟩])).length = 3 := by rw [insA_length (by rw [hl2]; lia), hl2]
  have hm3 : ∀ q ∈ (insA ((f.fdiv 32).fmod 3).toNat (⟨D8, strayF f, [strayF f], u7, u8⟩ : Pt) (insA ((f.fdiv 16).fmod 2).toNat (⟨D9, unseenF f, [], u9, tk9⟩ : Pt) [⟨T, z, p, ta, tb⟩])), q = ⟨D8, strayF f, [strayF f], u7, u8⟩ ∨ q = ⟨D9, unseenF f, [], u9, tk9⟩ ∨ q = ⟨T, z, p, ta, tb⟩ := fun q hq => by
    rcases insA_mem hq with h | h
    · exact .inl h
    · rcases insA_mem h with h | h
      · exact .inr (.inl h)
      · exact .inr (.inr (List.mem_singleton.mp h))
  have hmap : (insA ((f.fdiv 32).fmod 3).toNat (⟨D8, strayF f, [strayF f], u7, u8⟩ : Pt) (insA ((f.fdiv 16).fmod 2).toNat (⟨D9, unseenF f, [], u9, tk9⟩ : Pt) [⟨T, z, p, ta, tb⟩])).map (fun q => (q.c, q.m)) = insA ((f.fdiv 32).fmod 3).toNat (strayF f, [strayF f]) (insA ((f.fdiv 16).fmod 2).toNat (unseenF f, []) [(z, p)]) := by rw [insA_map, insA_map]; rfl
  generalize (insA ((f.fdiv 32).fmod 3).toNat (⟨D8, strayF f, [strayF f], u7, u8⟩ : Pt) (insA ((f.fdiv 16).fmod 2).toNat (⟨D9, unseenF f, [], u9, tk9⟩ : Pt) [⟨T, z, p, ta, tb⟩])) = pts at N' hl3 hm3 hmap
  refine words_turn3 ls f lt ft S W PL p pts pt od vs n (n1 + 1 + 1) rest B1 X1 T1 F' (news_drop N' ?_) ?_ (Nat.ne_of_gt (Nat.lt_trans o1 o3)) hd hu hls hl3 ?_ hpl hvs ?_
  · refine sub_cons (by walk_at "mine:mem") (sub_cons (by walk_at "mine:mem") (sub_app (fun q hq => ?_) (by walk_at "mine:sub")))
    obtain ⟨y, hy, rfl⟩ := List.mem_map.mp hq
    rcases hm3 y hy with rfl | rfl | rfl
    · show ((_, _) : Addr × Obj) ∈ _; walk_at "mine:mem"
    · show ((_, _) : Addr × Obj) ∈ _; walk_at "mine:mem"
    · show ((_, _) : Addr × Obj) ∈ _; walk_at "mine:mem"
  · intro q hq
    simp only [List.mem_append, List.mem_map, List.mem_cons] at hq
    rcases hq with ⟨y, hy, rfl⟩ | rfl | h
    · rcases hm3 y hy with rfl | rfl | rfl
      · exact Nat.ne_of_gt l8.2.2.2.1
      · exact Nat.ne_of_gt l9.2.2.1
      · exact Nat.ne_of_gt o1
    · exact hSW
    · exact hoff q h
  · intro q hq
    rcases hm3 q hq with rfl | rfl | rfl
    · exact Nat.le_of_ble_eq_true rfl
    · exact Nat.le_of_ble_eq_true rfl
    · exact hp
  · intro T3 h2 tk2 u1 u2 u3 lt2 F2 N2 hW3 hS3
    exact hret T3 h2 tk2 PL pts u1 u2 u3 lt2 hmap F2 N2 hW3 hS3
end
end
local macro_rules | `(tactic| walk_at "mine:lt") => `(tactic| first | assumption | lia)
section
local macro_rules | `(tactic| walk_at "mine:pad") => `(tactic| skip)
theorem start_Wd2 : True := by w_top off; exact trivial

noncomputable def singleF (l : List Nat) : Option Nat := if l = [104, 112, 97] then some 13169 else if l = [112, 97] then some 13184 else if l = [112, 104] then some 13271 else if l = [104, 112] then some 13259 else none
theorem str_list {a b : List Nat} : (⟨a.toArray⟩ : Str) = ⟨b.toArray⟩ ↔ b = a := by
  constructor
  · intro h; injection h with h; simpa using h.symm
  · rintro rfl; rfl
theorem single_le {p : List Nat} {z : Nat} (h : singleF p = some z) : (z : Int) ≤ 1114111 := by
  unfold singleF at h
  split at h
  · injection h with h; omega
  · split at h
    · injection h with h; omega
    · split at h
      · injection h with h; omega
      · split at h
        · injection h with h; omega
        · cases h
theorem sg_look {p : List Nat} {t1 u1 t2 u2 t3 u3 t4 u4 : Tok} : Spec.lookup (PyData.str ⟨p.toArray⟩) (strData (sgPairs t1 u1 t2 u2 t3 u3 t4 u4)) = (singleF p).map fun z : Nat => PyData.int z := by
  have e1 : Str.ofString "hpa" = ⟨[104, 112, 97].toArray⟩ := by decide +kernel
  have e2 : Str.ofString "pa" = ⟨[112, 97].toArray⟩ := by decide +kernel
  have e3 : Str.ofString "ph" = ⟨[112, 104].toArray⟩ := by decide +kernel
  have e4 : Str.ofString "hp" = ⟨[104, 112].toArray⟩ := by decide +kernel
  simp only [sgPairs, e1, e2, e3, e4]
  simp only [strData, Spec.lookup, PyProof.V.same_str, str_list, decide_eq_true_eq, singleF]
  by_cases h1 : p = [104, 112, 97]
  · simp [h1, datumOf]
  · by_cases h2 : p = [112, 97]
    · simp [h2, datumOf]
    · by_cases h3 : p = [112, 104]
      · simp [h3, datumOf]
      · by_cases h4 : p = [104, 112]
        · simp [h4, datumOf]
        · simp [h1, h2, h3, h4, datumOf]
theorem item0 {c : Nat} {r : List Nat} : Txt.item ⟨(c :: r).toArray⟩ 0 = ⟨#[c]⟩ := by rw [W.item_meets (by rw [len_is, List.length_cons]; omega)]; rfl
theorem wmap_step {lv fv fv' : Value} {S W : Addr} {pt pc : Option Value} {p pc' : Value} : (fun y => if y = Str.ofString "pieces" then some pc' else if y = Str.ofString "part" then some p else if y = Str.ofString "form" then some fv' else wmap lv fv S W pt pc y) = wmap lv fv' S W (some p) (some pc') := by
  funext y; unfold wmap
  by_cases h1 : y = Str.ofString "letters"
  · subst h1; with_unfolding_all rfl
  by_cases h2 : y = Str.ofString "form"
  · subst h2; with_unfolding_all rfl
  by_cases h3 : y = Str.ofString "single"
  · subst h3; with_unfolding_all rfl
  by_cases h4 : y = Str.ofString "words"
  · subst h4; with_unfolding_all rfl
  by_cases h5 : y = Str.ofString "part"
  · subst h5; with_unfolding_all rfl
  by_cases h6 : y = Str.ofString "pieces"
  · subst h6; with_unfolding_all rfl
  simp only [if_neg h1, if_neg h2, if_neg h3, if_neg h4, if_neg h5, if_neg h6]
theorem wmap_step2 {lv fv fv' : Value} {S W : Addr} {pt pc : Option Value} {p p' pc' : Value} : (fun y => if y = Str.ofString "pieces" then some pc' else if y = Str.ofString "part" then some p else if y = Str.ofString "part" then some p' else if y = Str.ofString "form" then some fv' else wmap lv fv S W pt pc y) = wmap lv fv' S W (some p) (some pc') := by
  rw [← wmap_step (lv := lv) (fv := fv) (fv' := fv') (S := S) (W := W) (pt := pt) (pc := pc) (p := p) (pc' := pc')]
  funext y
  by_cases h : y = Str.ofString "part"
  · simp only [if_pos h]
  · simp only [if_neg h]
noncomputable def formN (f : Int) : Int := (5 * f + 1).fmod 4096
/-- the sign that a word begins from, and the letters that it takes -/
noncomputable def headF (ls : List Nat) (f : Int) : Nat × List Nat := match singleF (ls.take (f.fmod 3 + 1).toNat) with | some z => (z, ls.take (f.fmod 3 + 1).toNat) | none => (letterF (ls.headD 0) (f.fdiv 3), [ls.headD 0])
noncomputable def piecesF (z : Nat) (p : List Nat) (f : Int) : List (Nat × List Nat) := insA ((f.fdiv 32).fmod 3).toNat (strayF f, [strayF f]) (insA ((f.fdiv 16).fmod 2).toNat (unseenF f, []) [(z, p)])
/-- a word: the signs, what they mean, the letters -/
noncomputable def wordF (ls : List Nat) (f : Int) : List Nat × List Nat × List Nat := ((piecesF (headF ls f).1 (headF ls f).2 f).map (·.1), (piecesF (headF ls f).1 (headF ls f).2 f).flatMap (·.2), (headF ls f).2)
theorem pts_eq {pts : List Pt} {l : List (Nat × List Nat)} (h : pts.map (fun q => (q.c, q.m)) = l) : pts.map (·.c) = l.map (·.1) ∧ pts.flatMap (·.m) = l.flatMap (·.2) := by
  subst h
  refine ⟨by rw [List.map_map]; rfl, ?_⟩
  rw [List.flatMap_map]
section
variable {w : World} {mean : ExcName → Option Value} {mg mb : Str → Option Value}
  {dp un : Nat} {gd : Option (List Code)} {cn : Str} {cs : Scope} {a : Addr} {ccd : Value} {cl : List (Str × Addr)} {outer : List Env}
  {A₀ : Around} {base g1 : Heap} {L L1 : Addr} {s : Shared} {Q : Flow → Shared → Prop} {E : Value → Shared → Prop}
set_option maxHeartbeats 0 in
theorem words_turn (c : Nat) (r : List Nat) (f : Int) (lt ft : Tok) (S W : Addr) (pt pc : Option Value) (t1 u1 t2 u2 t3 u3 t4 u4 : Tok) (od : Obj) (vs : List Value) (n : Nat) (rest : List (Addr × Obj))
    (B1 : Below (ktrTop dp un gd cn cs L a ccd cl outer) base (envX cn cs L a ccd cl :: outer) g1) (X1 : (K w.params).In g1) (T1 : Top q loose mean mg mb g1)
    (F1 : Fr g1 L1 s.heap (wmap (.str ⟨(c :: r).toArray⟩ lt) (.int f ft) S W pt pc))
    (N1 : News g1 L1 s.heap ((W, listOf vs.toArray n) :: (S, od) :: rest))
    (hod : Obj.IsDictOf (PySem.strKind PySem.Challenge.rw_rw0107_01.row.prog w) od (strPairs (sgPairs t1 u1 t2 u2 t3 u3 t4 u4))) (hso : (S == sysModules) = false)
    (hoff : ∀ p ∈ rest, p.1 ≠ W) (hSW : @Ne Nat S W)
    (hd : dp + 1 + 20 + 5 < recursionLimit) (hu : un + 3 + 1 + 100 + 10 * 5 < cLine)
    (hls : (c :: r).length ≤ 6) (hc : 97 ≤ c ∧ c ≤ 122) (hf : 0 ≤ f ∧ f ≤ 1000000000000) (hvs : vs.length ≤ 1000)
    (hret : ∀ (T3 : Addr) (h' : Heap) (tk' : Nat) (PL' : Addr) (pt' u1 u2 u3 lt' ft' : Tok), Fr g1 L1 h' (wmap (.str ⟨((c :: r).drop (wordF (c :: r) (formN f)).2.2.length).toArray⟩ lt') (.int (formN f) ft') S W (some (.str ⟨(wordF (c :: r) (formN f)).2.2.toArray⟩ pt')) (some (.ref PL'))) →
      News g1 L1 h' ((W, listOf (vs ++ [Value.ref T3]).toArray (n + 1)) :: (T3, tupO #[.str ⟨(wordF (c :: r) (formN f)).1.toArray⟩ u1, .str ⟨(wordF (c :: r) (formN f)).2.1.toArray⟩ u2, .str ⟨(wordF (c :: r) (formN f)).2.2.toArray⟩ u3]) :: (S, od) :: rest) →
      @LT.lt Nat _ W T3 → (∀ q ∈ (S, od) :: rest, @LT.lt Nat _ q.1 T3) → Q .next { s with heap := h', toks := tk' }) :
    wpAny (model PySem.Challenge.rw_rw0107_01.row.prog w) ((ktrTop dp un gd cn cs L a ccd cl outer).deeper (wEnv L1)) (execs wBody (wEnv L1)) Q E s := by
  have stp : StopLen 4 := ⟨trivial, rfl⟩
  dsimp only [wBody, whB, wordsBody, wEnv, wScope]
  revert X1; k_fill; intro X1
  have m0 := mod3_in ((5 * f + 1).fmod 4096)
  have m1 : 0 ≤ (5 * f + 1).fmod 4096 ∧ (5 * f + 1).fmod 4096 < 4096 := ⟨Int.fmod_nonneg_of_pos _ (by omega), Int.fmod_lt_of_pos _ (by omega)⟩
  (try walk_at "mine:let")
  k_steps
  rename Fr _ _ _ _ => F9
  rw [slice_upto_is (by omega)] at F9 ⊢
  refine in_strTab (TabAt.ofNews (by k_asm) (by k_mem) hso hod (flatPairs_str (sgPairs t1 u1 t2 u2 t3 u3 t4 u4) rfl rfl)) ?_
  rw [sg_look, Option.isSome_map]
  generalize hp : (c :: r).take (((5 * f + 1).fmod 4096).fmod 3 + 1).toNat = p at F9 ⊢
  cases hs : singleF p with
  | none =>
    dsimp only [Option.isSome_none]
    k_steps
    rename Fr _ _ _ _ => F8
    rw [item0] at F8 ⊢
    k_steps
    rename Fr _ _ _ _ => F8
    rename News _ _ _ _ => N8
    rw [wmap_step2] at F8
    unfold Hlt
    refine words_turn2 (c :: r) (formN f) lt _ S W _ _ [c] (letterF c ((formN f).fdiv 3)) _ _ _ od vs n 0 rest B1 X1 T1 F8 N8 hoff ?_ hSW ?_ ?_ ?_ hd hu hls ?_ ?_ ?_ hvs ?_
    · intro q hq
      exact Nat.ne_of_lt (lt_of_all (by walk_at "mine:off") q hq)
    · walk_at "mine:lt"
    · walk_at "mine:lt"
    · walk_at "mine:lt"
    · exact Nat.le_of_ble_eq_true rfl
    · simp only [List.length_cons, List.length_nil]; omega
    · exact ⟨m1.1, Int.le_of_lt m1.2⟩
    · intro T3 h3 tk3 PL3 pts u1 u2 u3 lt3 hpts F3 N3 hW3 hS3
      obtain ⟨e1, e2⟩ := pts_eq hpts
      have ew : wordF (c :: r) (formN f) = ((piecesF (letterF c ((formN f).fdiv 3)) [c] (formN f)).map (·.1), (piecesF (letterF c ((formN f).fdiv 3)) [c] (formN f)).flatMap (·.2), [c]) := by unfold wordF headF; unfold formN; rw [hp, hs]; rfl
      refine' hret T3 h3 tk3 PL3 ?p1 u1 u2 u3 lt3 ?p2 ?g1 ?g2 hW3 hS3
      case g1 => rw [ew]; exact F3
      case g2 => rw [ew]; dsimp only [piecesF]; rw [← e1, ← e2]; exact N3
  | some z =>
    dsimp only [Option.isSome_some]
    k_steps
    refine item_strTab (TabAt.ofNews (by k_asm) (by k_mem) hso hod (flatPairs_str (sgPairs t1 u1 t2 u2 t3 u3 t4 u4) rfl rfl)) (by rw [sg_look, hs]; rfl) ?_
    intro v hv
    obtain ⟨tz, rfl⟩ := PyProof.V.Flat.int_inv hv
    k_steps
    refine chr_of_range (by omega) (single_le hs) ?_
    k_steps
    rename Fr _ _ _ _ => F8
    rename News _ _ _ _ => N8
    rw [wmap_step] at F8
    unfold Hlt
    refine words_turn2 (c :: r) (formN f) lt _ S W _ _ p z _ _ _ od vs n 0 rest B1 X1 T1 F8 N8 hoff ?_ hSW ?_ ?_ ?_ hd hu hls ?_ ?_ ?_ hvs ?_
    · intro q hq
      exact Nat.ne_of_lt (lt_of_all (by walk_at "mine:off") q hq)
    · walk_at "mine:lt"
    · walk_at "mine:lt"
    · walk_at "mine:lt"
    · rw [← hp, List.length_take]; omega
    · rw [← hp, List.length_take]; omega
    · exact ⟨m1.1, Int.le_of_lt m1.2⟩
    · intro T3 h3 tk3 PL3 pts u1 u2 u3 lt3 hpts F3 N3 hW3 hS3
      obtain ⟨e1, e2⟩ := pts_eq hpts
      have ew : wordF (c :: r) (formN f) = ((piecesF z p (formN f)).map (·.1), (piecesF z p (formN f)).flatMap (·.2), p) := by unfold wordF headF; unfold formN; rw [hp, hs]
      refine' hret T3 h3 tk3 PL3 ?p3 u1 u2 u3 lt3 ?p4 ?g3 ?g4 hW3 hS3
      case g3 => rw [ew]; exact F3
      case g4 => rw [ew]; dsimp only [piecesF]; rw [← e1, ← e2]; exact N3
end
end
section
local macro_rules | `(tactic| walk_at "mine:pad") => `(tactic| skip)
theorem start_Wd3 : True := by w_top off; exact trivial

local macro_rules | `(tactic| walk_at "exec While Compare cons nil") => `(tactic| (k_here; refine hlt ?_))
noncomputable def wordsF : Nat → List Nat → Int → List (List Nat × List Nat × List Nat)
  | 0, _, _ => []
  | _ + 1, [], _ => []
  | n + 1, c :: r, f => wordF (c :: r) (formN f) :: wordsF n ((c :: r).drop (wordF (c :: r) (formN f)).2.2.length) (formN f)
theorem wordF_pos (c : Nat) (r : List Nat) (f : Int) : 0 < (wordF (c :: r) f).2.2.length := by
  unfold wordF headF
  dsimp only
  split
  · have := (mod3_in f).1
    rw [List.length_take, List.length_cons]; lia
  · exact Nat.one_pos
/-- a word on the ledger -/
structure Wt where
  a : Addr
  w : List Nat × List Nat × List Nat
  t : Tok
  u : Tok
  v : Tok
noncomputable def Wt.obj (q : Wt) : Addr × Obj := (q.a, tupO #[.str ⟨q.w.1.toArray⟩ q.t, .str ⟨q.w.2.1.toArray⟩ q.u, .str ⟨q.w.2.2.toArray⟩ q.v])
noncomputable def refsW (l : List Wt) : List Value := l.map fun q => .ref q.a
theorem refsW_snoc (l : List Wt) (x : Wt) : refsW l ++ [Value.ref x.a] = refsW (l ++ [x]) := by unfold refsW; rw [List.map_append]; rfl
/-- what holds between the turns of _law_words' loop -/
inductive WInv (g1 : Heap) (L1 S W : Addr) (od : Obj) (news : List (Addr × Obj)) (s : Shared) (all : List (List Nat × List Nat × List Nat)) (nn : Nat) (s' : Shared) : Prop
  | mk (h : Heap) (tk : Nat) (lt ft : Tok) (pt pc : Option Value) (ls' : List Nat) (f' : Int) (k n : Nat) (wts : List Wt) (e1 : nn = ls'.length) (e2 : s' = { s with heap := h, toks := tk })
    (F : Fr g1 L1 h (wmap (.str ⟨ls'.toArray⟩ lt) (.int f' ft) S W pt pc)) (N : News g1 L1 h ((W, listOf (refsW wts).toArray n) :: (S, od) :: (wts.map Wt.obj ++ news))) (hw : wts.map (·.w) ++ wordsF k ls' f' = all)
    (h1 : ls'.length ≤ k) (h2 : ls'.length ≤ 6) (h3 : wts.length + ls'.length ≤ 6) (hc : ∀ c ∈ ls', 97 ≤ c ∧ c ≤ 122) (hf : 0 ≤ f' ∧ f' ≤ 1000000000000) (hlt : ∀ t ∈ wts, @LT.lt Nat _ W t.a ∧ ∀ q ∈ news, @LT.lt Nat _ q.1 t.a) : WInv g1 L1 S W od news s all nn s'
/-- the ledger behind _law_words -/
inductive WordsPost (ls : List Nat) (f : Int) (news news' : List (Addr × Obj)) (v : Value) : Prop
  | mk (R : Addr) (wts : List Wt) (rn : Nat) (ev : v = .ref R) (en : news' = (R, listOf (refsW wts).toArray rn) :: (wts.map Wt.obj ++ news)) (hw : wts.map (·.w) = (wordsF 6 ls f).reverse)
    (lt : ∀ t ∈ wts, ∀ q ∈ news, @LT.lt Nat _ q.1 t.a) (lR : ∀ q ∈ wts.map Wt.obj ++ news, @LT.lt Nat _ q.1 R) : WordsPost ls f news news' v
theorem wmap_init {lv fv : Value} {S W : Addr} : (fun y => if y = Str.ofString "words" then some (.ref W) else if y = Str.ofString "single" then some (.ref S) else List.lookup y [(Str.ofString "form", fv), (Str.ofString "letters", lv)]) = wmap lv fv S W none none := by
  funext y; unfold wmap
  by_cases h1 : y = Str.ofString "letters"
  · subst h1; with_unfolding_all rfl
  by_cases h2 : y = Str.ofString "form"
  · subst h2; with_unfolding_all rfl
  by_cases h3 : y = Str.ofString "single"
  · subst h3; with_unfolding_all rfl
  by_cases h4 : y = Str.ofString "words"
  · subst h4; with_unfolding_all rfl
  by_cases h5 : y = Str.ofString "part"
  · subst h5; with_unfolding_all rfl
  by_cases h6 : y = Str.ofString "pieces"
  · subst h6; with_unfolding_all rfl
  simp only [if_neg h1, if_neg h2, if_neg h3, if_neg h4, if_neg h5, if_neg h6, List.lookup, beq_false_of_ne h1, beq_false_of_ne h2]
theorem ne_empty {c : Nat} {r : List Nat} : ((⟨(c :: r).toArray⟩ : Str) != Str.ofString "") = true := by
  rw [empty_is]
  have : (⟨(c :: r).toArray⟩ : Str) ≠ ⟨#[]⟩ := by intro h; injection h with h; simp at h
  simpa using this
theorem is_empty : ((⟨([] : List Nat).toArray⟩ : Str) != Str.ofString "") = false := by rw [empty_is]; simp
theorem wordF_le (ls : List Nat) (f : Int) (h : 0 < ls.length) : (wordF ls f).2.2.length ≤ ls.length := by
  unfold wordF headF
  dsimp only
  split
  · rw [List.length_take]; lia
  · exact h
theorem words_fuel {k k' : Nat} {c : Nat} {r : List Nat} {f : Int} (h : (c :: r).length ≤ k) : ∃ k2, k = k2 + 1 ∧ wordsF k (c :: r) f = wordF (c :: r) (formN f) :: wordsF k2 ((c :: r).drop (wordF (c :: r) (formN f)).2.2.length) (formN f) ∧ ((c :: r).drop (wordF (c :: r) (formN f)).2.2.length).length ≤ k2 := by
  cases k with
  | zero => simp at h
  | succ k2 =>
    refine ⟨k2, rfl, rfl, ?_⟩
    have := wordF_pos c r (formN f)
    rw [List.length_drop]; lia
noncomputable def wWhile : Stmt := wordsBody.getD 2 default
theorem tup_lt {wts : List Wt} {x : Wt} {news : List (Addr × Obj)} {W : Addr} (h : ∀ t ∈ wts, @LT.lt Nat _ W t.a ∧ ∀ q ∈ news, @LT.lt Nat _ q.1 t.a) (hx : @LT.lt Nat _ W x.a ∧ ∀ q ∈ news, @LT.lt Nat _ q.1 x.a) : ∀ t ∈ wts ++ [x], @LT.lt Nat _ W t.a ∧ ∀ q ∈ news, @LT.lt Nat _ q.1 t.a := by
  intro t ht
  rcases List.mem_append.mp ht with ht | ht
  · exact h t ht
  · rw [List.mem_singleton.mp ht]; exact hx
section
variable {w : World} {mean : ExcName → Option Value} {mg mb : Str → Option Value}
  {dp un : Nat} {gd : Option (List Code)} {cn : Str} {cs : Scope} {a : Addr} {ccd : Value} {cl : List (Str × Addr)} {outer : List Env}
  {A₀ : Around} {base g1 : Heap} {L L1 : Addr} {s : Shared} {Q : Flow → Shared → Prop} {E : Value → Shared → Prop}
set_option maxHeartbeats 0 in
theorem words_while (ls : List Nat) (f : Int) (lt ft : Tok) (S W : Addr) (t1 u1 t2 u2 t3 u3 t4 u4 : Tok) (od : Obj) (news : List (Addr × Obj))
    (B1 : Below (ktrTop dp un gd cn cs L a ccd cl outer) base (envX cn cs L a ccd cl :: outer) g1) (X1 : (K w.params).In g1) (T1 : Top q loose mean mg mb g1)
    (F1 : Fr g1 L1 s.heap (wmap (.str ⟨ls.toArray⟩ lt) (.int f ft) S W none none))
    (N1 : News g1 L1 s.heap ((W, listOf (refsW []).toArray 0) :: (S, od) :: (([] : List Wt).map Wt.obj ++ news)))
    (hod : Obj.IsDictOf (PySem.strKind PySem.Challenge.rw_rw0107_01.row.prog w) od (strPairs (sgPairs t1 u1 t2 u2 t3 u3 t4 u4))) (hso : (S == sysModules) = false)
    (hoff : ∀ p ∈ news, @LT.lt Nat _ p.1 W) (hSW : @LT.lt Nat _ S W)
    (hd : dp + 1 + 20 + 5 < recursionLimit) (hu : un + 3 + 1 + 100 + 10 * 5 < cLine)
    (hls : ls.length ≤ 6) (hl : ∀ c ∈ ls, 97 ≤ c ∧ c ≤ 122) (hf : 0 ≤ f ∧ f ≤ 1000000000000)
    (hret : ∀ (h' : Heap) (tk' : Nat) (wts : List Wt) (n : Nat) (lt' ft' : Tok) (f' : Int) (pt pc : Option Value), Fr g1 L1 h' (wmap (.str ⟨([] : List Nat).toArray⟩ lt') (.int f' ft') S W pt pc) →
      News g1 L1 h' ((W, listOf (refsW wts).toArray n) :: (S, od) :: (wts.map Wt.obj ++ news)) → wts.map (·.w) = wordsF 6 ls f → wts.length ≤ 6 → (∀ t ∈ wts, @LT.lt Nat _ W t.a ∧ ∀ q ∈ news, @LT.lt Nat _ q.1 t.a) → Q .next { s with heap := h', toks := tk' }) :
    wpAny (model PySem.Challenge.rw_rw0107_01.row.prog w) ((ktrTop dp un gd cn cs L a ccd cl outer).deeper (wEnv L1)) (exec wWhile (wEnv L1)) Q E s := by
  have stp0 : StopLen 7 := ⟨trivial, rfl⟩
  dsimp only [wWhile, wordsBody, wEnv, wScope]
  revert X1; k_fill; intro X1
  refine wpAny_While ?_
  refine codeAny_whileLoop (I := WInv g1 L1 S W od news s (wordsF 6 ls f)) ?turn ls.length ?init
  case init => exact ⟨_, _, _, _, _, _, ls, f, 6, 0, [], rfl, rfl, F1, N1, rfl, hls, hls, by simpa using hls, hl, hf, fun _ h => nomatch h⟩
  case turn =>
    clear F1 N1
    rintro nn s' ⟨h, tk, lt, ft, pt, pc, ls', f', k, n, wts, rfl, rfl, F4, N4, hw, hk1, hk2, hwl, hc, hf', hlt⟩
    cases ls' with
    | nil =>
      (try walk_at "mine:let")
      k_steps
      dsimp only
      refine hret _ _ wts n _ _ f' pt pc F4 N4 ?_ (by lia) hlt
      rw [← hw]
      cases k <;> simp [wordsF]
    | cons c r =>
      k_steps
      rotate_left
      · exfalso; rename (_ != _) = false => hb; rw [ne_empty] at hb; cases hb
      unfold Hlt
      have hoff' : ∀ p ∈ wts.map Wt.obj ++ news, p.1 ≠ W := by
        intro p hp
        rcases List.mem_append.mp hp with hp | hp
        · obtain ⟨t, ht, rfl⟩ := List.mem_map.mp hp
          exact Nat.ne_of_gt (hlt t ht).1
        · exact Nat.ne_of_lt (hoff p hp)
      refine words_turn c r f' lt ft S W pt pc t1 u1 t2 u2 t3 u3 t4 u4 od (refsW wts) n (wts.map Wt.obj ++ news) B1 X1 T1 F4 N4 hod hso hoff' (Nat.ne_of_lt hSW) hd hu hk2 (hc c List.mem_cons_self) hf' (by unfold refsW; rw [List.length_map]; lia) ?_
      intro T3 h3 tk3 PL3 pt3 v1 v2 v3 lt3 ft3 F5 N5 hW3 hS3
      obtain ⟨k2, rfl, hw2, hk3⟩ := words_fuel (k' := 0) (f := f') hk1
      have hpos := wordF_pos c r (formN f')
      have hle := wordF_le (c :: r) (formN f') (Nat.succ_pos _)
      refine ⟨((c :: r).drop (wordF (c :: r) (formN f')).2.2.length).length, by rw [List.length_drop, List.length_cons]; lia, h3, tk3, lt3, ft3, _, _, (c :: r).drop (wordF (c :: r) (formN f')).2.2.length, formN f', k2, n + 1, wts ++ [⟨T3, wordF (c :: r) (formN f'), v1, v2, v3⟩], rfl, rfl, F5, ?_, ?_, hk3, ?_, ?_, ?_, ?_, ?_⟩
      · rw [← refsW_snoc]
        refine news_drop N5 ?_
        rw [List.map_append, List.map_cons, List.map_nil]
        exact sub_cons (.head _) (sub_cons (.tail _ (.tail _ (.head _))) (sub_app (sub_app (fun q h => .tail _ (.tail _ (.tail _ (List.mem_append_left _ h)))) (sub_cons (.tail _ (.head _)) sub_nil)) (fun q h => .tail _ (.tail _ (.tail _ (List.mem_append_right _ h))))))
      · rw [← hw, hw2, List.map_append, List.append_assoc]; rfl
      · rw [List.length_drop]; lia
      · rw [List.length_append, List.length_drop]
        simp only [List.length_cons, List.length_nil] at hwl ⊢
        lia
      · intro x hx; exact hc x (List.mem_of_mem_drop hx)
      · unfold formN
        exact ⟨Int.fmod_nonneg_of_pos _ (by lia), Int.le_trans (Int.le_of_lt (Int.fmod_lt_of_pos _ (by lia))) (by lia)⟩
      · exact tup_lt hlt ⟨hW3, fun q hq => hS3 q (List.mem_cons_of_mem _ (List.mem_append_right _ hq))⟩
end
theorem refsW_rev (wts : List Wt) : (refsW wts).toArray.toList.reverse = refsW wts.reverse := by unfold refsW; simp
theorem refsW_size {wts : List Wt} (h : wts.length ≤ 6) : (refsW wts).toArray.size ≤ sizeLine := by
  unfold refsW; rw [List.size_toArray, List.length_map, sizeLine_eq]; lia
local macro_rules | `(tactic| walk_at "subscriptTail Name Slice ref ref") => `(tactic| (k_here; k_dflt (refine krv_lit (by k_asm) (by k_asm) (by kmk_list) (by exact IsPart.int _ _) (refsW_rev _) ?_ (by with_unfolding_all rfl) (by kmk_pure) (by exact refsW_size (by assumption)); k_whole); intro D' h' F' N' l1; (try k_lt l1)))
set_option maxHeartbeats 0 in
theorem t_words (ls : List Nat) (f : Int) (t t' : Tok) (hls : ls.length ≤ 6) (hl : ∀ c ∈ ls, 97 ≤ c ∧ c ≤ 122) (hf : 0 ≤ f ∧ f ≤ 1000000000000) : ClaimN 8 177 [.str ⟨ls.toArray⟩ t, .int f t'] (fun _ => True) (WordsPost ls f) := by
  dsimp only [ClaimN]; k_fill
  intro w mean mg mb news dp un gd cn cs a ccd cl outer A₀ base h₀ L m s Q E B F X N hpre T hk hd hu hret
  refine wpAny_call ?_
  refine' code_def ?pk1 ?pk2 ?pk3 ?pk4 ?pk5 ?pkA ?pkF ?pkK ?pk6 ?pk7 ?pk8 ?pk9 ?pkB ?_ ?pc2 ?pc3 ?pc4 ?pc5; (case pkA => exact rfl); (case pkF => exact rfl); (case pkK => first | assumption | exact rfl); (case pk1 => k_asm); (case pk2 => k_asm); (case pk3 => k_asm); (case pk4 => k_asm); (case pk5 => k_asm); (case pk6 => k_is); (case pk7 => k_is); (case pk8 => ktr_room); (case pk9 => exact BindsTo.of_eq rfl); (case pc5 => decide); (case pkB => exact locs rfl); (case pc2 => exact rfl); (case pc3 => exact rfl); (case pc4 => exact rfl)
  intro g1 L1 h1 FG1 F1 N1 B1 X1 T1
  (try dsimp only)
  (try k_lift B1)
  (try k_fold)
  (try walk_at "mine:let")
  k_steps
  unfold Hlt
  rename Fr _ _ _ _ => F2
  rename News _ _ _ _ => N2
  rename _ ∧ AllLt _ _ => l1
  rename (_ == sysModules) = false => hso
  rename Obj.IsDictOf _ _ _ => hod
  refine words_while ls f t t' _ _ _ _ _ _ _ _ _ _ _ news B1 X1 T1 (by rw [← wmap_init]; exact F2) N2 hod hso (fun p hp => lt_of_all l1.2 p hp) l1.1 (by lia) (by lia) hls hl hf ?_
  clear F2 N2 hod
  intro h5 tk5 wts n5 lt5 ft5 f5 pt5 pc5 F5 N5 hw hwl hlt
  dsimp only
  k_steps
  rename News _ _ _ _ => N9
  rename Fr _ _ _ _ => F9
  rename _ ∧ _ ∧ AllLt _ _ => l9
  refine' hret _ _ _ ((_, listOf (refsW wts.reverse).toArray 0) :: (wts.reverse.map Wt.obj ++ news)) ⟨_, wts.reverse, 0, rfl, rfl, ?zw, ?zt, ?zq⟩ (by k_asm) ?zN
  case zN =>
    refine news_drop N9 ?_
    rw [List.map_reverse]
    refine sub_cons (.head _) (sub_app (fun q hq => .tail _ (.tail _ (.tail _ (List.mem_append_left _ (List.mem_reverse.mp hq))))) fun q hq => .tail _ (.tail _ (.tail _ (List.mem_append_right _ hq))))
  case zw => rw [List.map_reverse, hw]
  case zt => intro x hx; exact (hlt x (List.mem_reverse.mp hx)).2
  case zq =>
    intro q hq
    refine lt_of_all l9.2.2 q ?_
    rw [List.map_reverse] at hq
    rcases List.mem_append.mp hq with hq | hq
    · exact List.mem_append_left _ (List.mem_reverse.mp hq)
    · exact List.mem_append_right _ hq
end
section
open PySem PySem.W PySem.Spec PySem.Calls PyProof.Rows PyProof.Rows.LCg
section
variable {prog : Program} {w : World} {A : Around} {E : Value → Shared → Prop} {s : Shared} {h₀ : Heap} {L : Addr} {m : Str → Option Value} {env : Env}
theorem binds_enum {a b : Str} {pa pb tp : Pos} {kk : Nat} {scope : Scope} {cl : List (Str × Addr)} {C : Addr} {n : Nat} {P : Nat → Value → Prop} (hh : A.handled = none) (hkind : scope.kind = .function) (ha : scope.names.lookup a = some .local) (hb : scope.names.lookup b = some .local) (hab : a ≠ b) :
    Binds prog w A (.Tuple [.Name a pa, .Name b pb] kk tp) (compEnvC scope cl C env) n (fun i v h => ∃ T vals, v = .ref T ∧ (∃ t x, P i x ∧ vals = #[.int i t, x]) ∧ h.IsTuple T vals) (fun i m₃ => ∃ t x, P i x ∧ m₃ a = some (.int i t) ∧ m₃ b = some x) := by
  intro i v s m' Q E hi hP hn hQ
  obtain ⟨T, vals, rfl, ⟨t, x, hx, rfl⟩, hT⟩ := hP
  refine kcp_assign (env := compEnvC scope cl C env) hh hT (lookup_relabel_local ha) (lookup_relabel_local hb) (by simp [compEnvC, relabel, hkind]) hn fun h₄ tk₄ hn₄ hs₄ => ?_
  exact hQ h₄ tk₄ _ hn₄ ⟨t, x, hx, by simp [hab], by simp⟩ hs₄
/-- a comprehension over an enumerate that has just been made -/
theorem plan_enum_core {n : Nat} {P : Nat → Value → Prop} {e it : Addr} {fp : List Addr} {St : Nat → Heap → Prop} {Mid : Nat → Addr → Heap → Prop} {s₁ : Shared} {elt : PySem.Expr} {a b : Str} {pa pb tp : Pos} {kk : Nat} {ifs : List PySem.Expr} {scope : Scope} {cl : List (Str × Addr)} {Fin : Shared → List Value → List (Addr × Obj) → Prop} {news : List (Addr × Obj)} (J : Nat → List Value → Prop)
    (hh : A.handled = none) (W : WalksT prog w A e fp [e, it] n (fun i vals => ∃ t x, P i x ∧ vals = #[.int i t, x]) St Mid)
    (hfp : ∀ b ∈ fp, b = e ∨ b = it ∨ (∃ o, h₀.get? b = some o) ∨ ∃ o, (b, o) ∈ news) (hlive : ∀ i h, St i h → (∃ o, h.get? e = some o) ∧ ∃ o, h.get? it = some o)
    (he : e ≠ L ∧ h₀.get? e = none ∧ ∀ p ∈ news, p.1 ≠ e) (hit : it ≠ L ∧ h₀.get? it = none ∧ ∀ p ∈ news, p.1 ≠ it)
    (hst : St 0 s₁.heap) (F : Fr h₀ L s₁.heap m) (N : News h₀ L s₁.heap news) (hsz : n ≤ sizeLine) (hkind : scope.kind = .function)
    (ha : scope.names.lookup a = some .local) (hb : scope.names.lookup b = some .local) (hab : a ≠ b) (hJ : J 0 [])
    (turn : ∀ i t x ys oe oi C oC D m₂ h tk (E' : Value → Shared → Prop) s₂, s₂ = { s₁ with heap := h, toks := tk } → i < n → P i x → J i ys → NsObj oC m₂ → m₂ a = some (.int i t) → m₂ b = some x → Fr h₀ L h m → News h₀ L h ((e, oe) :: (it, oi) :: (C, oC) :: (D, lst ys) :: news) →
      CTests prog w A ifs elt (compEnvC scope cl C env) (CDone h₀ L m s₂ ((e, oe) :: (it, oi) :: (C, oC) :: (D, lst ys) :: news) fun y => J (i + 1) (ys ++ [y]))
        (CDone h₀ L m s₂ ((e, oe) :: (it, oi) :: (C, oC) :: (D, lst ys) :: news) (fun _ => J (i + 1) ys) .none) E' s₂)
    (fin : ∀ ys, J n ys → Fin s₁ ys news) : CPlan prog w A h₀ L m env elt (.Tuple [.Name a pa, .Name b pb] kk tp) ifs scope cl Fin (.ref e) s₁ := by
  refine ⟨e, fp, [e, it], [e, it], n, _, _, _, news, (fun _ => []), J, _, fun _ => rfl, rfl, KTurns.ofWalksU W.toU, W.toU.self, hsz, fun C => binds_enum hh hkind ha hb hab, ?_, ?_, fun b hb => hb, ?_, hst, F, N, hJ, ?_, fin⟩
  · intro i h st c hc
    simp only [List.mem_cons, List.not_mem_nil, or_false] at hc
    rcases hc with rfl | rfl
    · exact (hlive i h st).1
    · exact (hlive i h st).2
  · intro c hc
    rcases hfp c hc with rfl | rfl | h
    · exact .inl (by simp)
    · exact .inl (by simp)
    · exact .inr h
  · intro c hc
    simp only [List.mem_cons, List.not_mem_nil, or_false] at hc
    rcases hc with rfl | rfl
    · exact he
    · exact hit
  · intro i ys own C oC D m₂ h tk E' hi hJ' hown hC hbd _ F' N'
    obtain ⟨t, x, hx, hm1, hm2⟩ := hbd
    obtain ⟨oe, oi, rfl⟩ : ∃ oe oi, own = [(e, oe), (it, oi)] := by
      clear turn F' N' fin
      rcases own with _ | ⟨⟨a1, o1⟩, _ | ⟨⟨a2, o2⟩, _ | ⟨p, r⟩⟩⟩ <;> simp only [List.map_cons, List.map_nil, List.cons.injEq, reduceCtorEq, and_false, and_true] at hown
      obtain ⟨rfl, rfl⟩ := hown
      exact ⟨_, _, rfl⟩
    exact turn i t x ys oe oi C oC D m₂ h tk E' _ rfl hi hx hJ' hC hm1 hm2 F' N'
theorem plan_enum_list {l : Addr} {its : Array Value} {elt : PySem.Expr} {a b : Str} {pa pb tp : Pos} {kk : Nat} {ifs : List PySem.Expr} {scope : Scope} {cl : List (Str × Addr)} {Fin : Shared → List Value → List (Addr × Obj) → Prop} {news : List (Addr × Obj)} (J : Nat → List Value → Prop)
    (hh : A.handled = none) (F : Fr h₀ L s.heap m) (N : News h₀ L s.heap news) (hax : (∃ o, h₀.get? l = some o) ∨ ∃ o, (l, o) ∈ news) (hl : s.heap.IsList l its) (hsz : its.size ≤ sizeLine) (hkind : scope.kind = .function)
    (ha : scope.names.lookup a = some .local) (hb : scope.names.lookup b = some .local) (hab : a ≠ b) (hJ : J 0 [])
    (turn : ∀ i t x ys e it oe oi C oC D m₂ h tk (E' : Value → Shared → Prop) s₂, s₂ = { s with heap := h, toks := tk } → its[i]? = some x → J i ys → NsObj oC m₂ → m₂ a = some (.int i t) → m₂ b = some x → Fr h₀ L h m → News h₀ L h ((e, oe) :: (it, oi) :: (C, oC) :: (D, lst ys) :: news) →
      CTests prog w A ifs elt (compEnvC scope cl C env) (CDone h₀ L m s₂ ((e, oe) :: (it, oi) :: (C, oC) :: (D, lst ys) :: news) fun y => J (i + 1) (ys ++ [y]))
        (CDone h₀ L m s₂ ((e, oe) :: (it, oi) :: (C, oC) :: (D, lst ys) :: news) (fun _ => J (i + 1) ys) .none) E' s₂)
    (fin : ∀ g ys, J its.size ys → Fin { s with heap := g } ys news) :
    wpAny (model prog w) A (call (.type "enumerate") [.ref l]) (fun xv s₁ => wpAny (model prog w) A (pyIter xv) (CPlan prog w A h₀ L m env elt (.Tuple [.Name a pa, .Name b pb] kk tp) ifs scope cl Fin) E s₁) E s := by
  have hlt : l < s.heap.objs.size := by obtain ⟨_, x, _⟩ := hl; exact Heap.lt_size x
  refine call_enumerate_list hl fun h' hE hI hz hk => wpAny_pyIter_enum hE ?_
  have fresh := fresh_new F N
  have W := WalksT.enumerate (prog := prog) (w := w) hh (s.heap.objs.size + 1) s.heap.objs.size l (Nat.succ_ne_self _) (Nat.ne_of_lt (Nat.lt_succ_of_lt hlt)) (Nat.ne_of_lt hlt) its
  refine plan_enum_core (it := s.heap.objs.size) (n := its.size) (P := fun i x => its[i]? = some x) J hh W ?_ ?_ (fresh 1) (fresh 0) ⟨⟨_, hE⟩, hI, hl.at fun o x => hk _ o x⟩ (F.keeps hk) (N.grown hk) hsz hkind ha hb hab hJ ?_ (fun ys hJ' => fin _ ys hJ')
  · intro c hc
    simp only [List.mem_cons, List.not_mem_nil, or_false] at hc
    rcases hc with rfl | rfl | rfl
    · exact .inl rfl
    · exact .inr (.inl rfl)
    · exact .inr (.inr hax)
  · rintro i h ⟨⟨old, x⟩, ⟨o, y, _⟩, _⟩
    exact ⟨⟨_, x⟩, ⟨_, y⟩⟩
  · intro i t x ys oe oi C oC D m₂ h tk E' s₂ hs hi hx hJ' hC hm1 hm2 F' N'
    exact turn i t x ys _ _ oe oi C oC D m₂ h tk E' s₂ hs hx hJ' hC hm1 hm2 F' N'
theorem plan_enum_str {x : Str} {tx : Tok} {elt : PySem.Expr} {a b : Str} {pa pb tp : Pos} {kk : Nat} {ifs : List PySem.Expr} {scope : Scope} {cl : List (Str × Addr)} {Fin : Shared → List Value → List (Addr × Obj) → Prop} {news : List (Addr × Obj)} (J : Nat → List Value → Prop)
    (hh : A.handled = none) (F : Fr h₀ L s.heap m) (N : News h₀ L s.heap news) (hsz : x.cps.size ≤ sizeLine) (hkind : scope.kind = .function)
    (ha : scope.names.lookup a = some .local) (hb : scope.names.lookup b = some .local) (hab : a ≠ b) (hJ : J 0 [])
    (turn : ∀ i t c u ys e it oe oi C oC D m₂ h tk (E' : Value → Shared → Prop) s₂, s₂ = { s with heap := h, toks := tk } → x.cps[i]? = some c → J i ys → NsObj oC m₂ → m₂ a = some (.int i t) → m₂ b = some (.str ⟨#[c]⟩ u) → Fr h₀ L h m → News h₀ L h ((e, oe) :: (it, oi) :: (C, oC) :: (D, lst ys) :: news) →
      CTests prog w A ifs elt (compEnvC scope cl C env) (CDone h₀ L m s₂ ((e, oe) :: (it, oi) :: (C, oC) :: (D, lst ys) :: news) fun y => J (i + 1) (ys ++ [y]))
        (CDone h₀ L m s₂ ((e, oe) :: (it, oi) :: (C, oC) :: (D, lst ys) :: news) (fun _ => J (i + 1) ys) .none) E' s₂)
    (fin : ∀ g ys, J x.cps.size ys → Fin { s with heap := g } ys news) :
    wpAny (model prog w) A (call (.type "enumerate") [.str x tx]) (fun xv s₁ => wpAny (model prog w) A (pyIter xv) (CPlan prog w A h₀ L m env elt (.Tuple [.Name a pa, .Name b pb] kk tp) ifs scope cl Fin) E s₁) E s := by
  refine call_enumerate_str fun h' hE hI hz hk => wpAny_pyIter_enum hE ?_
  have fresh := fresh_new F N
  have go : ∀ (St : Nat → Heap → Prop), Draws prog w A.in1 s.heap.objs.size [s.heap.objs.size] x.cps.size (SignAt x) St → St 0 h' → CPlan prog w A h₀ L m env elt (.Tuple [.Name a pa, .Name b pb] kk tp) ifs scope cl Fin (.ref (s.heap.objs.size + 1 : Nat)) { s with heap := h' } := by
    intro St D hst
    have W := WalksT.enumerateD D (s.heap.objs.size + 1) (Nat.succ_ne_self _) (by simp) (by simp)
    refine plan_enum_core (it := s.heap.objs.size) (n := x.cps.size) (P := SignAt x) J hh W ?_ ?_ (fresh 1) (fresh 0) ⟨⟨_, hE⟩, hst⟩ (F.keeps hk) (N.grown hk) hsz hkind ha hb hab hJ ?_ (fun ys hJ' => fin _ ys hJ')
    · intro c hc
      simp only [List.mem_cons, List.not_mem_nil, or_false] at hc
      rcases hc with rfl | rfl
      · exact .inl rfl
      · exact .inr (.inl rfl)
    · rintro i h ⟨⟨old, y⟩, st⟩
      exact ⟨⟨_, y⟩, D.live _ _ st⟩
    · rintro i t v ys oe oi C oC D m₂ h tk E' s₂ hs hi ⟨c, u, hc, rfl⟩ hJ' hC hm1 hm2 F' N'
      exact turn i t c u ys _ _ oe oi C oC D m₂ h tk E' s₂ hs hc hJ' hC hm1 hm2 F' N'
  cases ha' : x.cps.all (· < 128)
  · have e : strIterType x = "str_iterator" := by unfold strIterType; rw [ha']; rfl
    rw [e] at hI
    exact go _ (Draws.strWide (show A.in1.handled = none from hh) _ x tx) hI
  · have e : strIterType x = "str_ascii_iterator" := by unfold strIterType; rw [ha']; rfl
    rw [e] at hI
    exact go _ (Draws.strAscii (show A.in1.handled = none from hh) _ x tx) hI
end
end
section
noncomputable abbrev lawScope : Scope := { kind := .function, names := [(Str.ofString "script", .cell), (Str.ofString "heaps", .cell), (Str.ofString "letters", .local), (Str.ofString "words", .local), (Str.ofString "text", .local), (Str.ofString "lexer", .cell), (Str.ofString "row", .cell), (Str.ofString "token", .local), (Str.ofString "meant", .local), (Str.ofString "part", .local), (Str.ofString "letter", .cell), (Str.ofString "images", .local), (Str.ofString "image", .local), (Str.ofString "closed", .local), (Str.ofString "lamps", .cell), (Str.ofString "back", .local), (Str.ofString "turn", .local), (Str.ofString "corner", .cell), (Str.ofString "red", .local), (Str.ofString "green", .local), (Str.ofString "blue", .local), (Str.ofString "enumerate", .globalImplicit), (Str.ofString "range", .globalImplicit), (Str.ofString "_law_words", .globalImplicit), (Str.ofString "_law_lexer", .globalImplicit), (Str.ofString "_law_prepared", .globalImplicit), (Str.ofString "_law_image", .globalImplicit), (Str.ofString "len", .globalImplicit), (Str.ofString "_law_closed", .globalImplicit), (Str.ofString "_law_seen", .globalImplicit), (Str.ofString "rgb_to_hsv", .globalImplicit), (Str.ofString "rgb_to_hls", .globalImplicit)], isGenerator := false, isCoroutine := false, more := ["script", "place", "fixed", "heaps", "letters", "words", "word", "text", "lexer", "row", "token", "meant", "part", "letter", "other", "images", "image", "closed", "lamps", "back", "turn", "corner", "lamp", "red", "green", "blue"].map fun x => (Str.ofString "fast", Const.str (Str.ofString x)) }
noncomputable def lawBody : List Stmt := match (fd 21 3 .none .none).body with | .stmts b => b | _ => []
noncomputable def lawS (i : Nat) : Stmt := lawBody.getD i default
noncomputable abbrev lawCl (L : Addr) : List (Str × Addr) := [(Str.ofString "corner", L + 7), (Str.ofString "lamps", L + 6), (Str.ofString "letter", L + 5), (Str.ofString "row", L + 4), (Str.ofString "lexer", L + 3), (Str.ofString "heaps", L + 2), (Str.ofString "script", L + 1)]
noncomputable abbrev lawEnv (L fa : Addr) (cd : Value) : Env := envX (Str.ofString "law") lawScope L fa cd (lawCl L)
noncomputable abbrev lawA (dp un : Nat) (gd : Option (List Code)) (L fa : Addr) (cd : Value) (outer : List Env) : Around := ktrTop dp un gd (Str.ofString "law") lawScope L fa cd (lawCl L) outer
/-- the seven cells -/
noncomputable abbrev cellsL (L : Addr) (oK oM oT oR oX oH oS : Obj) : List (Addr × Obj) := [(L + 7, oK), (L + 6, oM), (L + 5, oT), (L + 4, oR), (L + 3, oX), (L + 2, oH), (L + 1, oS)]
theorem lawScope_is : (fd 21 3 .none .none).scope = lawScope := by kernel_rfl
theorem lawCl_is (L : Addr) : cellsFrom (L + 1) lawScope.names [] = lawCl L := rfl
theorem lawBody_len : lawBody.length = 16 := by decide +kernel
/-- none of the seven cells -/
noncomputable def OffC (L : Addr) (rest : List (Addr × Obj)) : Prop := ∀ p ∈ rest, ∀ i : Nat, 1 ≤ i → i ≤ 7 → @Ne Nat p.1 (L + i)
theorem offC_ne {L : Addr} {i : Nat} {rest : List (Addr × Obj)} (h : OffC L rest) (h1 : 1 ≤ i) (h2 : i ≤ 7) : ∀ p ∈ rest, p.1 ≠ (L + i : Nat) := fun p hp => h p hp i h1 h2
theorem offC_nil (L : Addr) : OffC L [] := fun _ h => nomatch h
theorem offC_cons {L : Addr} {x : Addr × Obj} {rest : List (Addr × Obj)} (h : OffC L rest) (h7 : @Ne Nat (L + 7) x.1) (h6 : @Ne Nat (L + 6) x.1) (h5 : @Ne Nat (L + 5) x.1) (h4 : @Ne Nat (L + 4) x.1) (h3 : @Ne Nat (L + 3) x.1) (h2 : @Ne Nat (L + 2) x.1) (h1 : @Ne Nat (L + 1) x.1) : OffC L (x :: rest) := by
  intro p hp i i1 i7
  rcases List.mem_cons.mp hp with rfl | hp
  · have : i = 1 ∨ i = 2 ∨ i = 3 ∨ i = 4 ∨ i = 5 ∨ i = 6 ∨ i = 7 := by lia
    rcases this with rfl | rfl | rfl | rfl | rfl | rfl | rfl
    · exact h1.symm
    · exact h2.symm
    · exact h3.symm
    · exact h4.symm
    · exact h5.symm
    · exact h6.symm
    · exact h7.symm
  · exact h p hp i i1 i7
theorem offC_lt {L d : Addr} {o : Obj} {rest : List (Addr × Obj)} (h : OffC L rest) (hd : @LT.lt Nat _ (L + 7) d) : OffC L ((d, o) :: rest) := by
  intro p hp i i1 i7
  rcases List.mem_cons.mp hp with rfl | hp
  · exact Nat.ne_of_gt (Nat.lt_of_le_of_lt (Nat.add_le_add_left i7 L) hd)
  · exact h p hp i i1 i7
theorem seven {i : Nat} (h1 : 1 ≤ i) (h7 : i ≤ 7) : i = 1 ∨ i = 2 ∨ i = 3 ∨ i = 4 ∨ i = 5 ∨ i = 6 ∨ i = 7 := by lia
theorem cells_far {L I : Addr} {a b c d e f g : Obj} {rest : List (Addr × Obj)} (h : ∀ p ∈ cellsL L a b c d e f g ++ rest, p.1 ≠ I) : ∀ i : Nat, 1 ≤ i → i ≤ 7 → @Ne Nat (L + i) I := fun i h1 h7 => by
  rcases seven h1 h7 with rfl | rfl | rfl | rfl | rfl | rfl | rfl
  · exact h _ (.tail _ (.tail _ (.tail _ (.tail _ (.tail _ (.tail _ (.head _)))))))
  · exact h _ (.tail _ (.tail _ (.tail _ (.tail _ (.tail _ (.head _))))))
  · exact h _ (.tail _ (.tail _ (.tail _ (.tail _ (.head _)))))
  · exact h _ (.tail _ (.tail _ (.tail _ (.head _))))
  · exact h _ (.tail _ (.tail _ (.head _)))
  · exact h _ (.tail _ (.head _))
  · exact h _ (.head _)
theorem far_cells {L I : Addr} {a b c d e f g : Obj} {rest : List (Addr × Obj)} (h : ∀ i : Nat, 1 ≤ i → i ≤ 7 → @Ne Nat (L + i) I) (k : ∀ p ∈ rest, p.1 ≠ I) : ∀ p ∈ cellsL L a b c d e f g ++ rest, p.1 ≠ I :=
  List.forall_mem_append.mpr ⟨List.forall_mem_cons.mpr ⟨h 7 (by decide) (by decide), List.forall_mem_cons.mpr ⟨h 6 (by decide) (by decide), List.forall_mem_cons.mpr ⟨h 5 (by decide) (by decide), List.forall_mem_cons.mpr ⟨h 4 (by decide) (by decide),
    List.forall_mem_cons.mpr ⟨h 3 (by decide) (by decide), List.forall_mem_cons.mpr ⟨h 2 (by decide) (by decide), List.forall_mem_cons.mpr ⟨h 1 (by decide) (by decide), fun _ x => nomatch x⟩⟩⟩⟩⟩⟩⟩, k⟩
theorem offC_iter {L I : Addr} {a b c d e f g oI : Obj} {rest : List (Addr × Obj)} (h : ∀ p ∈ cellsL L a b c d e f g ++ rest, p.1 ≠ I) : OffC L [(I, oI)] := fun q hq i h1 h7 => by
  rw [List.mem_singleton.mp hq]; exact (cells_far h i h1 h7).symm
theorem ne_cells {L I : Addr} {a b c d e f g a' b' c' d' e' f' g' : Obj} {rest rest' : List (Addr × Obj)} (h : ∀ p ∈ cellsL L a b c d e f g ++ rest, p.1 ≠ I) (k : ∀ p ∈ rest', p.1 ≠ I) : ∀ p ∈ cellsL L a' b' c' d' e' f' g' ++ rest', p.1 ≠ I := far_cells (cells_far h) k
end
local macro_rules | `(tactic| k_all) => `(tactic| first | assumption | exact offC_ne (by assumption) (by decide) (by decide))
local macro_rules | `(tactic| walk_at "exec Assign cons ListComp") => `(tactic| (k_here; k_dflt (refine wpAny_Assign_Name ?_ (by with_unfolding_all rfl))))
section
theorem start_Lw1 : True := by w_top off; exact trivial
theorem three_lit {ta tb tc : Tok} {i : Nat} {v : Value} (h : (#[Value.int 388 ta, .int 41 tb, .int 7 tc])[i]? = some v) : (i = 0 ∨ i = 1 ∨ i = 2) ∧ ∃ x t, v = .int x t := by
  match i with
  | 0 => exact ⟨.inl rfl, 388, ta, by simpa using h.symm⟩
  | 1 => exact ⟨.inr (.inl rfl), 41, tb, by simpa using h.symm⟩
  | 2 => exact ⟨.inr (.inr rfl), 7, tc, by simpa using h.symm⟩
  | n + 3 => simp at h
theorem picked_ints {vs : List Value} {ns : List Int} (hi : IntsAre vs ns) (lo up st : Option Int) : ∃ ks, IntsAre (slicePick vs.toArray lo up st).toList ks := by
  have := IntsAre.places hi (sliceRange (sliceBounds lo up st vs.toArray.size).1 (sliceBounds lo up st vs.toArray.size).2.1 (sliceBounds lo up st vs.toArray.size).2.2)
  exact ⟨_, by unfold slicePick; simpa using this⟩
theorem sum_picked {prog : Program} {w : World} {A : Around} {E : Value → Shared → Prop} {s : Shared} {h₀ : Heap} {L l : Addr} {m : Str → Option Value} {news : List (Addr × Obj)} {vs : List Value} {ns : List Int} {lo up st : Option Int} {n : Nat} {Q : Value → Shared → Prop} (hh : A.handled = none) (F : Fr h₀ L s.heap m) (N : News h₀ L s.heap news) (hi : IntsAre vs ns)
    (hm : (l, listOf (slicePick vs.toArray lo up st) n) ∈ news) (h : ∀ k h' tk t', Fr h₀ L h' m → News h₀ L h' news → Q (.int k t') { s with heap := h', toks := tk }) :
    wpAny (model prog w) A (call (.builtin "sum") [.ref l]) Q E s := by
  obtain ⟨ks, hk⟩ := picked_ints hi lo up st
  refine sumK hh F N ?_ hk fun h' tk t' F' N' => h _ h' tk t' F' N'
  rw [Array.toArray_toList]
  exact ⟨_, (N _ hm).1, rfl, n, rfl⟩
local macro_rules | `(tactic| walk_at "call builtin:sum") => `(tactic| (k_here; k_dflt (refine sum_picked (by with_unfolding_all rfl) (by k_asm) (by k_asm) (by assumption) (by k_mem) ?_; k_whole); intro k9 h9 tk9 t9 F9 N9))
theorem heap_turn {ys : List Value} {hs : List Int} {i : Nat} {k M : Int} {t : Tok} (hM : M = 1000000000000) (j1 : IntsAre ys hs) (j2 : hs.length = i) (j3 : ∀ x ∈ hs, 0 ≤ x ∧ x < 1000000000000) :
    ∃ hs' : List Int, IntsAre (ys ++ [.int (k.fmod M) t]) hs' ∧ hs'.length = i + 1 ∧ ∀ x ∈ hs', 0 ≤ x ∧ x < 1000000000000 := by
  subst hM
  refine ⟨hs ++ [k.fmod 1000000000000], IntsAre.append j1 (.cons _ _ .nil), by rw [List.length_append, j2]; rfl, fun x hx => ?_⟩
  rcases List.mem_append.mp hx with hx | hx
  · exact j3 x hx
  · rw [List.mem_singleton.mp hx]
    exact ⟨Int.fmod_nonneg_of_pos _ (by lia), Int.fmod_lt_of_pos _ (by lia)⟩
section
variable {w : World} {mean : ExcName → Option Value} {mg mb : Str → Option Value}
  {dp un : Nat} {gd : Option (List Code)} {fa : Addr} {cd : Value} {outer : List Env}
  {A₀ : Around} {base h₀ : Heap} {L : Addr} {m : Str → Option Value} {s : Shared} {Q : Flow → Shared → Prop} {E : Value → Shared → Prop}
set_option maxHeartbeats 0 in
theorem law_heaps (oK oM oT oR oX oH oS : Obj) (rest : List (Addr × Obj)) (sc : Addr) (vs : List Value) (ns : List Int)
    (B1 : Below A₀ base outer h₀) (X1 : (K w.params).In h₀) (T1 : Top q loose mean mg mb h₀)
    (F1 : Fr h₀ L s.heap m) (N1 : News h₀ L s.heap (cellsL L oK oM oT oR oX oH oS ++ rest))
    (hS : oS.data = .cell (some (.ref sc))) (hH : oH.data = .cell none)
    (hsc : h₀.IsList sc vs.toArray) (hi : IntsAre vs ns) (hn : ns.length ≤ 63) (hoff : OffC L rest)
    (hd : dp + 20 + 20 < recursionLimit) (hu : un + 300 < cLine)
    (hret : ∀ (H : Addr) (ys : List Value) (a b c : Int) (oH' : Obj) (h' : Heap) (tk' : Nat), Fr h₀ L h' m → News h₀ L h' (cellsL L oK oM oT oR oX oH' oS ++ (H, LCg.lst ys) :: rest) → IntsAre ys [a, b, c] → oH'.data = .cell (some (.ref H)) →
      (∀ x ∈ [a, b, c], 0 ≤ x ∧ x < 1000000000000) → OffC L ((H, LCg.lst ys) :: rest) → Q .next { s with heap := h', toks := tk' }) :
    wpAny (model PySem.Challenge.rw_rw0107_01.row.prog w) (lawA dp un gd L fa cd outer) (exec (lawS 0) (lawEnv L fa cd)) Q E s := by
  dsimp only [lawS, lawBody, lawA, lawEnv]
  revert X1; k_fill; intro X1
  simp only [cellsL, List.cons_append, List.nil_append] at N1
  with_unfolding_all show wpAny _ _ (exec (Stmt.Assign _ _ _) _) _ _ _
  (try walk_at "mine:let")
  k_steps
  refine plan_enum_list (fun i ys => ∃ hs : List Int, IntsAre ys hs ∧ hs.length = i ∧ ∀ x ∈ hs, 0 ≤ x ∧ x < 1000000000000) (by rfl) (by k_asm) (by k_asm) (.inr ⟨_, by k_mem⟩) (News.isList (by k_asm) (by k_mem)) (Nat.le_of_ble_eq_true rfl) (by rfl) (by rfl) (by rfl) (by decide) ⟨[], .nil, rfl, fun _ h => nomatch h⟩ ?_ ?_
  · intro i t v ys e it oe oi C oC D m₂ h tk E' s₂ hs hc hJ hC hm1 hm2 F N
    subst hs
    obtain ⟨hi3, x, tx, rfl⟩ := three_lit hc
    show wpAny _ _ (eval _ _) _ _ _
    have hi0 : (0 : Int) ≤ i := Int.natCast_nonneg i
    have hi2 : (i : Int) ≤ 2 := by rcases hi3 with rfl | rfl | rfl <;> decide
    replace hm1 : m₂ (Str.ofString "place") = some (.int (i : Int) t) := hm1
    k_steps
    obtain ⟨hs, j1, j2, j3⟩ := hJ
    exact CDone.intro (by k_asm) (by walk_at "mine:drop") (heap_turn (by decide +kernel) j1 j2 j3)
  intro g ys hJ
  obtain ⟨hs, j1, j2, j3⟩ := hJ
  k_steps
  obtain ⟨a, b, c, rfl⟩ : ∃ a b c, hs = [a, b, c] := by
    rcases hs with _ | ⟨a, _ | ⟨b, _ | ⟨c, _ | ⟨d, r⟩⟩⟩⟩ <;> simp at j2
    exact ⟨a, b, c, rfl⟩
  rename _ = Data.cell (some (Value.ref _)) => hd9
  rename News _ _ _ _ => N9
  rename _ ∧ _ ∧ _ ∧ _ ∧ _ ∧ _ ∧ _ ∧ _ ∧ LCg.Off1 _ _ => o9
  obtain ⟨p0, p7, p6, p5, p4, p3, p2, p1, _⟩ := o9
  refine hret _ ys a b c _ _ _ (by k_asm) (news_drop N9 ?_) j1 hd9 j3 (offC_cons hoff p7 p6 p5 p4 p3 p2 p1)
  walk_at "mine:sub"
end
end
section
theorem start_Lw2 : True := by w_top off; exact trivial
noncomputable def isL (c : Nat) : Prop := c = 104 ∨ c = 112 ∨ c = 97
theorem hpa_sign {k M : Int} (hM : M = k.fmod 3) : ∃ c, isL c ∧ Txt.item (Str.ofString "hpa") M = ⟨#[c]⟩ := by
  subst hM
  have h := mod3_in k
  rcases (show k.fmod 3 = 0 ∨ k.fmod 3 = 1 ∨ k.fmod 3 = 2 by lia) with e | e | e <;> rw [e]
  · exact ⟨104, .inl rfl, by decide +kernel⟩
  · exact ⟨112, .inr (.inl rfl), by decide +kernel⟩
  · exact ⟨97, .inr (.inr rfl), by decide +kernel⟩
theorem hpa_turn {ys : List Value} {l : List Nat} {i : Nat} {y : Str} {t : Tok} (j1 : StrsAre ys (l.map fun c => ⟨#[c]⟩)) (j2 : l.length = i) (j3 : ∀ c ∈ l, isL c) (hy : ∃ c, isL c ∧ y = ⟨#[c]⟩) :
    ∃ l' : List Nat, StrsAre (ys ++ [.str y t]) (l'.map fun c => ⟨#[c]⟩) ∧ l'.length = i + 1 ∧ ∀ c ∈ l', isL c := by
  obtain ⟨c, hc, rfl⟩ := hy
  refine ⟨l ++ [c], by rw [List.map_append]; exact strs_snoc j1, by rw [List.length_append, j2]; rfl, fun x hx => ?_⟩
  rcases List.mem_append.mp hx with hx | hx
  · exact j3 x hx
  · rw [List.mem_singleton.mp hx]; exact hc
theorem join_chars (l : List Nat) : Txt.join (Str.ofString "") (l.map fun c => (⟨#[c]⟩ : Str)) = ⟨l.toArray⟩ := by
  have := join_flat (l.map fun c => [c])
  rw [List.map_map] at this
  rw [show (fun c : Nat => (⟨#[c]⟩ : Str)) = (fun x => (⟨x.toArray⟩ : Str)) ∘ (fun c : Nat => [c]) from rfl, this]
  congr 2
  clear this
  induction l with
  | nil => rfl
  | cons c r ih => simpa using ih
theorem pow_three {i : Nat} (h : i < 6) : (3 : Int) ^ (i : Int).toNat ≠ 0 ∧ 0 < (3 : Int) ^ (i : Int).toNat ∧ (3 : Int) ^ (i : Int).toNat ≤ 243 := by
  rw [Int.toNat_natCast]
  match i, h with
  | 0, _ => decide
  | 1, _ => decide
  | 2, _ => decide
  | 3, _ => decide
  | 4, _ => decide
  | 5, _ => decide
section
variable {w : World} {mean : ExcName → Option Value} {mg mb : Str → Option Value}
  {dp un : Nat} {gd : Option (List Code)} {fa : Addr} {cd : Value} {outer : List Env}
  {A₀ : Around} {base h₀ : Heap} {L : Addr} {m : Str → Option Value} {s : Shared} {Q : Flow → Shared → Prop} {E : Value → Shared → Prop}
set_option maxHeartbeats 0 in
theorem law_letters (oK oM oT oR oX oH oS : Obj) (rest : List (Addr × Obj)) (H : Addr) (a b c : Int) (ta tb tc : Tok)
    (B1 : Below A₀ base outer h₀) (X1 : (K w.params).In h₀) (T1 : Top q loose mean mg mb h₀)
    (F1 : Fr h₀ L s.heap m) (N1 : News h₀ L s.heap (cellsL L oK oM oT oR oX oH oS ++ (H, LCg.lst [.int a ta, .int b tb, .int c tc]) :: rest))
    (hH : oH.data = .cell (some (.ref H)))
    (ha : 0 ≤ a ∧ a < 1000000000000) (hoff : OffC L rest)
    (hd : dp + 20 + 20 < recursionLimit) (hu : un + 300 < cLine)
    (hret : ∀ (ls : List Nat) (tl : Tok) (h' : Heap) (tk' : Nat), Fr h₀ L h' (fun y => if y = Str.ofString "letters" then some (.str ⟨ls.toArray⟩ tl) else m y) → News h₀ L h' (cellsL L oK oM oT oR oX oH oS ++ (H, LCg.lst [.int a ta, .int b tb, .int c tc]) :: rest) →
      ls.length ≤ 6 → 0 < ls.length → (∀ c ∈ ls, isL c) → Q .next { s with heap := h', toks := tk' }) :
    wpAny (model PySem.Challenge.rw_rw0107_01.row.prog w) (lawA dp un gd L fa cd outer) (exec (lawS 1) (lawEnv L fa cd)) Q E s := by
  dsimp only [lawS, lawBody, lawA, lawEnv]
  revert X1; k_fill; intro X1
  simp only [cellsL, List.cons_append, List.nil_append] at N1
  have m6 : 0 ≤ a.fmod 6 ∧ a.fmod 6 < 6 := ⟨Int.fmod_nonneg_of_pos _ (by lia), Int.fmod_lt_of_pos _ (by lia)⟩
  with_unfolding_all show wpAny _ _ (exec (Stmt.Assign _ _ _) _) _ _ _
  (try walk_at "mine:let")
  k_steps
  rename IsRange _ _ _ _ _ _ _ _ => hr
  replace hr : IsRange _ _ 0 (a.fmod 6 + 1) 1 _ _ _ := hr
  obtain ⟨n, hn⟩ : ∃ n : Nat, a.fmod 6 + 1 = n := ⟨(a.fmod 6 + 1).toNat, by lia⟩
  rw [hn] at hr
  have hn6 : n ≤ 6 := by lia
  refine plan_range (n := n) (fun i ys => ∃ l : List Nat, StrsAre ys (l.map fun c => ⟨#[c]⟩) ∧ l.length = i ∧ ∀ c ∈ l, isL c) (by rfl) (by k_asm) (by k_asm) hr (small_one (by lia) (by lia) (by lia) (by lia)) (by rw [rangeSize_nat]; lia) (by (rw [sizeLine_eq]; lia)) (by rfl) (by rfl) ⟨[], .nil, rfl, fun _ h => nomatch h⟩ ?_ ?_
  · intro i t1 ys I oI C oC D m₂ h tk E' s₂ hs hi hJ hC hm F N
    subst hs
    show wpAny _ _ (eval _ _) _ _ _
    replace hm : m₂ (Str.ofString "place") = some (.int (0 + (i : Int)) t1) := hm
    rw [Int.zero_add] at hm
    have hi5 : (i : Int) ≤ 5 := by lia
    have hi0 : (0 : Int) ≤ i := Int.natCast_nonneg i
    obtain ⟨hp0, hp1, hp2⟩ := pow_three (show i < 6 by lia)
    k_steps
    obtain ⟨l, j1, j2, j3⟩ := hJ
    exact CDone.intro (by k_asm) (by walk_at "mine:drop") (hpa_turn j1 j2 j3 (hpa_sign rfl))
  intro g ys hJ
  obtain ⟨l, j1, j2, j3⟩ := hJ
  k_steps
  k_dflt (refine join_listW (by is_list) j1 (by decide +kernel) (weighs (b := 1) (n := 6) (fun _ _ => Nat.le_refl 1) (by lia) (by decide)) ?_)
  intro w1 kk1
  rw [join_chars]
  k_steps
  rename News _ _ _ _ => N9
  refine hret l _ _ _ (by k_asm) (news_drop N9 ?_) (by lia) (by lia) j3
  exact fun q hq => .tail _ hq
end
end
section
theorem start_Lw3 : True := by w_top off; exact trivial
theorem isL_range {c : Nat} (h : isL c) : 97 ≤ c ∧ c ≤ 122 := by rcases h with rfl | rfl | rfl <;> decide
section
variable {w : World} {mean : ExcName → Option Value} {mg mb : Str → Option Value}
  {dp un : Nat} {gd : Option (List Code)} {fa : Addr} {cd : Value} {outer : List Env}
  {A₀ : Around} {base h₀ : Heap} {L : Addr} {m : Str → Option Value} {s : Shared} {Q : Flow → Shared → Prop} {E : Value → Shared → Prop}
set_option maxHeartbeats 0 in
theorem law_words (oK oM oT oR oX oH oS : Obj) (rest : List (Addr × Obj)) (H : Addr) (a b c : Int) (ta tb tc tl : Tok) (ls : List Nat)
    (B1 : Below A₀ base outer h₀) (X1 : (K w.params).In h₀) (T1 : Top q loose mean mg mb h₀)
    (F1 : Fr h₀ L s.heap m) (N1 : News h₀ L s.heap (cellsL L oK oM oT oR oX oH oS ++ (H, LCg.lst [.int a ta, .int b tb, .int c tc]) :: rest))
    (hm : m (Str.ofString "letters") = some (.str ⟨ls.toArray⟩ tl))
    (hH : oH.data = .cell (some (.ref H)))
    (hb : 0 ≤ b ∧ b < 1000000000000) (hls : ls.length ≤ 6) (hl : ∀ c ∈ ls, isL c) (hoff : OffC L ((H, LCg.lst [.int a ta, .int b tb, .int c tc]) :: rest))
    (hd : dp + 20 + 20 < recursionLimit) (hu : un + 300 < cLine)
    (hret : ∀ (R : Addr) (wts : List Wt) (rn : Nat) (h' : Heap) (tk' : Nat), Fr h₀ L h' (fun y => if y = Str.ofString "words" then some (.ref R) else m y) →
      News h₀ L h' (cellsL L oK oM oT oR oX oH oS ++ (R, listOf (refsW wts).toArray rn) :: (wts.map Wt.obj ++ (H, LCg.lst [.int a ta, .int b tb, .int c tc]) :: rest)) → wts.map (·.w) = (wordsF 6 ls b).reverse →
      OffC L ((R, listOf (refsW wts).toArray rn) :: (wts.map Wt.obj ++ (H, LCg.lst [.int a ta, .int b tb, .int c tc]) :: rest)) → Q .next { s with heap := h', toks := tk' }) :
    wpAny (model PySem.Challenge.rw_rw0107_01.row.prog w) (lawA dp un gd L fa cd outer) (exec (lawS 2) (lawEnv L fa cd)) Q E s := by
  dsimp only [lawS, lawBody, lawA, lawEnv]
  revert X1; k_fill; intro X1
  simp only [cellsL, List.cons_append, List.nil_append] at N1
  with_unfolding_all show wpAny _ _ (exec (Stmt.Assign _ _ _) _) _ _ _
  (try walk_at "mine:let")
  k_steps
  refine t_words ls b tl _ hls (fun c hc => isL_range (hl c hc)) ⟨hb.1, Int.le_of_lt hb.2⟩ w mean mg mb _ dp un gd _ lawScope fa cd (lawCl L) outer A₀ base h₀ L m _ _ _ B1 F1 X1 N1 trivial T1 rfl (by lia) (by lia) ?_
  rintro v h5 tk5 news5 ⟨R, wts, rn, rfl, rfl, hw, hlt, hR⟩ F5 N5
  have hRR : OffC L ((R, listOf (refsW wts).toArray rn) :: (wts.map Wt.obj ++ (H, LCg.lst [.int a ta, .int b tb, .int c tc]) :: rest)) := by
    refine offC_lt ?_ (hR (L + 7, oK) (List.mem_append_right _ (.head _)))
    intro p hp i i1 i7
    rcases List.mem_append.mp hp with hp | hp
    · obtain ⟨t, ht, rfl⟩ := List.mem_map.mp hp
      exact Nat.ne_of_gt (Nat.lt_of_le_of_lt (Nat.add_le_add_left i7 L) (hlt t ht (L + 7, oK) (.head _)))
    · exact hoff p hp i i1 i7
  dsimp only
  clear N1 F1 hlt hR
  k_steps
  rename News _ _ _ _ => N9
  refine hret R wts rn _ _ (by k_asm) (news_drop N9 ?_) hw hRR
  walk_at "mine:sub"
end
end
section
/-! ### what _law_written writes, as a list of signs -/
noncomputable def hardL (ns : List Nat) (f : Int) : List Nat := if f.fmod 2 ≠ 0 then ns else if f.fmod 4 = 0 then [34, 92] else [34, 92, 32, 9, 10, 13]
noncomputable def escL (H : List Nat) (c : Nat) : List Nat := if c ∈ H then [92, c] else [c]
noncomputable def markL (f : Int) : List Nat := if f.fmod 4 < 2 then [34] else []
noncomputable def endL (f : Int) : Nat := [10, 9, 32, 13].getD ((f.fdiv 4).fmod 4).toNat 0
noncomputable def writtenL (ns : List Nat) (f : Int) : List Nat := markL f ++ ns.flatMap (escL (hardL ns f)) ++ markL f ++ [endL f]
theorem fmod_two {f : Int} (h : ¬ f.fmod 2 ≠ 0) : f.fmod 4 = 0 ∨ f.fmod 4 = 2 := by
  have h2 : f.fmod 2 = 0 := by simpa using h
  rw [Int.fmod_eq_emod_of_nonneg _ (by lia)] at h2 ⊢
  lia
theorem hard_is (ns : List Nat) (f : Int) : (hardF ns f).cps.toList = hardL ns f := by
  unfold hardF hardL
  by_cases h : f.fmod 2 ≠ 0
  · rw [if_pos h, if_pos h]
  · rw [if_neg h, if_neg h]
    have e : Str.ofString "\"\\ \t\n\r" = ⟨[34, 92, 32, 9, 10, 13].toArray⟩ := by decide +kernel
    rcases fmod_two h with h4 | h4
    · rw [h4, if_pos rfl, e]; decide +kernel
    · rw [h4, if_neg (by decide), e]; decide +kernel
theorem mark_is (f : Int) : markF f = ⟨(markL f).toArray⟩ := by
  unfold markF markL
  by_cases h : f.fmod 4 < 2
  · rw [if_pos h, if_pos h]; decide +kernel
  · rw [if_neg h, if_neg h]; decide +kernel
theorem end_is (f : Int) : endF f = ⟨[endL f].toArray⟩ := by
  unfold endF endL
  rcases mod4 (f.fdiv 4) with e | e | e | e <;> rw [e] <;> decide +kernel
theorem written_is (ns : List Nat) (f : Int) : writtenF ns f = ⟨(writtenL ns f).toArray⟩ := by
  unfold writtenF writtenL
  rw [join_esc, mark_is, end_is, hard_is, str_app, str_app, str_app]
  rfl
theorem esc_length (H ns : List Nat) : (ns.flatMap (escL H)).length ≤ 2 * ns.length := by
  induction ns with
  | nil => simp
  | cons c r ih =>
    rw [List.flatMap_cons, List.length_append, List.length_cons]
    have : (escL H c).length ≤ 2 := by unfold escL; split <;> exact Nat.le_of_ble_eq_true rfl
    lia
theorem written_length (ns : List Nat) (f : Int) : (writtenL ns f).length ≤ 2 * ns.length + 3 := by
  unfold writtenL
  simp only [List.length_append, List.length_cons, List.length_nil]
  have h1 := esc_length (hardL ns f) ns
  have h2 : (markL f).length ≤ 1 := by unfold markL; split <;> decide
  lia
theorem endL_ws (f : Int) : isWs (endL f) = true := by
  unfold endL
  rcases mod4 (f.fdiv 4) with e | e | e | e <;> rw [e] <;> decide
/-! ### get_token reads back what was written -/
theorem quo_back {H : List Nat} {R : List Nat} : ∀ l : List Nat, (∀ c ∈ l, c ∉ H → c ≠ 34 ∧ c ≠ 92) → Quo (l.flatMap (escL H) ++ 34 :: R) l R
  | [], _ => .stop
  | c :: l, h => by
    have ih := quo_back (R := R) l fun x hx => h x (List.mem_cons_of_mem _ hx)
    rw [List.flatMap_cons, List.append_assoc]
    unfold escL
    by_cases hc : c ∈ H
    · rw [if_pos hc]; exact .esc ih
    · rw [if_neg hc]; exact .one (h c List.mem_cons_self hc).1 (h c List.mem_cons_self hc).2 ih
theorem bare_back {H : List Nat} {e : Nat} {R : List Nat} (he : isWs e = true) : ∀ l : List Nat, (∀ c ∈ l, c ∉ H → isWs c = false ∧ c ≠ 92) → Bare (l.flatMap (escL H) ++ e :: R) l R
  | [], _ => .stop he
  | c :: l, h => by
    have ih := bare_back (R := R) he l fun x hx => h x (List.mem_cons_of_mem _ hx)
    rw [List.flatMap_cons, List.append_assoc]
    unfold escL
    by_cases hc : c ∈ H
    · rw [if_pos hc]; exact .esc ih
    · rw [if_neg hc]; exact .one (h c List.mem_cons_self hc).1 (h c List.mem_cons_self hc).2 ih
theorem not_six {c : Nat} (h : c ∉ [34, 92, 32, 9, 10, 13]) : isWs c = false ∧ c ≠ 34 ∧ c ≠ 92 := by
  simp only [List.mem_cons, List.not_mem_nil, or_false, not_or] at h
  unfold isWs
  simp [h]
theorem hard_ok {ns : List Nat} {f : Int} {c : Nat} (hc : c ∈ ns) (h : c ∉ hardL ns f) : (c ≠ 34 ∧ c ≠ 92) ∧ (¬ f.fmod 4 < 2 → isWs c = false) := by
  unfold hardL at h
  by_cases h2 : f.fmod 2 ≠ 0
  · rw [if_pos h2] at h; exact absurd hc h
  · rw [if_neg h2] at h
    rcases fmod_two h2 with h4 | h4
    · rw [if_pos h4] at h
      refine ⟨by simpa using h, fun hn => absurd (by rw [h4]; decide) hn⟩
    · rw [if_neg (by rw [h4]; decide)] at h
      exact ⟨(not_six h).2, fun _ => (not_six h).1⟩
theorem written_read {c : Nat} {ns T : List Nat} (f : Int) : TokR (writtenL (c :: ns) f ++ T) (c :: ns) (if f.fmod 4 < 2 then endL f :: T else T) := by
  unfold writtenL
  by_cases h : f.fmod 4 < 2
  · have hm : markL f = [34] := if_pos h
    rw [if_pos h, hm]
    simp only [List.append_assoc, List.cons_append, List.nil_append]
    exact .quo (quo_back _ fun x hx hn => (hard_ok hx hn).1)
  · have hm : markL f = [] := if_neg h
    rw [if_neg h, hm]
    simp only [List.append_assoc, List.cons_append, List.nil_append]
    have hb := bare_back (H := hardL (c :: ns) f) (R := T) (endL_ws f) ns fun x hx hn => ⟨(hard_ok (List.mem_cons_of_mem _ hx) hn).2 h, (hard_ok (List.mem_cons_of_mem _ hx) hn).1.2⟩
    rw [List.flatMap_cons, List.append_assoc]
    generalize hH : hardL (c :: ns) f = H at hb ⊢
    unfold escL
    by_cases hc : c ∈ H
    · rw [if_pos hc]; exact .esc hb
    · rw [if_neg hc]
      have := hard_ok (List.mem_cons_self (a := c) (l := ns)) (hH ▸ hc : c ∉ hardL (c :: ns) f)
      exact .one (this.2 h) this.1.1 this.1.2 hb
/-- the texts of the words, one behind the other -/
noncomputable def textR (c : Int) : Nat → List (List Nat) → List Nat
  | _, [] => []
  | j, w :: r => writtenL w (c + 5 * (j : Int)) ++ textR c (j + 1) r
/-- what is left is a text, perhaps behind a white sign -/
noncomputable def Pend (r T : List Nat) : Prop := r = T ∨ ∃ e, isWs e = true ∧ r = e :: T
theorem pend_read {r T t r' : List Nat} (h : Pend r T) (k : TokR T t r') : TokR r t r' := by
  rcases h with rfl | ⟨e, he, rfl⟩
  · exact k
  · exact .skip he k
theorem text_read {c : Int} {j : Nat} {x : Nat} {w : List Nat} {ws : List (List Nat)} {r : List Nat} (h : Pend r (textR c j ((x :: w) :: ws))) : ∃ r', TokR r (x :: w) r' ∧ Pend r' (textR c (j + 1) ws) := by
  have k : TokR (textR c j ((x :: w) :: ws)) (x :: w) (if (c + 5 * (j : Int)).fmod 4 < 2 then endL (c + 5 * (j : Int)) :: textR c (j + 1) ws else textR c (j + 1) ws) := written_read _
  refine ⟨_, pend_read h k, ?_⟩
  split
  · exact .inr ⟨_, endL_ws _, rfl⟩
  · exact .inl rfl
theorem text_end {c : Int} {j : Nat} {r : List Nat} (h : Pend r (textR c j [])) : TokR r [] [] := pend_read h .fin
theorem text_length (c : Int) {n : Nat} : ∀ (j : Nat) (ws : List (List Nat)), (∀ w ∈ ws, w.length ≤ n) → (textR c j ws).length ≤ ws.length * (2 * n + 3)
  | _, [], _ => by simp [textR]
  | j, w :: r, h => by
    have ih := text_length c (n := n) (j + 1) r fun x hx => h x (List.mem_cons_of_mem _ hx)
    have h1 := written_length w (c + 5 * (j : Int))
    have h2 := h w List.mem_cons_self
    rw [textR, List.length_append, List.length_cons, Nat.add_mul, Nat.one_mul]
    lia
theorem text_flat (c : Int) : ∀ (j : Nat) (ws : List (List Nat)), textR c j ws = ((List.range ws.length).map fun i => writtenL (ws.getD i []) (c + 5 * ((j + i : Nat) : Int))).flatten
  | _, [] => rfl
  | j, w :: r => by
    rw [textR, text_flat c (j + 1) r, List.length_cons, List.range_succ_eq_map, List.map_cons, List.map_map, List.flatten_cons]
    congr 1
    congr 1
    apply List.map_congr_left
    intro i _
    simp only [Function.comp, List.getD_cons_succ]
    congr 3
    lia
end
section
theorem start_Lw4 : True := by w_top off; exact trivial
section
variable {w : World} {mean : ExcName → Option Value} {mg mb : Str → Option Value}
  {dp un : Nat} {gd : Option (List Code)} {fa : Addr} {cd : Value} {outer : List Env}
  {A₀ : Around} {base h₀ : Heap} {L : Addr} {m : Str → Option Value} {s : Shared} {Q : Flow → Shared → Prop} {E : Value → Shared → Prop}
theorem wt_at {wts : List Wt} {i : Nat} {v : Value} (h : (refsW wts).toArray[i]? = some v) : ∃ t, wts[i]? = some t ∧ v = .ref t.a := by
  unfold refsW at h
  simp only [List.getElem?_toArray, List.getElem?_map, Option.map_eq_some_iff] at h
  obtain ⟨t, ht, e⟩ := h
  exact ⟨t, ht, e.symm⟩
theorem written_turn {wts : List Wt} {c : Int} {ys : List Value} {i : Nat} {t : Wt} {y : Str} {tk : Tok} (h : StrsAre ys ((List.range i).map fun j => writtenF ((wts.map (·.w.1)).getD j []) (c + 5 * (j : Int)))) (ht : wts[i]? = some t) (e : y = writtenF t.w.1 (c + 5 * (i : Int))) :
    StrsAre (ys ++ [.str y tk]) ((List.range (i + 1)).map fun j => writtenF ((wts.map (·.w.1)).getD j []) (c + 5 * (j : Int))) := by
  subst e
  rw [List.range_succ, List.map_append]
  have : (wts.map (·.w.1)).getD i [] = t.w.1 := by rw [List.getD_eq_getElem?_getD, List.getElem?_map, ht]; rfl
  have h2 := strs_snoc (y := writtenF t.w.1 (c + 5 * (i : Int))) (t := tk) h
  rw [List.map_cons, List.map_nil, this]
  exact h2
theorem join_written {wts : List Wt} {c : Int} : Txt.join (Str.ofString "") ((List.range wts.length).map fun j => writtenF ((wts.map (·.w.1)).getD j []) (c + 5 * (j : Int))) = ⟨(textR c 0 (wts.map (·.w.1))).toArray⟩ := by
  have h1 := join_flat ((List.range wts.length).map fun j => writtenL ((wts.map (·.w.1)).getD j []) (c + 5 * (j : Int)))
  rw [List.map_map] at h1
  rw [text_flat, List.length_map]
  rw [show (fun j : Nat => writtenF ((wts.map (·.w.1)).getD j []) (c + 5 * (j : Int))) = ((fun x => (⟨x.toArray⟩ : Str)) ∘ fun j : Nat => writtenL ((wts.map (·.w.1)).getD j []) (c + 5 * (j : Int))) from funext fun j => written_is _ _, h1]
  congr 3
  apply List.map_congr_left
  intro j _
  rw [Nat.zero_add]
theorem news_dup {h₀ h : Heap} {L : Addr} {x : Addr × Obj} {l : List (Addr × Obj)} (N : News h₀ L h l) (hx : x ∈ l) : News h₀ L h (x :: l) := fun p hp => by
  rcases List.mem_cons.mp hp with rfl | hp
  · exact N _ hx
  · exact N p hp
theorem written_nine {wts : List Wt} (h3 : ∀ t ∈ wts, t.w.1.length ≤ 3) (j : Nat) (f : Int) : (writtenF ((wts.map (·.w.1)).getD j []) f).length ≤ 9 := by
  rw [written_is, len_is]
  have h1 := written_length ((wts.map (·.w.1)).getD j []) f
  have h2 : ((wts.map (·.w.1)).getD j []).length ≤ 3 := by
    rw [List.getD_eq_getElem?_getD, List.getElem?_map]
    cases e : wts[j]? with
    | none => exact Nat.zero_le _
    | some t => exact h3 t (List.mem_of_getElem? e)
  lia
set_option maxHeartbeats 0 in
theorem law_text (oK oM oT oR oX oH oS : Obj) (rest : List (Addr × Obj)) (R H : Addr) (wts : List Wt) (rn : Nat) (a b c : Int) (ta tb tc : Tok)
    (B1 : Below A₀ base outer h₀) (X1 : (K w.params).In h₀) (T1 : Top q loose mean mg mb h₀)
    (F1 : Fr h₀ L s.heap m) (N1 : News h₀ L s.heap (cellsL L oK oM oT oR oX oH oS ++ (R, listOf (refsW wts).toArray rn) :: (H, LCg.lst [.int a ta, .int b tb, .int c tc]) :: (wts.map Wt.obj ++ rest)))
    (hm : m (Str.ofString "words") = some (.ref R))
    (hH : oH.data = .cell (some (.ref H)))
    (hc : 0 ≤ c ∧ c < 1000000000000) (hw : wts.length ≤ 6) (h3 : ∀ t ∈ wts, t.w.1.length ≤ 3)
    (hd : dp + 20 + 20 < recursionLimit) (hu : un + 300 < cLine)
    (hret : ∀ (tt : Tok) (h' : Heap) (tk' : Nat), Fr h₀ L h' (fun y => if y = Str.ofString "text" then some (.str ⟨(textR c 0 (wts.map (·.w.1))).toArray⟩ tt) else m y) →
      News h₀ L h' (cellsL L oK oM oT oR oX oH oS ++ (R, listOf (refsW wts).toArray rn) :: (H, LCg.lst [.int a ta, .int b tb, .int c tc]) :: (wts.map Wt.obj ++ rest)) → Q .next { s with heap := h', toks := tk' }) :
    wpAny (model PySem.Challenge.rw_rw0107_01.row.prog w) (lawA dp un gd L fa cd outer) (exec (lawS 3) (lawEnv L fa cd)) Q E s := by
  dsimp only [lawS, lawBody, lawA, lawEnv]
  revert X1; k_fill; intro X1
  simp only [cellsL, List.cons_append, List.nil_append] at N1
  with_unfolding_all show wpAny _ _ (exec (Stmt.Assign _ _ _) _) _ _ _
  (try walk_at "mine:let")
  k_steps
  refine plan_enum_list (its := (refsW wts).toArray) (fun i ys => StrsAre ys ((List.range i).map fun j => writtenF ((wts.map (·.w.1)).getD j []) (c + 5 * (j : Int)))) (by rfl) (by k_asm) (by k_asm) (.inr ⟨_, by k_mem⟩) (News.isList (by k_asm) (by k_mem)) (refsW_size hw) (by rfl) (by rfl) (by rfl) (by decide) .nil ?_ ?_
  · intro i t v ys e it oe oi C oC D m₂ h tk E' s₂ hs hv hJ hC hm1 hm2 F N
    subst hs
    obtain ⟨t9, ht9, rfl⟩ := wt_at hv
    have hmem := List.mem_of_getElem? ht9
    have hi6 : i < 6 := by
      have := (List.getElem?_eq_some_iff.mp ht9).1
      lia
    have hl9 : t9.w.1.length ≤ 64 := Nat.le_trans (h3 t9 hmem) (by decide)
    have N2 := news_dup (x := (t9.a, tupO #[.str ⟨t9.w.1.toArray⟩ t9.t, .str ⟨t9.w.2.1.toArray⟩ t9.u, .str ⟨t9.w.2.2.toArray⟩ t9.v])) N (by
      iterate 13 apply List.mem_cons_of_mem
      exact List.mem_append_left _ (List.mem_map_of_mem (f := Wt.obj) hmem))
    show wpAny _ _ (eval _ _) _ _ _
    clear N
    k_steps
    exact CDone.intro (by k_asm) (by walk_at "mine:drop") (written_turn hJ ht9 rfl)
  intro g ys hJ
  rw [show (refsW wts).toArray.size = wts.length by unfold refsW; simp] at hJ
  k_steps
  k_dflt (refine join_listW (by is_list) hJ (by decide +kernel) (weighs (b := 9) (n := 6) (fun j _ => written_nine h3 j _) (by rw [List.length_range]; exact hw) (by decide)) ?_)
  intro w1 kk1
  rw [join_written]
  k_steps
  rename News _ _ _ _ => N9
  refine hret _ _ _ (by k_asm) (news_drop N9 ?_)
  intro q hq
  simp only [cellsL, List.cons_append, List.nil_append, List.mem_cons] at hq ⊢
  exact .inr hq
end
end
section
theorem start_Lw5 : True := by w_top off; exact trivial
theorem lex_above {P : Params} {k : LexK} {ln : Int} {lt : Tok} {ys : List Value} {n : Nat} {ps : List Value} {pn : Nat} {c : Addr} (ok : LexOk k) (h : @LT.lt Nat _ c k.cl) : ∀ p ∈ k.objs P ln lt ys n ps pn, @LT.lt Nat _ c p.1 := by
  obtain ⟨_, _, o1, o2, o3, o4, o5, o6, o7, o8⟩ := ok
  intro p hp
  simp only [LexK.objs, List.mem_cons, List.not_mem_nil, or_false] at hp
  rcases hp with rfl | rfl | rfl | rfl | rfl | rfl | rfl | rfl | rfl <;> dsimp only <;> lia
theorem lex_offC {P : Params} {k : LexK} {ln : Int} {lt : Tok} {ys : List Value} {n : Nat} {ps : List Value} {pn : Nat} {L : Addr} {rest : List (Addr × Obj)} (ok : LexOk k) (h : @LT.lt Nat _ (L + 7) k.cl) (hr : OffC L rest) : OffC L (k.objs P ln lt ys n ps pn ++ rest) := by
  intro p hp i i1 i7
  rcases List.mem_append.mp hp with hp | hp
  · exact Nat.ne_of_gt (Nat.lt_of_le_of_lt (Nat.add_le_add_left i7 L) (lex_above ok h p hp))
  · exact hr p hp i i1 i7
theorem lex_offL {k : LexK} {rest : List (Addr × Obj)} (ok : LexOk k) (h : ∀ p ∈ rest, @LT.lt Nat _ p.1 k.cl) : OffL k rest := by
  obtain ⟨_, _, o1, o2, o3, o4, o5, o6, o7, o8⟩ := ok
  refine ⟨fun p hp => ?_, fun p hp => ?_, fun p hp => ?_⟩
  all_goals (have := h p hp; exact Nat.ne_of_lt (by lia))
theorem chs_of : ∀ {ns : List Nat} {ys : List Value}, StrsAre ys (ns.map fun c => (⟨#[c]⟩ : Str)) → Chs ys ns
  | [], _, .nil => trivial
  | _ :: _, _, .cons _ _ r => ⟨rfl, chs_of r⟩
section
variable {w : World} {mean : ExcName → Option Value} {mg mb : Str → Option Value}
  {dp un : Nat} {gd : Option (List Code)} {fa : Addr} {cd : Value} {outer : List Env}
  {A₀ : Around} {base h₀ : Heap} {L : Addr} {m : Str → Option Value} {s : Shared} {Q : Flow → Shared → Prop} {E : Value → Shared → Prop}
set_option maxHeartbeats 0 in
theorem law_lexer (oK oM oT oR oX oH oS : Obj) (rest : List (Addr × Obj)) (ns : List Nat) (tt : Tok)
    (B1 : Below A₀ base outer h₀) (X1 : (K w.params).In h₀) (T1 : Top q loose mean mg mb h₀)
    (F1 : Fr h₀ L s.heap m) (N1 : News h₀ L s.heap ((136, tabObj #[]) :: (cellsL L oK oM oT oR oX oH oS ++ rest)))
    (hm : m (Str.ofString "text") = some (.str ⟨ns.toArray⟩ tt)) (hX : oX.data = .cell none)
    (hn : ns.length ≤ 400) (hoff : OffC L rest) (h136 : ∀ p ∈ rest, p.1 ≠ 136) (hL : @LT.lt Nat _ 136 L)
    (hd : dp + 20 + 20 < recursionLimit) (hu : un + 300 < cLine)
    (hret : ∀ (k : LexK) (T : Array Value) (oX' : Obj) (lt : Tok) (ys : List Value) (n pn : Nat) (h' : Heap) (tk' : Nat), Fr h₀ L h' m →
      News h₀ L h' (cellsL L oK oM oT oR oX' oH oS ++ (k.objs w.params 1 lt ys n [] pn ++ (136, tabObj T) :: rest)) → LexOk k → Chs ys ns → oX'.data = .cell (some (.ref k.x)) →
      @LT.lt Nat _ (L + 7) k.cl → (∀ p ∈ (136, tabObj T) :: rest, @LT.lt Nat _ p.1 k.cl) → Q .next { s with heap := h', toks := tk' }) :
    wpAny (model PySem.Challenge.rw_rw0107_01.row.prog w) (lawA dp un gd L fa cd outer) (exec (lawS 4) (lawEnv L fa cd)) Q E s := by
  dsimp only [lawS, lawBody, lawA, lawEnv]
  revert X1; k_fill; intro X1
  simp only [cellsL, List.cons_append, List.nil_append] at N1
  with_unfolding_all show wpAny _ _ (exec (Stmt.Assign _ _ _) _) _ _ _
  (try walk_at "mine:let")
  k_steps
  refine t_lexer ns tt hn w mean mg mb _ dp un gd _ lawScope fa cd (lawCl L) outer A₀ base h₀ L m _ _ _ B1 F1 X1 N1 ⟨_, rfl, ?_⟩ T1 rfl (by lia) (by lia) ?_
  · intro p hp
    simp only [List.mem_cons] at hp
    rcases hp with rfl | rfl | rfl | rfl | rfl | rfl | rfl | hp
    all_goals first | exact h136 p hp | exact Nat.ne_of_gt (Nat.lt_of_lt_of_le hL (Nat.le_add_right _ _))
  rintro v h5 tk5 news5 ⟨rest', T, k, lt, ys, n, pn, e, rfl, ok, hys, rfl, hk1, hk2⟩ F5 N5
  injection e with _ e
  subst e
  have h7 : @LT.lt Nat _ (L + 7) k.cl := hk2.1
  have hr : ∀ p ∈ rest, @LT.lt Nat _ p.1 k.cl := lt_of_all hk2.2.2.2.2.2.2.2
  have hoff2 : OffC L (k.objs w.params 1 lt ys n [] pn ++ (136, tabObj T) :: rest) := lex_offC ok h7 (fun p hp i i1 i7 => by
    rcases List.mem_cons.mp hp with rfl | hp
    · exact Nat.ne_of_lt (Nat.lt_of_lt_of_le hL (Nat.le_add_right _ _))
    · exact hoff p hp i i1 i7)
  have N6 : News h₀ L h5 ((L + 7, oK) :: (L + 6, oM) :: (L + 5, oT) :: (L + 4, oR) :: (L + 3, oX) :: (L + 2, oH) :: (L + 1, oS) :: (k.objs w.params 1 lt ys n [] pn ++ (136, tabObj T) :: rest)) := news_drop N5 (by
    walk_at "mine:sub")
  clear N5 N1 F1
  k_steps
  rename _ = Data.cell (some (Value.ref _)) => hd9
  refine hret k T _ lt ys n pn _ _ (by k_asm) (by assumption) ok (chs_of hys) hd9 h7 ?_
  intro p hp
  rcases List.mem_cons.mp hp with rfl | hp
  · exact hk1
  · exact hr p hp
set_option maxHeartbeats 0 in
theorem law_row0 (oK oM oT oR oX oH oS : Obj) (rest : List (Addr × Obj))
    (B1 : Below A₀ base outer h₀) (X1 : (K w.params).In h₀) (T1 : Top q loose mean mg mb h₀)
    (F1 : Fr h₀ L s.heap m) (N1 : News h₀ L s.heap (cellsL L oK oM oT oR oX oH oS ++ rest))
    (hR : oR.data = .cell none) (hoff : OffC L rest)
    (hret : ∀ (oR' : Obj) (t : Tok) (h' : Heap) (tk' : Nat), Fr h₀ L h' m → News h₀ L h' (cellsL L oK oM oT oR' oX oH oS ++ rest) → oR'.data = .cell (some (.str ⟨([] : List Nat).toArray⟩ t)) → Q .next { s with heap := h', toks := tk' }) :
    wpAny (model PySem.Challenge.rw_rw0107_01.row.prog w) (lawA dp un gd L fa cd outer) (exec (lawS 5) (lawEnv L fa cd)) Q E s := by
  dsimp only [lawS, lawBody, lawA, lawEnv]
  revert X1; k_fill; intro X1
  simp only [cellsL, List.cons_append, List.nil_append] at N1
  with_unfolding_all show wpAny _ _ (exec (Stmt.Assign _ _ _) _) _ _ _
  (try walk_at "mine:let")
  k_steps
  rename _ = Data.cell (some (Value.str _ _)) => hd9
  rw [empty_is] at hd9
  exact hret _ _ _ _ (by k_asm) (by assumption) hd9
end
end
section
/-! ### folding -/
noncomputable def seenB (c : Nat) : Bool := !b1List.contains (c : Int)
theorem prep_nil : preparedF [] = ⟨([] : List Nat).toArray⟩ := by unfold preparedF; rw [List.filter_nil, List.map_nil]; exact join_flat []
theorem prep_flat (ns : List Nat) : preparedF ns = ⟨((ns.filter seenB).flatMap fun c => (b3F c).cps.toList).toArray⟩ := by
  unfold preparedF
  have := join_flat ((ns.filter seenB).map fun c => (b3F c).cps.toList)
  rw [List.map_map] at this
  rw [show (b3F : Nat → Str) = ((fun x => (⟨x.toArray⟩ : Str)) ∘ fun c => (b3F c).cps.toList) from funext fun c => of_list _]
  exact this
noncomputable def prepL (ns : List Nat) : List Nat := (ns.filter seenB).flatMap fun c => (b3F c).cps.toList
theorem prep_is (ns : List Nat) : preparedF ns = ⟨(prepL ns).toArray⟩ := prep_flat ns
theorem prepL_append (a b : List Nat) : prepL (a ++ b) = prepL a ++ prepL b := by unfold prepL; rw [List.filter_append, List.flatMap_append]
theorem prepL_cons (c : Nat) (b : List Nat) : prepL (c :: b) = prepL [c] ++ prepL b := prepL_append [c] b
noncomputable def folds (c : Nat) (l : List Nat) : Bool := seenB c && ((b3F c).cps.toList == l)
theorem fold_one {c : Nat} {l : List Nat} (h : folds c l = true) : prepL [c] = l := by
  unfold folds at h
  rw [Bool.and_eq_true] at h
  unfold prepL
  rw [List.filter_cons, if_pos h.1]
  simpa using h.2
theorem fold_none {c : Nat} (h : seenB c = false) : prepL [c] = [] := by
  unfold prepL
  rw [List.filter_cons, h]; rfl
theorem unseen_ok : ∀ i, i < 27 → seenB ((b1List.getD i 0).toNat) = false := by decide +kernel
theorem stray_ok : ∀ i, i < 23 → folds ((strayList.getD i 0).toNat) [(strayList.getD i 0).toNat] = true := by decide +kernel
theorem singles_ok : folds 13169 [104, 112, 97] = true ∧ folds 13184 [112, 97] = true ∧ folds 13271 [112, 104] = true ∧ folds 13259 [104, 112] = true := by decide +kernel
noncomputable def letterW (c w : Nat) : Nat := if w < 2 then c - 32 * w else 119808 + 52 * [0, 1, 2, 4, 7, 8, 9, 10, 11, 12].getD (w - 2) 0 + c - 97
theorem letters_ok : ∀ w, w < 12 → folds (letterW 104 w) [104] = true ∧ folds (letterW 112 w) [112] = true ∧ folds (letterW 97 w) [97] = true := by decide +kernel
theorem fmod_nat (f : Int) (n : Nat) (hn : 0 < n) : ∃ k : Nat, f.fmod n = k ∧ k < n := by
  have h1 := Int.fmod_nonneg_of_pos f (b := (n : Int)) (by omega)
  have h2 := Int.fmod_lt_of_pos f (b := (n : Int)) (by omega)
  exact ⟨(f.fmod n).toNat, by omega, by omega⟩
theorem unseen_not (f : Int) : seenB (unseenF f) = false := by
  obtain ⟨k, hk, hk2⟩ := fmod_nat f 27 (by omega)
  unfold unseenF
  rw [show f.fmod 27 = k from hk]
  exact unseen_ok k hk2
theorem stray_self (f : Int) : prepL [strayF f] = [strayF f] := by
  obtain ⟨k, hk, hk2⟩ := fmod_nat f 23 (by omega)
  unfold strayF
  rw [show f.fmod 23 = k from hk]
  exact fold_one (stray_ok k hk2)
theorem letterW_all : ∀ k : Nat, k < 12 → ∀ c ∈ ([104, 112, 97] : List Nat), (if (k : Int) < 2 then ((c : Int) - 32 * (k : Int) : Int).toNat else (119808 + 52 * [0, 1, 2, 4, 7, 8, 9, 10, 11, 12].getD ((k : Int) - 2).toNat 0 + (c : Int) - 97).toNat) = letterW c k := by decide +kernel
theorem letterW_is {c : Nat} (hc : isL c) (f : Int) : ∃ w, w < 12 ∧ letterF c f = letterW c w := by
  obtain ⟨k, hk, hk2⟩ := fmod_nat f 12 (by decide)
  refine ⟨k, hk2, ?_⟩
  unfold letterF
  rw [show f.fmod 12 = k from hk]
  refine letterW_all k hk2 c ?_
  rcases hc with rfl | rfl | rfl
  · exact .head _
  · exact .tail _ (.head _)
  · exact .tail _ (.tail _ (.head _))
theorem letter_fold {c : Nat} (hc : isL c) (f : Int) : prepL [letterF c f] = [c] := by
  obtain ⟨w, hw, e⟩ := letterW_is hc f
  rw [e]
  have := letters_ok w hw
  rcases hc with rfl | rfl | rfl
  · exact fold_one this.1
  · exact fold_one this.2.1
  · exact fold_one this.2.2
theorem single_fold {l : List Nat} {z : Nat} (h : singleF l = some z) : prepL [z] = l := by
  obtain ⟨h1, h2, h3, h4⟩ := singles_ok
  unfold singleF at h
  split at h
  · injection h with h; subst h; rename_i e; rw [e]; exact fold_one h1
  · split at h
    · injection h with h; subst h; rename_i e; rw [e]; exact fold_one h2
    · split at h
      · injection h with h; subst h; rename_i e; rw [e]; exact fold_one h3
      · split at h
        · injection h with h; subst h; rename_i e; rw [e]; exact fold_one h4
        · cases h
theorem head_fold {c : Nat} {r : List Nat} (hc : isL c) (f : Int) : prepL [(headF (c :: r) f).1] = (headF (c :: r) f).2 := by
  unfold headF
  split
  · rename_i z hz; exact single_fold hz
  · exact letter_fold hc _
theorem fold_pieces : ∀ {l : List (Nat × List Nat)}, (∀ q ∈ l, prepL [q.1] = q.2) → prepL (l.map (·.1)) = l.flatMap (·.2)
  | [], _ => rfl
  | q :: l, h => by
    rw [List.map_cons, prepL_cons, List.flatMap_cons, h q List.mem_cons_self, fold_pieces fun x hx => h x (List.mem_cons_of_mem _ hx)]
/-- a word's signs fold to what it means -/
theorem word_fold {c : Nat} {r : List Nat} (hc : isL c) (f : Int) : prepL (wordF (c :: r) f).1 = (wordF (c :: r) f).2.1 := by
  unfold wordF
  refine fold_pieces fun q hq => ?_
  unfold piecesF at hq
  rcases insA_mem hq with rfl | hq
  · exact stray_self f
  · rcases insA_mem hq with rfl | hq
    · exact fold_none (unseen_not f)
    · rw [List.mem_singleton.mp hq]; exact head_fold hc f
theorem word_three (c : Nat) (r : List Nat) (f : Int) : (wordF (c :: r) f).1.length = 3 := by
  have m2 := mod2_in (f.fdiv 16)
  have m3 := mod3_in (f.fdiv 32)
  have h2 : (insA ((f.fdiv 16).fmod 2).toNat (unseenF f, []) [((headF (c :: r) f).1, (headF (c :: r) f).2)]).length = 2 := insA_length (by show _ ≤ 1; omega)
  unfold wordF piecesF
  dsimp only
  rw [List.length_map, insA_length (by rw [h2]; omega), h2]
theorem head_prefix (c : Nat) (r : List Nat) (f : Int) : (headF (c :: r) f).2 = (c :: r).take (headF (c :: r) f).2.length := by
  unfold headF
  split
  · dsimp only; rw [List.length_take]
    by_cases h : (f.fmod 3 + 1).toNat ≤ (c :: r).length
    · rw [Nat.min_eq_left h]
    · rw [Nat.min_eq_right (by omega), List.take_of_length_le (by omega), List.take_of_length_le (Nat.le_refl _)]
  · rfl
/-- the words' letters, one behind the other, are the row -/
theorem words_parts : ∀ (n : Nat) (ls : List Nat) (f : Int), ls.length ≤ n → ((wordsF n ls f).map (·.2.2)).flatten = ls
  | 0, ls, _, h => by rw [List.eq_nil_of_length_eq_zero (Nat.le_zero.mp h)]; rfl
  | _ + 1, [], _, _ => rfl
  | n + 1, c :: r, f, h => by
    have hp := wordF_pos c r (formN f)
    rw [wordsF, List.map_cons, List.flatten_cons, words_parts n _ _ (by rw [List.length_drop, List.length_cons] at *; omega)]
    have e : (wordF (c :: r) (formN f)).2.2 = (c :: r).take (wordF (c :: r) (formN f)).2.2.length := head_prefix c r (formN f)
    conv => lhs; lhs; rw [e]
    exact List.take_append_drop _ _
theorem words_each {P : List Nat × List Nat × List Nat → Prop} : ∀ (n : Nat) (ls : List Nat) (f : Int), (∀ c ∈ ls, isL c) → (∀ c r f, isL c → (∀ x ∈ r, isL x) → P (wordF (c :: r) f)) → ∀ w ∈ wordsF n ls f, P w
  | 0, _, _, _, _ => fun _ h => nomatch h
  | _ + 1, [], _, _, _ => fun _ h => nomatch h
  | n + 1, c :: r, f, hl, hP => by
    intro w hw
    rw [wordsF] at hw
    rcases List.mem_cons.mp hw with rfl | hw
    · exact hP c r _ (hl c List.mem_cons_self) fun x hx => hl x (List.mem_cons_of_mem _ hx)
    · exact words_each n _ _ (fun x hx => hl x (List.mem_of_mem_drop hx)) hP w hw
theorem words_count : ∀ (n : Nat) (ls : List Nat) (f : Int), (wordsF n ls f).length ≤ n
  | 0, _, _ => Nat.le_refl _
  | _ + 1, [], _ => Nat.zero_le _
  | n + 1, c :: r, f => by rw [wordsF, List.length_cons]; exact Nat.succ_le_succ (words_count n _ _)
/-! ### images -/
theorem both_fold {x y : Nat} (h : 0 < bothF x y) : prepL [(bothF x y).toNat] = [x, y] := by
  obtain ⟨_, h2, h3, h4⟩ := singles_ok
  unfold bothF at h ⊢
  split
  · rename_i e; rw [e.1, e.2]; exact fold_one h2
  · split
    · rename_i e; rw [e.1, e.2]; exact fold_one h3
    · split
      · rename_i e; rw [e.1, e.2]; exact fold_one h4
      · rename_i a b c; rw [if_neg a, if_neg b, if_neg c] at h; cases h
theorem both_ne {x : Nat} : ¬ 0 < bothF x x := by
  unfold bothF
  rw [if_neg (by omega), if_neg (by omega), if_neg (by omega)]
  decide
theorem imageSigns_fold {x y : Nat} (hx : isL x) (hy : isL y) (f : Int) : prepL (imageSigns x y f) = if x = y then [x] else [x, y] := by
  unfold imageSigns
  split
  · rename_i h
    have hne : x ≠ y := fun e => both_ne (e ▸ h.1)
    rw [if_neg hne]; exact both_fold h.1
  · by_cases e : x = y
    · subst e; rw [if_pos rfl, if_pos rfl]; exact letter_fold hx f
    · rw [if_neg e, if_neg e, prepL_cons, letter_fold hx, letter_fold hy]; rfl
theorem image_fold {x y : Nat} (hx : isL x) (hy : isL y) (f : Int) : prepL (imageF x y f) = if x = y then [x] else [x, y] := by
  unfold imageF
  rw [prepL_append, prepL_cons, fold_none (unseen_not f), List.nil_append, ← prepL_append, List.take_append_drop]
  exact imageSigns_fold hx hy f
theorem image_three (x y : Nat) (f : Int) : (imageF x y f).length ≤ 3 := by
  have : (imageSigns x y f).length ≤ 2 := by unfold imageSigns; split; exact Nat.le_of_ble_eq_true rfl; split <;> exact Nat.le_of_ble_eq_true rfl
  unfold imageF
  rw [List.length_append, List.length_cons, ← Nat.add_assoc, ← List.length_append, List.take_append_drop]
  exact Nat.succ_le_succ this
end
local macro_rules | `(tactic| walk_at "call type:enumerate") => `(tactic| (k_here; (with_reducible show wpAny _ _ (call (Value.type "enumerate") [Value.str _ _]) _ _ _); refine hlt ?_))
section
theorem start_Lw6 : True := by w_top off; exact trivial
theorem off1_all {d : Addr} : ∀ {l : List (Addr × Obj)}, LCg.Off1 d l → ∀ p ∈ l, @Ne Nat p.1 d
  | [], _ => fun _ h => nomatch h
  | _ :: _, h => fun q hq => by
    rcases List.mem_cons.mp hq with rfl | hq
    · exact h.1
    · exact off1_all h.2 q hq
noncomputable def forSb : Stmt → List Stmt | .For _ _ b _ _ => b | _ => []
noncomputable def ifTb : Stmt → List Stmt | .If _ b _ _ => b | _ => []
/-- the inner loop's body -/
noncomputable def inS (i : Nat) : Stmt := (forSb ((forSb (lawS 6)).getD 1 default)).getD i default
/-- the images of a row's letters under x -/
noncomputable def imagesL (x : Nat) (c : Int) (row : List Nat) (n : Nat) : List (List Nat) := (List.range n).map fun j => imageF x (row.getD j 0) (c + (j : Int).fmod 3)
theorem images_turn {x : Nat} {c : Int} {row : List Nat} {ys : List Value} {i d : Nat} {y : Str} {tk : Tok} (h : StrsAre ys ((imagesL x c row i).map fun l => (⟨l.toArray⟩ : Str))) (hc : row.toArray[i]? = some d) (e : y = ⟨(imageF x d (c + (i : Int).fmod 3)).toArray⟩) :
    StrsAre (ys ++ [.str y tk]) ((imagesL x c row (i + 1)).map fun l => (⟨l.toArray⟩ : Str)) := by
  subst e
  have hd : row.getD i 0 = d := by rw [List.getD_eq_getElem?_getD]; simpa using congrArg (·.getD 0) (show row[i]? = some d by simpa using hc)
  unfold imagesL at h ⊢
  rw [List.range_succ, List.map_append, List.map_append, List.map_cons, List.map_nil, hd]
  exact strs_snoc h
section
variable {w : World} {mean : ExcName → Option Value} {mg mb : Str → Option Value}
  {dp un : Nat} {gd : Option (List Code)} {fa : Addr} {cd : Value} {outer : List Env}
  {A₀ : Around} {base h₀ : Heap} {L : Addr} {m : Str → Option Value} {s : Shared} {Q : Flow → Shared → Prop} {E : Value → Shared → Prop}
set_option maxHeartbeats 0 in
theorem in_images (oK oM oT oR oX oH oS : Obj) (rest : List (Addr × Obj)) (H : Addr) (a b c : Int) (ta tb tc tx tr : Tok) (x : Nat) (row : List Nat)
    (B1 : Below A₀ base outer h₀) (X1 : (K w.params).In h₀) (T1 : Top q loose mean mg mb h₀)
    (F1 : Fr h₀ L s.heap m) (N1 : News h₀ L s.heap (cellsL L oK oM oT oR oX oH oS ++ (H, LCg.lst [.int a ta, .int b tb, .int c tc]) :: rest))
    (hT : oT.data = .cell (some (.str ⟨#[x]⟩ tx))) (hR : oR.data = .cell (some (.str ⟨row.toArray⟩ tr))) (hH : oH.data = .cell (some (.ref H)))
    (hc : 0 ≤ c ∧ c < 1000000000000) (hx : 97 ≤ x ∧ x ≤ 122) (hr : row.length ≤ 63) (hrow : ∀ d ∈ row, 97 ≤ d ∧ d ≤ 122)
    (hd : dp + 20 + 20 < recursionLimit) (hu : un + 300 < cLine)
    (hret : ∀ (D : Addr) (ys : List Value) (h' : Heap) (tk' : Nat), Fr h₀ L h' (fun y => if y = Str.ofString "images" then some (.ref D) else m y) →
      News h₀ L h' (cellsL L oK oM oT oR oX oH oS ++ (D, LCg.lst ys) :: (H, LCg.lst [.int a ta, .int b tb, .int c tc]) :: rest) → StrsAre ys ((imagesL x c row row.length).map fun l => (⟨l.toArray⟩ : Str)) →
      (∀ p ∈ cellsL L oK oM oT oR oX oH oS ++ (H, LCg.lst [.int a ta, .int b tb, .int c tc]) :: rest, @Ne Nat p.1 D) → Q .next { s with heap := h', toks := tk' }) :
    wpAny (model PySem.Challenge.rw_rw0107_01.row.prog w) (lawA dp un gd L fa cd outer) (exec (inS 0) (lawEnv L fa cd)) Q E s := by
  dsimp only [inS, forSb, lawS, lawBody, lawA, lawEnv]
  revert X1; k_fill; intro X1
  simp only [cellsL, List.cons_append, List.nil_append] at N1
  with_unfolding_all show wpAny _ _ (exec (Stmt.Assign _ _ _) _) _ _ _
  (try walk_at "mine:let")
  k_steps
  unfold Hlt
  refine plan_enum_str (x := ⟨row.toArray⟩) (fun i ys => StrsAre ys ((imagesL x c row i).map fun l => (⟨l.toArray⟩ : Str))) (by rfl) (by k_asm) (by k_asm) (by show row.toArray.size ≤ sizeLine; rw [List.size_toArray, sizeLine_eq]; lia) (by rfl) (by rfl) (by rfl) (by decide) .nil ?_ ?_
  · intro i t d u ys e it oe oi C oC D m₂ h tk E' s₂ hs hv hJ hC hm1 hm2 F N
    subst hs
    have hd9 : 97 ≤ d ∧ d ≤ 122 := hrow d (List.mem_of_getElem? (show row[i]? = some d by simpa using hv))
    show wpAny _ _ (eval _ _) _ _ _
    k_steps
    exact CDone.intro (by k_asm) (by walk_at "mine:drop") (images_turn hJ hv rfl)
  intro g ys hJ
  rw [show (⟨row.toArray⟩ : Str).cps.size = row.length by simp] at hJ
  k_steps
  rename News _ _ _ _ => N9
  rename _ ∧ _ ∧ _ ∧ _ ∧ _ ∧ _ ∧ _ ∧ _ ∧ LCg.Off1 _ _ => o9
  have o8 : LCg.Off1 _ (cellsL L oK oM oT oR oX oH oS ++ (H, LCg.lst [.int a ta, .int b tb, .int c tc]) :: rest) := o9
  refine hret _ ys _ _ (by k_asm) (news_drop N9 ?_) hJ (off1_all o8)
  walk_at "mine:sub"
end
end
section
open PySem PySem.W PySem.Spec PySem.Calls PyProof.Rows PyProof.Rows.LCg
/-- the names, the ledger and the iterator behind a turn -/
inductive FNext (h₀ : Heap) (L I : Addr) (oI : Obj) (J : (Str → Option Value) → List (Addr × Obj) → Prop) (s s₃ : Shared) : Prop
  | mk (h' : Heap) (tk' : Nat) (m' : Str → Option Value) (l' : List (Addr × Obj)) (e : s₃ = { s with heap := h', toks := tk' }) (F : Fr h₀ L h' m') (N : News h₀ L h' ((I, oI) :: l')) (hl : ∀ p ∈ l', p.1 ≠ I) (j : J m' l') : FNext h₀ L I oI J s s₃
/-- what holds between the turns -/
inductive FInv (h₀ : Heap) (L I : Addr) (n : Nat) (St : Nat → Heap → Prop) (s : Shared) (J : Nat → (Str → Option Value) → List (Addr × Obj) → Prop) (nn : Nat) (s' : Shared) : Prop
  | mk (i : Nat) (h : Heap) (tk : Nat) (m' : Str → Option Value) (l : List (Addr × Obj)) (e1 : nn = n + 1 - i) (hi : i ≤ n) (e2 : s' = { s with heap := h, toks := tk }) (st : St i h) (F : Fr h₀ L h m') (N : News h₀ L h l) (hl : ∀ p ∈ l, p.1 ≠ I) (j : J i m' l) : FInv h₀ L I n St s J nn s'
/-- how a turn of a for ends: the iterator stands, J holds of the names and the ledger -/
noncomputable def FStep (h₀ : Heap) (L I : Addr) (oI : Obj) (J : (Str → Option Value) → List (Addr × Obj) → Prop) (s : Shared) (R : Result → Shared → Prop) (f : Flow) (s₃ : Shared) : Prop :=
  match f with
  | .next | .cont => FNext h₀ L I oI J s s₃
  | .brk => R (.ok .next) s₃
  | .ret v => R (.ok (.ret v)) s₃
theorem FStep.next {h₀ : Heap} {L I : Addr} {oI : Obj} {J : (Str → Option Value) → List (Addr × Obj) → Prop} {s : Shared} {R : Result → Shared → Prop} {h' : Heap} {tk' : Nat} {m' : Str → Option Value} {l' : List (Addr × Obj)}
    (F : Fr h₀ L h' m') (N : News h₀ L h' ((I, oI) :: l')) (hI : ∀ p ∈ l', p.1 ≠ I) (j : J m' l') : FStep h₀ L I oI J s R .next { s with heap := h', toks := tk' } := ⟨h', tk', m', l', rfl, F, N, hI, j⟩
section
variable {prog : Program} {w : World} {A : Around} {E : Value → Shared → Prop} {s : Shared} {h₀ : Heap} {L : Addr} {m : Str → Option Value} {env : Env}
theorem for_walks {target : PySem.Expr} {body : List Stmt} {R : Result → Shared → Prop} {I : Addr} {fp : List Addr} {n : Nat} {P : Nat → Value → Prop} {St : Nat → Heap → Prop} {news : List (Addr × Obj)}
    (W : Walks prog w A I fp [I] n P St) (F : Fr h₀ L s.heap m) (N : News h₀ L s.heap news) (hst : St 0 s.heap) (hI : I ≠ L ∧ h₀.get? I = none ∧ ∀ p ∈ news, p.1 ≠ I)
    (hlive : ∀ i h, St i h → ∃ o, h.get? I = some o)
    (J : Nat → (Str → Option Value) → List (Addr × Obj) → Prop)
    (hfp : ∀ b ∈ fp, b = I ∨ (∃ o, h₀.get? b = some o) ∨ ∃ o, ∀ i m' l, J i m' l → (b, o) ∈ l)
    (h0 : J 0 m news)
    (step : ∀ i v m' l h tk oI, i < n → P i v → J i m' l → (∀ p ∈ l, p.1 ≠ I) → Fr h₀ L h m' → News h₀ L h ((I, oI) :: l) →
      wpAny (model prog w) A (assign target env v) (fun _ s₂ => wpAny (model prog w) A (execs body env) (FStep h₀ L I oI (J (i + 1)) { s with heap := h, toks := tk } R) (notedBy (model prog w) A env fun e s' => R (.error e) s') s₂) (notedBy (model prog w) A env fun e s' => R (.error e) s') { s with heap := h, toks := tk })
    (hR : ∀ h' tk' m' l, J n m' l → Fr h₀ L h' m' → News h₀ L h' l → R (.ok .next) { s with heap := h', toks := tk' })
    (ht : ∀ v, letOwnedTupleGo target (.ref I) v = pure () := by intro _; rfl) :
    codeAny (model prog w) A (.forLoop target (.ref I) body [] env) R s := by
  have keepF : ∀ {h h' : Heap} {m' : Str → Option Value}, (∀ b o, b ∉ [I] → h.get? b = some o → h'.get? b = some o) → Fr h₀ L h m' → Fr h₀ L h' m' := fun {h h' m'} k F' =>
    ⟨F'.ns.at' fun o e => k L o (fun q => hI.1 (List.mem_singleton.mp q).symm) e, fun b o e => k b o (fun q => by rw [List.mem_singleton.mp q, hI.2.1] at e; cases e) (F'.keep b o e), F'.above⟩
  have keepN : ∀ {h h' : Heap} {l : List (Addr × Obj)}, (∀ b o, b ∉ [I] → h.get? b = some o → h'.get? b = some o) → (∀ p ∈ l, p.1 ≠ I) → News h₀ L h l → News h₀ L h' l := fun {h h' l} k hl N' p hp =>
    ⟨k _ _ (fun q => hl p hp (List.mem_singleton.mp q)) (N' p hp).1, (N' p hp).2⟩
  refine codeAny_forLoop (I := FInv h₀ L I n St s J) ?_ (n + 1)
    ⟨0, s.heap, s.toks, m, news, rfl, Nat.zero_le _, rfl, hst, F, N, hI.2.2, h0⟩ ht
  rintro nn s' ⟨i, h, tk, m', l, rfl, hi, rfl, st, F', N', hl, hj⟩
  by_cases hlt : i < n
  · refine W.item i _ _ _ hlt st fun v h₁ tk₁ hP st₁ hk₁ => ?_
    obtain ⟨oI, hoI⟩ := hlive _ _ st₁
    have F₁ := keepF hk₁ F'
    have N₁ := keepN hk₁ hl N'
    have N₂ : News h₀ L h₁ ((I, oI) :: l) := fun p hp => by
      rcases List.mem_cons.mp hp with rfl | hp
      · exact ⟨hoI, hI.1, hI.2.1⟩
      · exact N₁ p hp
    refine wpAny_mono (step i v m' l h₁ tk₁ oI hlt hP hj hl F₁ N₂) (fun _ s₂ h₂ => wpAny_mono h₂ (fun f s₃ h₃ => ?_) fun _ _ e => e) fun _ _ e => e
    have next : FNext h₀ L I oI (J (i + 1)) { s with heap := h₁, toks := tk₁ } s₃ → ∃ m_1, m_1 < n + 1 - i ∧ FInv h₀ L I n St s J m_1 s₃ := by
      rintro ⟨h₂, tk₂, m₂, l₂, rfl, F₂, N₃, hl₂, hj₂⟩
      refine ⟨n + 1 - (i + 1), by lia, i + 1, h₂, tk₂, m₂, l₂, rfl, hlt, rfl, ?_, F₂, fun p hp => N₃ p (List.mem_cons_of_mem _ hp), hl₂, hj₂⟩
      refine W.frame _ _ _ st₁ fun b hb o e => ?_
      rcases hfp b hb with rfl | ⟨o', e'⟩ | ⟨o', k'⟩
      · rw [hoI] at e; cases e; exact (N₃ _ List.mem_cons_self).1
      · have := F₁.keep b o' e'
        rw [e] at this; cases this
        exact F₂.keep b o e'
      · have := (N₁ _ (k' i m' l hj)).1
        rw [show h₁.get? (b, o').1 = h₁.get? b from rfl, e] at this; cases this
        exact (N₃ _ (List.mem_cons_of_mem _ (k' (i + 1) m₂ l₂ hj₂))).1
    cases f with
    | next => exact next h₃
    | cont => exact next h₃
    | brk => exact h₃
    | ret v => exact h₃
  · obtain rfl : i = n := Nat.le_antisymm hi (Nat.not_lt.mp hlt)
    refine W.done _ _ _ st fun h₁ tk₁ hk₁ => ?_
    show wpAny _ _ (execs [] env) _ _ _
    exact wpAny_pure (hR h₁ tk₁ m' l hj (keepF hk₁ F') (keepN hk₁ hl N'))
theorem for_list {target : PySem.Expr} {body : List Stmt} {Q : Result → Shared → Prop} {D : Addr} {its : List Value} {dn : Nat} {news : List (Addr × Obj)}
    (hh : A.handled = none) (F : Fr h₀ L s.heap m) (N : News h₀ L s.heap news) (J : Nat → (Str → Option Value) → List (Addr × Obj) → Prop) (hD : ∀ i m' l, J i m' l → (D, listOf its.toArray dn) ∈ l) (h0 : J 0 m news)
    (step : ∀ i v m' l h tk I oI s₁, s₁ = { s with heap := h, toks := tk } → its[i]? = some v → J i m' l → (∀ p ∈ l, p.1 ≠ I) → Fr h₀ L h m' → News h₀ L h ((I, oI) :: l) →
      wpAny (model prog w) A (assign target env v) (fun _ s₂ => wpAny (model prog w) A (execs body env) (FStep h₀ L I oI (J (i + 1)) s₁ Q) (notedBy (model prog w) A env fun e s' => Q (.error e) s') s₂) (notedBy (model prog w) A env fun e s' => Q (.error e) s') s₁)
    (hR : ∀ h' tk' m' l, J its.length m' l → Fr h₀ L h' m' → News h₀ L h' l → Q (.ok .next) { s with heap := h', toks := tk' })
    (ht : ∀ I v, letOwnedTupleGo target (.ref I) v = pure () := by intro _ _; rfl) :
    wpAny (model prog w) A (pyIter (.ref D)) (fun it s₂ => codeAny (model prog w) A (.forLoop target it body [] env) Q s₂) E s := by
  have hl := News.isList N (hD _ _ _ h0)
  have hlt : D < s.heap.objs.size := Heap.lt_size (N _ (hD _ _ _ h0)).1
  refine wpAny_pyIter_list hl ?_
  have W := Walks.list (prog := prog) (w := w) (A := A) hh s.heap.objs.size D (Nat.ne_of_lt hlt) its.toArray
  refine for_walks (n := its.length) W (F.keeps fun _ _ e => Heap.get?_push_of_some _ e) (N.grown fun _ _ e => Heap.get?_push_of_some _ e) ⟨⟨_, Heap.get?_push_size _ rfl, rfl, rfl⟩, hl.push _⟩
    ⟨Nat.ne_of_gt F.ns.lt, next_is_new F, fun p hp => Nat.ne_of_lt (Heap.lt_size (N p hp).1)⟩ (fun i h st => let ⟨o, e, _⟩ := st.1; ⟨o, e⟩) J ?_ h0 ?_ (fun h' tk' m' l hj F' N' => hR h' tk' m' l hj F' N') (fun v => ht _ v)
  · intro b hb
    rcases List.mem_cons.mp hb with h | h
    · exact .inl h
    · exact .inr (.inr ⟨_, fun i m' l hj => by rw [List.mem_singleton.mp h]; exact hD i m' l hj⟩)
  · intro i v m' l h tk oI hi hP hj hl' F' N'
    exact step i v m' l h tk _ oI _ rfl (by simpa using hP) hj hl' F' N'
theorem for_str {target : PySem.Expr} {body : List Stmt} {Q : Result → Shared → Prop} {x : Str} {tx : Tok} {news : List (Addr × Obj)}
    (hh : A.handled = none) (F : Fr h₀ L s.heap m) (N : News h₀ L s.heap news) (J : Nat → (Str → Option Value) → List (Addr × Obj) → Prop) (h0 : J 0 m news)
    (step : ∀ i c u m' l h tk I oI s₁, s₁ = { s with heap := h, toks := tk } → x.cps[i]? = some c → J i m' l → (∀ p ∈ l, p.1 ≠ I) → Fr h₀ L h m' → News h₀ L h ((I, oI) :: l) →
      wpAny (model prog w) A (assign target env (.str ⟨#[c]⟩ u)) (fun _ s₂ => wpAny (model prog w) A (execs body env) (FStep h₀ L I oI (J (i + 1)) s₁ Q) (notedBy (model prog w) A env fun e s' => Q (.error e) s') s₂) (notedBy (model prog w) A env fun e s' => Q (.error e) s') s₁)
    (hR : ∀ h' tk' m' l, J x.cps.size m' l → Fr h₀ L h' m' → News h₀ L h' l → Q (.ok .next) { s with heap := h', toks := tk' })
    (ht : ∀ I v, letOwnedTupleGo target (.ref I) v = pure () := by intro _ _; rfl) :
    wpAny (model prog w) A (pyIter (.str x tx)) (fun it s₂ => codeAny (model prog w) A (.forLoop target it body [] env) Q s₂) E s := by
  have go : ∀ (o : Obj) (St : Nat → Heap → Prop), Walks prog w A s.heap.objs.size [s.heap.objs.size] [s.heap.objs.size] x.cps.size (SignAt x) St → (∀ i h, St i h → ∃ o, h.get? s.heap.objs.size = some o) → St 0 (s.heap.push o) → codeAny (model prog w) A (.forLoop target (.ref s.heap.objs.size) body [] env) Q { s with heap := s.heap.push o } := fun o St W hl hst => by
    refine for_walks W (F.keeps fun _ _ e => Heap.get?_push_of_some _ e) (N.grown fun _ _ e => Heap.get?_push_of_some _ e) hst ⟨Nat.ne_of_gt F.ns.lt, next_is_new F, fun p hp => Nat.ne_of_lt (Heap.lt_size (N p hp).1)⟩ hl J (fun b hb => .inl (List.mem_singleton.mp hb)) h0 ?_ (fun h' tk' m' l hj F' N' => hR h' tk' m' l hj F' N') (fun v => ht _ v)
    rintro i v m' l h tk oI hi ⟨c, u, hc, rfl⟩ hj hl' F' N'
    exact step i c u m' l h tk _ oI _ rfl hc hj hl' F' N'
  cases ha : x.cps.all (· < 128)
  · exact wpAny_pyIter_wide ha (go _ _ (Walks.strWide hh _ x tx) (fun i h st => let ⟨o, e, _⟩ := st; ⟨o, e⟩) ⟨_, Heap.get?_push_size _ rfl, rfl, rfl⟩)
  · exact wpAny_pyIter_ascii ha (go _ _ (Walks.strAscii hh _ x tx) (fun i h st => let ⟨o, e, _⟩ := st; ⟨o, e⟩) ⟨_, Heap.get?_push_size _ rfl, rfl, rfl⟩)
theorem for_range {target : PySem.Expr} {body : List Stmt} {Q : Result → Shared → Prop} {r : Addr} {a b : Int} {t u v : Tok} {n : Nat} {news : List (Addr × Obj)}
    (hh : A.handled = none) (F : Fr h₀ L s.heap m) (N : News h₀ L s.heap news) (hr : IsRange s.heap r a b 1 t u v) (hsm : Builtin.Range.small a b 1 = true) (hn : Builtin.Range.rangeSize a b 1 = ((n : Nat) : Int)) (J : Nat → (Str → Option Value) → List (Addr × Obj) → Prop) (h0 : J 0 m news)
    (step : ∀ i t m' l h tk I oI s₁, s₁ = { s with heap := h, toks := tk } → i < n → J i m' l → (∀ p ∈ l, p.1 ≠ I) → Fr h₀ L h m' → News h₀ L h ((I, oI) :: l) →
      wpAny (model prog w) A (assign target env (.int (a + (i : Nat)) t)) (fun _ s₂ => wpAny (model prog w) A (execs body env) (FStep h₀ L I oI (J (i + 1)) s₁ Q) (notedBy (model prog w) A env fun e s' => Q (.error e) s') s₂) (notedBy (model prog w) A env fun e s' => Q (.error e) s') s₁)
    (hR : ∀ h' tk' m' l, J n m' l → Fr h₀ L h' m' → News h₀ L h' l → Q (.ok .next) { s with heap := h', toks := tk' })
    (ht : ∀ I v, letOwnedTupleGo target (.ref I) v = pure () := by intro _ _; rfl) :
    wpAny (model prog w) A (pyIter (.ref r)) (fun it s₂ => codeAny (model prog w) A (.forLoop target it body [] env) Q s₂) E s := by
  refine wpAny_pyIter_range hr hsm ?_
  refine for_walks (range_walks hh a n) (F.keeps fun _ _ e => Heap.get?_push_of_some _ e) (N.grown fun _ _ e => Heap.get?_push_of_some _ e) (by show IsRangeIter _ _ _ _ _; rw [hn]; simpa using Heap.get?_push_size _ rfl) ⟨Nat.ne_of_gt F.ns.lt, next_is_new F, fun p hp => Nat.ne_of_lt (Heap.lt_size (N p hp).1)⟩ (fun i h st => ⟨_, st⟩) J (fun b hb => .inl (List.mem_singleton.mp hb)) h0 ?_ (fun h' tk' m' l hj F' N' => hR h' tk' m' l hj F' N') (fun v => ht _ v)
  rintro i v m' l h tk oI hi ⟨t, rfl⟩ hj hl' F' N'
  exact step i t m' l h tk _ oI _ rfl hi hj hl' F' N'
end
end
section
theorem start_Lw7 : True := by w_top off; exact trivial
theorem ne_cell {D L : Addr} (h : ∀ i : Nat, 1 ≤ i → i ≤ 7 → @Ne Nat (L + i) D) : @Ne Nat (L + 7) D ∧ @Ne Nat (L + 6) D ∧ @Ne Nat (L + 5) D ∧ @Ne Nat (L + 4) D ∧ @Ne Nat (L + 3) D ∧ @Ne Nat (L + 2) D ∧ @Ne Nat (L + 1) D :=
  ⟨h 7 (by decide) (by decide), h 6 (by decide) (by decide), h 5 (by decide) (by decide), h 4 (by decide) (by decide), h 3 (by decide) (by decide), h 2 (by decide) (by decide), h 1 (by decide) (by decide)⟩
section
variable {w : World} {mean : ExcName → Option Value} {mg mb : Str → Option Value}
  {dp un : Nat} {gd : Option (List Code)} {fa : Addr} {cd : Value} {outer : List Env}
  {A₀ : Around} {base h₀ : Heap} {L : Addr} {m : Str → Option Value} {s : Shared} {Q : Flow → Shared → Prop} {E : Value → Shared → Prop}
set_option maxHeartbeats 0 in
theorem in_append (oK oM oT oR oX oH oS : Obj) (rest : List (Addr × Obj)) (H D : Addr) (ys : List Value) (n : Nat) (a b c : Int) (ta tb tc tx tr : Tok) (x : Nat) (row : List Nat)
    (B1 : Below A₀ base outer h₀) (X1 : (K w.params).In h₀) (T1 : Top q loose mean mg mb h₀)
    (F1 : Fr h₀ L s.heap m) (N1 : News h₀ L s.heap (cellsL L oK oM oT oR oX oH oS ++ (D, listOf ys.toArray n) :: (H, LCg.lst [.int a ta, .int b tb, .int c tc]) :: rest))
    (hm : m (Str.ofString "images") = some (.ref D))
    (hT : oT.data = .cell (some (.str ⟨#[x]⟩ tx))) (hR : oR.data = .cell (some (.str ⟨row.toArray⟩ tr))) (hH : oH.data = .cell (some (.ref H)))
    (hc : 0 ≤ c ∧ c < 1000000000000) (hx : 97 ≤ x ∧ x ≤ 122) (hr : row.length ≤ 63) (hy : ys.length ≤ 1000)
    (hD : ∀ i : Nat, 1 ≤ i → i ≤ 7 → @Ne Nat (L + i) D) (hDr : ∀ p ∈ (H, LCg.lst [.int a ta, .int b tb, .int c tc]) :: rest, p.1 ≠ D)
    (hd : dp + 20 + 20 < recursionLimit) (hu : un + 300 < cLine)
    (hret : ∀ (t : Tok) (h' : Heap) (tk' : Nat), Fr h₀ L h' m → News h₀ L h' (cellsL L oK oM oT oR oX oH oS ++ (D, listOf (ys ++ [Value.str ⟨(imageF x x (c + (row.length : Int))).toArray⟩ t]).toArray (n + 1)) :: (H, LCg.lst [.int a ta, .int b tb, .int c tc]) :: rest) → Q .next { s with heap := h', toks := tk' }) :
    wpAny (model PySem.Challenge.rw_rw0107_01.row.prog w) (lawA dp un gd L fa cd outer) (exec (inS 1) (lawEnv L fa cd)) Q E s := by
  dsimp only [inS, forSb, lawS, lawBody, lawA, lawEnv]
  revert X1; k_fill; intro X1
  simp only [cellsL, List.cons_append, List.nil_append] at N1
  obtain ⟨d7, d6, d5, d4, d3, d2, d1⟩ := ne_cell hD
  with_unfolding_all show wpAny _ _ (exec (Stmt.Expr _ _) _) _ _ _
  (try walk_at "mine:let")
  k_steps
  rename News _ _ _ _ => N9
  exact hret _ _ _ (by k_asm) N9
end
end
section
theorem start_Lw8 : True := by w_top off; exact trivial
theorem strs_at {ys : List Value} {xs : List Str} (h : StrsAre ys xs) {i : Nat} {v : Value} (hv : ys[i]? = some v) : ∃ y u, v = .str y u := by
  induction h generalizing i with
  | nil => simp at hv
  | cons x t r ih =>
    cases i with
    | zero => simp at hv; exact ⟨_, _, hv.symm⟩
    | succ i => exact ih (by simpa using hv)
/-- the names are those of m, but for one -/
noncomputable def SameBut1 (x : Str) (m m' : Str → Option Value) : Prop := ∀ y, y ≠ x → m' y = m y
theorem lex_swap {h₀ h : Heap} {L : Addr} {P : Params} {k : LexK} {ln : Int} {lt : Tok} {ys : List Value} {n : Nat} {ps : List Value} {pn : Nat} {a r : List (Addr × Obj)} (N : News h₀ L h (a ++ (k.objs P ln lt ys n ps pn ++ r))) : News h₀ L h (k.objs P ln lt ys n ps pn ++ (a ++ r)) := news_drop N (by
  walk_at "mine:sub")
theorem lex_swap' {h₀ h : Heap} {L : Addr} {P : Params} {k : LexK} {ln : Int} {lt : Tok} {ys : List Value} {n : Nat} {ps : List Value} {pn : Nat} {a r : List (Addr × Obj)} (N : News h₀ L h (k.objs P ln lt ys n ps pn ++ (a ++ r))) : News h₀ L h (a ++ (k.objs P ln lt ys n ps pn ++ r)) := news_drop N (by
  walk_at "mine:sub")
/-! the lexer's calls, wherever its objects lie on the ledger -/
section
variable {w : World} {mean : ExcName → Option Value} {mg mb : Str → Option Value}
  {dp un : Nat} {gd : Option (List Code)} {cn : Str} {cs : Scope} {a : Addr} {ccd : Value} {cl : List (Str × Addr)} {outer : List Env}
  {A₀ : Around} {base h₀ : Heap} {L : Addr} {m : Str → Option Value} {s : Shared} {Q E : Value → Shared → Prop} {k : LexK} {pre r : List (Addr × Obj)}
theorem token_at (ok : LexOk k) {ln : Int} {lt : Tok} {yr : List Value} {nn pn : Nat} {cs0 tot rfin : List Nat} (hys : Chs yr cs0) (htok : TokR cs0 tot rfin) (hlen : cs0.length ≤ 1000000)
    (B : Below A₀ base outer h₀) (F : Fr h₀ L s.heap m) (X : (K w.params).In h₀)
    (N : News h₀ L s.heap (pre ++ (k.objs w.params ln lt yr nn [] pn ++ r))) (off : OffL k (pre ++ r)) (T : Top q loose mean mg mb h₀) (hk : cs.kind = .function) (hd : dp + 20 + 12 < recursionLimit) (hu : un + 100 + 10 * 12 < cLine)
    (h : ∀ h' tk' ln' lt' yr' nn' u, Chs yr' rfin → ln' + nlI rfin = ln + nlI cs0 → Fr h₀ L h' m → News h₀ L h' (pre ++ (k.objs w.params ln' lt' yr' nn' [] pn ++ r)) → Q (.str ⟨tot.toArray⟩ u) { s with heap := h', toks := tk' }) :
    wpAny (model PySem.Challenge.rw_rw0107_01.row.prog w) (ktrTop dp un gd cn cs L a ccd cl outer) (call (.ref 120) [.ref k.x]) Q E s := by
  refine t_token k ok ln lt yr nn pn cs0 tot rfin hys htok hlen w mean mg mb _ dp un gd cn cs a ccd cl outer A₀ base h₀ L m s Q E B F X (lex_swap N) ⟨_, rfl, off⟩ T hk hd hu ?_
  rintro v h' tk' news' ⟨rest', ln', lt', ys', n', u, e, rfl, rfl, hy', hn'⟩ F' N'
  have e' := List.append_cancel_left e
  subst e'
  exact h _ _ _ _ _ _ _ hy' hn' F' (lex_swap' N')
theorem push_at (ok : LexOk k) {ln : Int} {lt : Tok} {yr ps : List Value} {nn pn : Nat} {y : Str} {u : Tok} (hps : ps.length ≤ 1000000)
    (B : Below A₀ base outer h₀) (F : Fr h₀ L s.heap m) (X : (K w.params).In h₀)
    (N : News h₀ L s.heap (pre ++ (k.objs w.params ln lt yr nn ps pn ++ r))) (off : OffL k (pre ++ r)) (T : Top q loose mean mg mb h₀) (hk : cs.kind = .function) (hd : dp + 20 + 5 < recursionLimit) (hu : un + 100 + 10 * 5 < cLine)
    (h : ∀ h' tk', Fr h₀ L h' m → News h₀ L h' (pre ++ (k.objs w.params ln lt yr nn (ps ++ [.str y u]) (pn + 1) ++ r)) → Q .none { s with heap := h', toks := tk' }) :
    wpAny (model PySem.Challenge.rw_rw0107_01.row.prog w) (ktrTop dp un gd cn cs L a ccd cl outer) (call (.ref 127) [.ref k.x, .str y u]) Q E s := by
  refine t_push k ok ln lt yr nn ps pn y u hps w mean mg mb _ dp un gd cn cs a ccd cl outer A₀ base h₀ L m s Q E B F X (lex_swap N) ⟨_, rfl, off⟩ T hk hd hu ?_
  rintro v h' tk' news' ⟨rest', e, rfl, rfl⟩ F' N'
  have e' := List.append_cancel_left e
  subst e'
  exact h _ _ F' (lex_swap' N')
theorem pop_at (ok : LexOk k) {ln : Int} {lt : Tok} {yr ps : List Value} {nn pn : Nat} {y : Value} (hps : ps.length ≤ 1000000)
    (B : Below A₀ base outer h₀) (F : Fr h₀ L s.heap m) (X : (K w.params).In h₀)
    (N : News h₀ L s.heap (pre ++ (k.objs w.params ln lt yr nn (y :: ps) pn ++ r))) (off : OffL k (pre ++ r)) (T : Top q loose mean mg mb h₀) (hk : cs.kind = .function) (hd : dp + 20 + 5 < recursionLimit) (hu : un + 100 + 10 * 5 < cLine)
    (h : ∀ h' tk', Fr h₀ L h' m → News h₀ L h' (pre ++ (k.objs w.params ln lt yr nn ps (pn + 1) ++ r)) → Q y { s with heap := h', toks := tk' }) :
    wpAny (model PySem.Challenge.rw_rw0107_01.row.prog w) (ktrTop dp un gd cn cs L a ccd cl outer) (call (.ref 120) [.ref k.x]) Q E s := by
  refine t_pop k ok ln lt yr nn y ps pn hps w mean mg mb _ dp un gd cn cs a ccd cl outer A₀ base h₀ L m s Q E B F X (lex_swap N) ⟨_, rfl, off⟩ T hk hd hu ?_
  rintro v h' tk' news' ⟨rest', e, rfl, rfl⟩ F' N'
  have e' := List.append_cancel_left e
  subst e'
  exact h _ _ F' (lex_swap' N')
end
theorem offL_app {k : LexK} {a b : List (Addr × Obj)} (ha : OffL k a) (hb : OffL k b) : OffL k (a ++ b) := by
  refine ⟨fun p hp => ?_, fun p hp => ?_, fun p hp => ?_⟩ <;> rcases List.mem_append.mp hp with hp | hp
  · exact ha.1 p hp
  · exact hb.1 p hp
  · exact ha.2.1 p hp
  · exact hb.2.1 p hp
  · exact ha.2.2 p hp
  · exact hb.2.2 p hp
theorem offL_one {k : LexK} {x : Addr × Obj} (h1 : x.1 ≠ k.pb) (h2 : x.1 ≠ k.d) (h3 : x.1 ≠ k.sl) : OffL k [x] := by
  refine ⟨fun p hp => ?_, fun p hp => ?_, fun p hp => ?_⟩ <;> rw [List.mem_singleton.mp hp]
  · exact h1
  · exact h2
  · exact h3
theorem offL_iter {P : Params} {k : LexK} {ln : Int} {lt : Tok} {ys : List Value} {n : Nat} {ps : List Value} {pn : Nat} {I : Addr} {oI : Obj} {a r : List (Addr × Obj)} (h : ∀ p ∈ a ++ (k.objs P ln lt ys n ps pn ++ r), p.1 ≠ I) : OffL k [(I, oI)] := by
  refine offL_one (x := (I, oI)) (fun e => ?_) (fun e => ?_) (fun e => ?_)
  · exact h (k.pb, listOf ps.toArray pn) (by simp [LexK.objs]) e.symm
  · exact h (k.d, dictOf (lexDict P k ln lt) 4) (by simp [LexK.objs]) e.symm
  · exact h (k.sl, listOf ys.toArray n) (by simp [LexK.objs]) e.symm
theorem lex_addrs {P : Params} {k : LexK} {ln ln' : Int} {lt lt' : Tok} {ys ys' : List Value} {n n' : Nat} {ps ps' : List Value} {pn pn' : Nat} : (k.objs P ln lt ys n ps pn).map (·.1) = (k.objs P ln' lt' ys' n' ps' pn').map (·.1) := rfl
theorem lex_ne {P : Params} {k : LexK} {ln ln' : Int} {lt lt' : Tok} {ys ys' : List Value} {n n' : Nat} {ps ps' : List Value} {pn pn' : Nat} {I : Addr} {a a' r : List (Addr × Obj)} (ha : a.map (·.1) = a'.map (·.1))
    (h : ∀ p ∈ a ++ (k.objs P ln lt ys n ps pn ++ r), p.1 ≠ I) : ∀ p ∈ a' ++ (k.objs P ln' lt' ys' n' ps' pn' ++ r), p.1 ≠ I := by
  have e : ∀ b : Addr, b ∈ (a' ++ (k.objs P ln' lt' ys' n' ps' pn' ++ r)).map (·.1) → b ≠ I := by
    intro b hb
    rw [List.map_append, List.map_append, ← ha, ← lex_addrs (ln := ln) (lt := lt) (ys := ys) (n := n) (ps := ps) (pn := pn), ← List.map_append, ← List.map_append] at hb
    obtain ⟨p, hp, rfl⟩ := List.mem_map.mp hb
    exact h p hp
  exact fun p hp => e p.1 (List.mem_map_of_mem hp)
theorem take_snoc {ys : List Value} {i : Nat} {v : Value} (h : ys[i]? = some v) : ys.take (i + 1) = ys.take i ++ [v] := by rw [List.take_add_one, h]; rfl
theorem same_set {x : Str} {v : Value} {m m' : Str → Option Value} (h : SameBut1 x m m') : SameBut1 x m (fun y => if y = x then some v else m' y) := fun y hy => (if_neg hy).trans (h y hy)
section
variable {w : World} {mean : ExcName → Option Value} {mg mb : Str → Option Value}
  {dp un : Nat} {gd : Option (List Code)} {fa : Addr} {cd : Value} {outer : List Env}
  {A₀ : Around} {base h₀ : Heap} {L : Addr} {m : Str → Option Value} {s : Shared} {Q : Flow → Shared → Prop} {E : Value → Shared → Prop}
set_option maxHeartbeats 0 in
theorem in_push (oK oM oT oR oX oH oS : Obj) (rest : List (Addr × Obj)) (k : LexK) (ok : LexOk k) (ln : Int) (lt : Tok) (yr : List Value) (nn pn : Nat) (D : Addr) (ys : List Value) (xs : List Str) (n : Nat)
    (B1 : Below A₀ base outer h₀) (X1 : (K w.params).In h₀) (T1 : Top q loose mean mg mb h₀)
    (F1 : Fr h₀ L s.heap m) (N1 : News h₀ L s.heap ((cellsL L oK oM oT oR oX oH oS ++ [(D, listOf ys.toArray n)]) ++ (k.objs w.params ln lt yr nn [] pn ++ rest)))
    (hm : m (Str.ofString "images") = some (.ref D)) (hX : oX.data = .cell (some (.ref k.x)))
    (hy : StrsAre ys xs) (hy2 : ys.length ≤ 1000)
    (hof1 : OffL k (cellsL L oK oM oT oR oX oH oS ++ [(D, listOf ys.toArray n)])) (hof2 : OffL k rest)
    (hd : dp + 20 + 20 < recursionLimit) (hu : un + 300 < cLine)
    (hret : ∀ (m' : Str → Option Value) (h' : Heap) (tk' : Nat) (pn' : Nat), SameBut1 (Str.ofString "image") m m' → Fr h₀ L h' m' → News h₀ L h' ((cellsL L oK oM oT oR oX oH oS ++ [(D, listOf ys.toArray n)]) ++ (k.objs w.params ln lt yr nn ys pn' ++ rest)) → Q .next { s with heap := h', toks := tk' }) :
    wpAny (model PySem.Challenge.rw_rw0107_01.row.prog w) (lawA dp un gd L fa cd outer) (exec (inS 2) (lawEnv L fa cd)) Q E s := by
  have stp : StopCall 127 := ⟨rfl, trivial⟩
  dsimp only [inS, forSb, lawS, lawBody, lawA, lawEnv]
  revert X1; k_fill; intro X1
  with_unfolding_all show wpAny _ _ (exec (Stmt.For _ _ _ _ _) _) _ _ _
  (try walk_at "mine:let")
  refine wpAny_For ?_
  have N2 := N1
  simp only [cellsL, LexK.objs, lexDict, List.cons_append, List.nil_append] at N2
  k_steps
  clear N2
  refine for_list (its := ys) (dn := n) (by rfl) F1 N1 (fun i m' l => SameBut1 (Str.ofString "image") m m' ∧ l = (cellsL L oK oM oT oR oX oH oS ++ [(D, listOf ys.toArray n)]) ++ (k.objs w.params ln lt yr nn (ys.take i) (pn + i) ++ rest)) (by rintro i m' l ⟨_, rfl⟩; simp) ⟨fun _ _ => rfl, by simp⟩ ?_ ?_
  · rintro i v m' l h tk I oI s₁ rfl hv ⟨hm', rfl⟩ hI F N
    obtain ⟨y, u, rfl⟩ := strs_at hy hv
    have hoI := offL_iter (oI := oI) hI
    have N3 := N
    simp only [cellsL, LexK.objs, lexDict, List.cons_append, List.nil_append] at N3
    clear N
    k_steps
    unfold Hlt
    rename Fr _ _ _ _ => F9
    rename News _ _ _ _ => N9
    have N8 : News h₀ L _ (((I, oI) :: (cellsL L oK oM oT oR oX oH oS ++ [(D, listOf ys.toArray n)])) ++ (k.objs w.params ln lt yr nn (ys.take i) (pn + i) ++ rest)) := N9
    refine push_at ok (y := y) (u := u) (by rw [List.length_take]; lia) B1 F9 X1 N8 (offL_app (offL_app hoI hof1) hof2) T1 rfl (by lia) (by lia) ?_
    clear N8 N9 F9
    intro h5 tk5 F5 N6
    rw [← take_snoc hv] at N6
    try dsimp only
    k_steps
    exact FStep.next F5 N6 (lex_ne rfl hI) ⟨same_set hm', rfl⟩
  · rintro h' tk' m' l ⟨hm', rfl⟩ F N
    rw [List.take_length] at N
    exact hret m' h' tk' _ hm' F N
end
end
section
open PySem PySem.W PySem.Spec PySem.Calls PyProof.Rows PyProof.Rows.LCg
section
variable {prog : Program} {w : World} {A : Around} {E : Value → Shared → Prop} {s : Shared} {h₀ : Heap} {L : Addr} {m : Str → Option Value} {env : Env}
theorem plan_listV {ax : Addr} {its : List Value} {dn : Nat} {elt : PySem.Expr} {y : Str} {py : Pos} {ifs : List PySem.Expr} {scope : Scope} {cl : List (Str × Addr)} {Fin : Shared → List Value → List (Addr × Obj) → Prop} {news : List (Addr × Obj)} (V : Nat → List (Addr × Obj)) (hV : ∀ i, (V i).map (·.1) = (V 0).map (·.1)) (J : Nat → List Value → Prop)
    (hh : A.handled = none) (F : Fr h₀ L s.heap m) (N : News h₀ L s.heap (V 0 ++ news)) (hax : (ax, listOf its.toArray dn) ∈ news) (hsz : its.length ≤ sizeLine) (hkind : scope.kind = .function) (hx : scope.names.lookup y = some .local) (hJ : J 0 [])
    (turn : ∀ i v ys I oI C oC D m₂ h tk (E' : Value → Shared → Prop) s₂, s₂ = { s with heap := h, toks := tk } → its[i]? = some v → J i ys → NsObj oC m₂ → m₂ y = some v → (∀ p ∈ V 0 ++ news, p.1 ≠ I ∧ p.1 ≠ C ∧ p.1 ≠ D) → Fr h₀ L h m → News h₀ L h ((I, oI) :: (C, oC) :: (D, lst ys) :: (V i ++ news)) →
      CTests prog w A ifs elt (compEnvC scope cl C env) (CDone h₀ L m s₂ ((I, oI) :: (C, oC) :: (D, lst ys) :: (V (i + 1) ++ news)) fun y => J (i + 1) (ys ++ [y]))
        (CDone h₀ L m s₂ ((I, oI) :: (C, oC) :: (D, lst ys) :: (V (i + 1) ++ news)) (fun _ => J (i + 1) ys) .none) E' s₂)
    (fin : ∀ g ys, J its.length ys → Fin { s with heap := g } ys (V its.length ++ news)) : wpAny (model prog w) A (pyIter (.ref ax)) (CPlan prog w A h₀ L m env elt (.Name y py) ifs scope cl Fin) E s := by
  have hl := News.isList N (List.mem_append_right _ hax)
  have hlt : ax < s.heap.objs.size := Heap.lt_size (N _ (List.mem_append_right _ hax)).1
  refine wpAny_pyIter_list hl ?_
  have W : Walks prog w A s.heap.objs.size [s.heap.objs.size, ax] [s.heap.objs.size] its.length (fun i v => its[i]? = some v) (fun i h => h.IsListIter s.heap.objs.size ax i ∧ h.IsList ax its.toArray) := by
    have := Walks.list (prog := prog) (w := w) (A := A) hh s.heap.objs.size ax (Nat.ne_of_lt hlt) its.toArray
    simpa using this
  refine ⟨s.heap.objs.size, _, _, [s.heap.objs.size], its.length, (fun i v _ => its[i]? = some v), _, _, news, V, J, (fun i m₃ => ∃ v, its[i]? = some v ∧ m₃ y = some v), hV, rfl, KTurns.ofWalks W (fun i v s Q E _ hQ => wpAny_pure hQ), W.self, hsz, fun C => binds_name hkind hx,
    fun i h st b hb => ?_, fun b hb => ?_, fun b hb => hb, fun b hb => ?_, ⟨⟨_, Heap.get?_push_size _ rfl, rfl, rfl⟩, hl.push _⟩, F.keeps fun _ _ e => Heap.get?_push_of_some _ e, N.grown fun _ _ e => Heap.get?_push_of_some _ e, hJ, ?_, fun ys hj => fin _ ys hj⟩
  · rw [List.mem_singleton.mp hb]; obtain ⟨o, e, _⟩ := st.1; exact ⟨o, e⟩
  · rcases List.mem_cons.mp hb with h | h
    · exact .inl (by rw [h]; exact List.mem_singleton.mpr rfl)
    · exact .inr (.inr ⟨_, by rw [List.mem_singleton.mp h]; exact hax⟩)
  · rw [List.mem_singleton.mp hb]
    exact ⟨Nat.ne_of_gt F.ns.lt, next_is_new F, fun p hp => Nat.ne_of_lt (Heap.lt_size (N p hp).1)⟩
  · intro i ys own C oC D m₂ h tk E' hi hJ' hown hC hbd hCD F' N'
    obtain ⟨v, hP, hv⟩ := hbd
    obtain ⟨oI, rfl⟩ : ∃ oI, own = [(s.heap.objs.size, oI)] := by
      clear turn F' N' fin W
      rcases own with _ | ⟨⟨a1, o1⟩, _ | ⟨p, r⟩⟩ <;> simp only [List.map_cons, List.map_nil, List.cons.injEq, reduceCtorEq, and_false, and_true] at hown
      subst hown
      exact ⟨_, rfl⟩
    exact turn i v ys _ oI C oC D m₂ h tk E' _ rfl hP hJ' hC hv (fun p hp => ⟨Nat.ne_of_lt (Heap.lt_size (N p hp).1), hCD p hp⟩) F' N'
end
end
local macro_rules | `(tactic| walk_at "compareOp NotEq ref ref") => `(tactic| (k_here; refine hlt ?_))
section
open PySem PySem.W PySem.Spec PySem.Calls PyProof.Rows PyProof.V
theorem start_Lw9 : True := by w_top off; exact trivial
theorem nt_canLayAll0 : ∀ ns : List Str, (∀ x ∈ ns, PyData.strOk x = true) → PyData.canLayAll0 (ns.map PyData.str) = true
  | [], _ => rfl
  | x :: r, h => by
    have h1 := h x List.mem_cons_self
    have h2 := nt_canLayAll0 r fun y hy => h y (List.mem_cons_of_mem _ hy)
    simp [PyData.canLayAll0, PyData.canLay0, h1, h2]
theorem nt_depthAll : ∀ ns : List Str, PyData.depthAll (ns.map PyData.str) = 0
  | [] => rfl
  | _ :: r => by simp [PyData.depthAll, PyData.depth, nt_depthAll r]
theorem nt_shaped {ns : List Str} (h : ∀ x ∈ ns, PyData.strOk x = true) : SeqAt.shaped (.list (ns.map PyData.str)) = true := by
  simp [SeqAt.shaped, PyData.canLay0, PyData.depth, nt_canLayAll0 ns h, nt_depthAll]
theorem nt_same : ∀ ns : List Str, PySem.Spec.sameAll (ns.map PyData.str) (ns.map PyData.str) = true
  | [] => by simp [PySem.Spec.sameAll]
  | a :: r => by simp [PySem.Spec.sameAll, PySem.Spec.same, nt_same r]
theorem nt_carried : ∀ {vs : List Value} {ns : List Str}, StrsAre vs ns → CarriedAll vs (ns.map PyData.str)
  | _, _, .nil => .nil
  | _, _, .cons _ t r => .cons (.str _ t) (nt_carried r)
theorem ne_texts {prog : Program} {w : World} {A : Around} {E : Value → Shared → Prop} {s : Shared} {a b : Addr} {xs ys : List Value} {ns : List Str} {Q : Value → Shared → Prop} (ha : s.heap.IsList a xs.toArray) (hb : s.heap.IsList b ys.toArray) (hi : StrsAre xs ns) (hj : StrsAre ys ns) (ok : ∀ x ∈ ns, PyData.strOk x = true) (hu : A.units + 64 < cLine) (h : Q (.bool false) s) :
    wpAny (model prog w) A (compareOp .NotEq (.ref a) (.ref b)) Q E s :=
  ne_dataH_same (reads_newData ha (nt_carried hi)) (reads_newData hb (nt_carried hj)) (nt_shaped ok) (nt_shaped ok) hu (SeqAt.noMix_of_shape (.list .str) rfl _ _ (list_map_has fun _ => rfl) (list_map_has fun _ => rfl)) (by rw [show PySem.Spec.same (.list (ns.map PyData.str)) (.list (ns.map PyData.str)) = true by simp only [PySem.Spec.same]; exact nt_same ns]; exact h)
theorem drop_at {ys : List Value} {i : Nat} {v : Value} (h : ys[i]? = some v) : ys.drop i = v :: ys.drop (i + 1) := by
  obtain ⟨hi, rfl⟩ := List.getElem?_eq_some_iff.mp h
  rw [List.drop_eq_getElem_cons hi]
section
variable {w : World} {mean : ExcName → Option Value} {mg mb : Str → Option Value}
  {dp un : Nat} {gd : Option (List Code)} {fa : Addr} {cd : Value} {outer : List Env}
  {A₀ : Around} {base h₀ : Heap} {L : Addr} {m : Str → Option Value} {s : Shared} {Q : Flow → Shared → Prop} {E : Value → Shared → Prop}
set_option maxHeartbeats 0 in
theorem in_check (oK oM oT oR oX oH oS : Obj) (rest : List (Addr × Obj)) (k : LexK) (ok : LexOk k) (ln : Int) (lt : Tok) (yr : List Value) (nn pn : Nat) (D : Addr) (ys : List Value) (xs : List Str) (n : Nat)
    (B1 : Below A₀ base outer h₀) (X1 : (K w.params).In h₀) (T1 : Top q loose mean mg mb h₀)
    (F1 : Fr h₀ L s.heap m) (N1 : News h₀ L s.heap ((cellsL L oK oM oT oR oX oH oS ++ [(D, listOf ys.toArray n)]) ++ (k.objs w.params ln lt yr nn ys pn ++ rest)))
    (hm : m (Str.ofString "images") = some (.ref D)) (hX : oX.data = .cell (some (.ref k.x)))
    (hy : StrsAre ys xs) (hy2 : ys.length ≤ 64) (hok : ∀ x ∈ xs, PyData.strOk x = true)
    (hof1 : OffL k (cellsL L oK oM oT oR oX oH oS ++ [(D, listOf ys.toArray n)])) (hof2 : OffL k rest)
    (hd : dp + 20 + 20 < recursionLimit) (hu : un + 300 < cLine)
    (hret : ∀ (h' : Heap) (tk' : Nat) (pn' : Nat), Fr h₀ L h' m → News h₀ L h' ((cellsL L oK oM oT oR oX oH oS ++ [(D, listOf ys.toArray n)]) ++ (k.objs w.params ln lt yr nn [] pn' ++ rest)) → Q .next { s with heap := h', toks := tk' }) :
    wpAny (model PySem.Challenge.rw_rw0107_01.row.prog w) (lawA dp un gd L fa cd outer) (exec (inS 3) (lawEnv L fa cd)) Q E s := by
  have stp0 : StopCall 120 := ⟨rfl, trivial⟩
  dsimp only [inS, forSb, lawS, lawBody, lawA, lawEnv]
  revert X1; k_fill; intro X1
  with_unfolding_all show wpAny _ _ (exec (Stmt.If _ _ _ _) _) _ _ _
  have N2 := N1
  simp only [cellsL, LexK.objs, lexDict, List.cons_append, List.nil_append] at N2
  (try walk_at "mine:let")
  k_steps
  clear N2
  refine plan_listV (its := ys) (dn := n) (news := (cellsL L oK oM oT oR oX oH oS ++ [(D, listOf ys.toArray n)]) ++ rest) (fun i => k.objs w.params ln lt yr nn (ys.drop i) (pn + i)) (fun i => rfl) (fun i rs => rs = ys.take i) (by rfl) F1 (lex_swap N1) (by simp) (by rw [sizeLine_eq]; lia) (by rfl) (by rfl) rfl ?_ ?_
  · intro i v rs I oI C oC D2 m₂ h tk E' s₂ hs hc hJ hC hm hI F N
    subst hs
    have N3 := N
    show wpAny _ _ (eval _ _) _ _ _
    simp only [cellsL, LexK.objs, lexDict, List.cons_append, List.nil_append] at N3
    clear N
    k_steps
    unfold Hlt
    rename Fr _ _ _ _ => F9
    rename News _ _ _ _ => N9
    have hI' : ∀ p ∈ ([] : List (Addr × Obj)) ++ (k.objs w.params ln lt yr nn (ys.drop 0) (pn + 0) ++ ((cellsL L oK oM oT oR oX oH oS ++ [(D, listOf ys.toArray n)]) ++ rest)), p.1 ≠ I ∧ p.1 ≠ C ∧ p.1 ≠ D2 := hI
    have hoI : OffL k [(I, oI), (C, oC), (D2, LCg.lst rs)] := offL_app (offL_iter fun p hp => (hI' p hp).1) (offL_app (offL_iter fun p hp => (hI' p hp).2.1) (offL_iter fun p hp => (hI' p hp).2.2))
    have N8 : News h₀ L _ ([(I, oI), (C, oC), (D2, LCg.lst rs)] ++ (k.objs w.params ln lt yr nn (ys.drop i) (pn + i) ++ ((cellsL L oK oM oT oR oX oH oS ++ [(D, listOf ys.toArray n)]) ++ rest))) := N9
    rw [drop_at hc] at N8
    refine pop_at ok (by rw [List.length_drop]; lia) B1 F9 X1 N8 (offL_app hoI (offL_app hof1 hof2)) T1 rfl (by lia) (by lia) ?_
    clear N8 N9 F9
    intro h5 tk5 F5 N5
    exact CDone.intro F5 N5 (by rw [hJ, take_snoc hc])
  intro g rs hJ
  rw [List.take_length] at hJ
  subst hJ
  k_steps
  unfold Hlt
  rename Fr _ _ _ _ => F9
  rename News _ _ _ _ => N9
  refine ne_texts (xs := rs) (ys := rs) (ns := xs) ⟨_, (N9 _ (.head _)).1, rfl, _, rfl⟩ ⟨listOf rs.toArray n, (N9 (D, listOf rs.toArray n) (by simp)).1, rfl, n, rfl⟩ hy hy hok (by show un + 64 < cLine; lia) ?_
  k_steps
  rw [List.drop_length] at N9
  refine hret _ _ (pn + rs.length) F9 (lex_swap' (a := cellsL L oK oM oT oR oX oH oS ++ [(D, listOf rs.toArray n)]) (news_drop N9 ?_))
  intro q hq
  exact List.mem_cons_of_mem _ hq
end
end
section
theorem start_Lw10 : True := by w_top off; exact trivial
theorem strs_atl {α : Type} {f : α → Str} {ys : List Value} {l : List α} (h : StrsAre ys (l.map f)) {i : Nat} {v : Value} (hv : ys[i]? = some v) : ∃ x u, l[i]? = some x ∧ v = .str (f x) u := by
  induction l generalizing ys i with
  | nil => cases h; simp at hv
  | cons x r ih =>
    cases h with
    | cons _ t h' =>
      cases i with
      | zero => simp at hv; exact ⟨x, t, rfl, hv.symm⟩
      | succ i => simpa using ih h' (by simpa using hv)
theorem map_strs {α : Type} {f : α → Str} {l : List α} {ys : List Value} {i : Nat} {x : α} {y : Str} {t : Tok} (h : StrsAre ys ((l.take i).map f)) (hx : l[i]? = some x) (e : y = f x) : StrsAre (ys ++ [.str y t]) ((l.take (i + 1)).map f) := by
  subst e
  rw [List.take_add_one, hx, List.map_append]
  exact strs_snoc h
theorem strs_len {ys : List Value} {xs : List Str} (h : StrsAre ys xs) : ys.length = xs.length := by
  induction h with
  | nil => rfl
  | cons x t r ih => simp [ih]
theorem join_prep (imgs : List (List Nat)) : Txt.join (Str.ofString "") (imgs.map preparedF) = ⟨(imgs.flatMap prepL).toArray⟩ := by
  have := join_flat (imgs.map prepL)
  rw [List.map_map] at this
  rw [show preparedF = (fun x => (⟨x.toArray⟩ : Str)) ∘ prepL from funext fun x => prep_is x, this]
  rfl
theorem prep_length (ns : List Nat) : (preparedF ns).length ≤ 4 * ns.length := by
  rw [prep_is, len_is]
  unfold prepL
  induction ns with
  | nil => simp
  | cons c r ih =>
    rw [List.filter_cons]
    split
    · rw [List.flatMap_cons, List.length_append, List.length_cons]
      have : ((b3F c).cps.toList).length ≤ 4 := b3_len c
      lia
    · rw [List.length_cons]; lia
section
variable {w : World} {mean : ExcName → Option Value} {mg mb : Str → Option Value}
  {dp un : Nat} {gd : Option (List Code)} {fa : Addr} {cd : Value} {outer : List Env}
  {A₀ : Around} {base h₀ : Heap} {L : Addr} {m : Str → Option Value} {s : Shared} {Q : Flow → Shared → Prop} {E : Value → Shared → Prop}
set_option maxHeartbeats 0 in
theorem in_row (oK oM oT oR oX oH oS : Obj) (rest : List (Addr × Obj)) (D : Addr) (ys : List Value) (imgs : List (List Nat)) (n : Nat) (v0 : Option Value)
    (B1 : Below A₀ base outer h₀) (X1 : (K w.params).In h₀) (T1 : Top q loose mean mg mb h₀)
    (F1 : Fr h₀ L s.heap m) (N1 : News h₀ L s.heap (cellsL L oK oM oT oR oX oH oS ++ (D, listOf ys.toArray n) :: rest))
    (hm : m (Str.ofString "images") = some (.ref D)) (hR : oR.data = .cell v0)
    (hy : StrsAre ys (imgs.map fun l => (⟨l.toArray⟩ : Str))) (hy2 : ys.length ≤ 64) (h3 : ∀ l ∈ imgs, l.length ≤ 3)
    (hoff : OffC L ((D, listOf ys.toArray n) :: rest))
    (hd : dp + 20 + 20 < recursionLimit) (hu : un + 300 < cLine)
    (hret : ∀ (oR' : Obj) (t : Tok) (h' : Heap) (tk' : Nat), Fr h₀ L h' m → News h₀ L h' (cellsL L oK oM oT oR' oX oH oS ++ rest) → oR'.data = .cell (some (.str ⟨(imgs.flatMap prepL).toArray⟩ t)) → Q .next { s with heap := h', toks := tk' }) :
    wpAny (model PySem.Challenge.rw_rw0107_01.row.prog w) (lawA dp un gd L fa cd outer) (exec (inS 4) (lawEnv L fa cd)) Q E s := by
  dsimp only [inS, forSb, lawS, lawBody, lawA, lawEnv]
  revert X1; k_fill; intro X1
  simp only [cellsL, List.cons_append, List.nil_append] at N1
  with_unfolding_all show wpAny _ _ (exec (Stmt.Assign _ _ _) _) _ _ _
  (try walk_at "mine:let")
  k_steps
  have hyl := strs_len hy
  rw [List.length_map] at hyl
  refine plan_list (its := ys.toArray) (fun i rs => StrsAre rs ((imgs.take i).map preparedF)) (by rfl) (by k_asm) (by k_asm) (.inr ⟨_, by k_mem⟩) (News.isList (by k_asm) (by k_mem)) (by rw [List.size_toArray, sizeLine_eq]; lia) (by rfl) (by rfl) .nil ?_ ?_
  · intro i v rs I oI C oC D2 m₂ h tk E' s₂ hs hc hJ hC hm2 F N
    subst hs
    obtain ⟨l, u, hl, rfl⟩ := strs_atl hy (show ys[i]? = some v by simpa using hc)
    have hl9 : l.length ≤ 64 := Nat.le_trans (h3 l (List.mem_of_getElem? hl)) (by decide)
    show wpAny _ _ (eval _ _) _ _ _
    k_steps
    exact CDone.intro (by k_asm) (by walk_at "mine:drop") (map_strs hJ hl rfl)
  intro g rs hJ
  rw [List.size_toArray, hyl, List.take_length] at hJ
  k_steps
  k_dflt (refine join_listW (by is_list) hJ (by decide +kernel) (weighs (b := 12) (n := 64) (fun l hl => Nat.le_trans (prep_length l) (by have := h3 l hl; lia)) (by lia) (by decide)) ?_)
  intro w1 kk1
  rw [join_prep]
  k_steps
  rename _ = Data.cell (some (Value.str _ _)) => hd9
  rename News _ _ _ _ => N9
  refine hret _ _ _ _ (by k_asm) (news_drop N9 ?_) hd9
  walk_at "mine:sub"
end
end
section
/-! ### one letter: what becomes of the row -/
noncomputable def psiL (x y : Nat) : List Nat := if x = y then [x] else [x, y]
noncomputable def rowStep (x : Nat) (row : List Nat) : List Nat := row.flatMap (psiL x) ++ [x]
noncomputable def imgsAll (x : Nat) (c : Int) (row : List Nat) : List (List Nat) := imagesL x c row row.length ++ [imageF x x (c + (row.length : Int))]
theorem images_fold {x : Nat} (hx : isL x) (c : Int) (row : List Nat) (hr : ∀ d ∈ row, isL d) : ∀ n, n ≤ row.length → (imagesL x c row n).flatMap prepL = (row.take n).flatMap (psiL x)
  | 0, _ => rfl
  | n + 1, h => by
    have ih := images_fold hx c row hr n (by lia)
    have hn : row[n]? = some row[n] := List.getElem?_eq_getElem (by lia)
    have hg : row.getD n 0 = row[n] := by rw [List.getD_eq_getElem?_getD, hn]; rfl
    unfold imagesL at ih ⊢
    rw [List.range_succ, List.map_append, List.flatMap_append, ih, List.take_add_one, hn, List.flatMap_append, List.map_cons, List.map_nil, hg]
    congr 1
    rw [List.flatMap_cons, List.flatMap_nil, List.append_nil, image_fold hx (hr _ (List.getElem_mem _))]
    simp [psiL]
theorem imgs_fold {x : Nat} (hx : isL x) (c : Int) (row : List Nat) (hr : ∀ d ∈ row, isL d) : (imgsAll x c row).flatMap prepL = rowStep x row := by
  unfold imgsAll rowStep
  rw [List.flatMap_append, images_fold hx c row hr _ (Nat.le_refl _), List.take_length, List.flatMap_cons, List.flatMap_nil, List.append_nil, image_fold hx hx, if_pos rfl]
theorem imgs_three {x : Nat} {c : Int} {row : List Nat} : ∀ l ∈ imgsAll x c row, l.length ≤ 3 := by
  intro l hl
  unfold imgsAll imagesL at hl
  rcases List.mem_append.mp hl with h | h
  · obtain ⟨j, _, rfl⟩ := List.mem_map.mp h; exact image_three ..
  · rw [List.mem_singleton.mp h]; exact image_three ..
theorem imgs_length {x : Nat} {c : Int} {row : List Nat} : (imgsAll x c row).length = row.length + 1 := by
  unfold imgsAll imagesL; rw [List.length_append, List.length_map, List.length_range]; rfl
theorem rowStep_isL {x : Nat} {row : List Nat} (hx : isL x) (hr : ∀ d ∈ row, isL d) : ∀ d ∈ rowStep x row, isL d := by
  intro d hd
  unfold rowStep at hd
  rcases List.mem_append.mp hd with h | h
  · obtain ⟨y, hy, h⟩ := List.mem_flatMap.mp h
    unfold psiL at h
    split at h
    · rw [List.mem_singleton.mp h]; exact hx
    · simp only [List.mem_cons, List.not_mem_nil, or_false] at h
      rcases h with rfl | rfl
      · exact hx
      · exact hr _ hy
  · rw [List.mem_singleton.mp h]; exact hx
theorem rowStep_length (x : Nat) (row : List Nat) : (rowStep x row).length ≤ 2 * row.length + 1 := by
  unfold rowStep
  rw [List.length_append]
  have : (row.flatMap (psiL x)).length ≤ 2 * row.length := by
    induction row with
    | nil => simp
    | cons y r ih =>
      rw [List.flatMap_cons, List.length_append, List.length_cons]
      have : (psiL x y).length ≤ 2 := by unfold psiL; split <;> exact Nat.le_of_ble_eq_true rfl
      lia
  simp only [List.length_cons, List.length_nil]
  lia
/-! the images' signs are signs -/
theorem letter_low {c : Nat} (hc : isL c) (f : Int) : letterF c f < 1114112 := by
  obtain ⟨w, hw, e⟩ := letterW_is hc f
  rw [e]
  have : ∀ w, w < 12 → letterW 104 w < 1114112 ∧ letterW 112 w < 1114112 ∧ letterW 97 w < 1114112 := by decide +kernel
  have := this w hw
  rcases hc with rfl | rfl | rfl
  · exact this.1
  · exact this.2.1
  · exact this.2.2
theorem unseen_low (f : Int) : unseenF f < 1114112 := by
  obtain ⟨k, hk, hk2⟩ := fmod_nat f 27 (by lia)
  unfold unseenF
  rw [show f.fmod 27 = k from hk]
  have : ∀ i, i < 27 → (b1List.getD i 0).toNat < 1114112 := by decide +kernel
  exact this k hk2
theorem image_low {x y : Nat} (hx : isL x) (hy : isL y) (f : Int) : ∀ c ∈ imageF x y f, c < 1114112 := by
  have hs : ∀ c ∈ imageSigns x y f, c < 1114112 := by
    intro c hc
    unfold imageSigns at hc
    split at hc
    · rw [List.mem_singleton.mp hc]; have := both_range x y; lia
    · split at hc
      · rw [List.mem_singleton.mp hc]; exact letter_low hy f
      · simp only [List.mem_cons, List.not_mem_nil, or_false] at hc
        rcases hc with rfl | rfl
        · exact letter_low hx f
        · exact letter_low hy _
  intro c hc
  unfold imageF at hc
  rcases List.mem_append.mp hc with h | h
  · exact hs c (List.mem_of_mem_take h)
  · rcases List.mem_cons.mp h with rfl | h
    · exact unseen_low f
    · exact hs c (List.mem_of_mem_drop h)
theorem imgs_ok {x : Nat} (hx : isL x) (c : Int) {row : List Nat} (hr : ∀ d ∈ row, isL d) : ∀ y ∈ (imgsAll x c row).map (fun l => (⟨l.toArray⟩ : Str)), PyData.strOk y = true := by
  intro y hy
  obtain ⟨l, hl, rfl⟩ := List.mem_map.mp hy
  have : ∀ d ∈ l, d < 1114112 := by
    unfold imgsAll imagesL at hl
    rcases List.mem_append.mp hl with h | h
    · obtain ⟨j, hj, rfl⟩ := List.mem_map.mp h
      have hj' := List.mem_range.mp hj
      refine image_low hx ?_ _
      rw [List.getD_eq_getElem?_getD, List.getElem?_eq_getElem hj']
      exact hr _ (List.getElem_mem _)
    · rw [List.mem_singleton.mp h]; exact image_low hx hx _
  unfold PyData.strOk
  simp only [List.all_toArray, List.all_eq_true, decide_eq_true_eq]
  exact this
theorem list_five {α : Type} {d : α} : ∀ {l : List α}, l.length = 5 → l = [l.getD 0 d, l.getD 1 d, l.getD 2 d, l.getD 3 d, l.getD 4 d]
  | [_, _, _, _, _], _ => rfl
noncomputable def inB : List Stmt := forSb ((forSb (lawS 6)).getD 1 default)
theorem inB_len : inB.length = 5 := by decide +kernel
theorem inB_is : inB = [inS 0, inS 1, inS 2, inS 3, inS 4] := list_five inB_len
end
section
/-- the names are those of m, but for some -/
noncomputable def SameButL (xs : List Str) (m m' : Str → Option Value) : Prop := ∀ y, y ∉ xs → m' y = m y
theorem offC_sub {L : Addr} {a b : List (Addr × Obj)} (h : OffC L a) (hs : ∀ p ∈ b, p ∈ a) : OffC L b := fun p hp => h p (hs p hp)
theorem offC_app {L : Addr} {a b : List (Addr × Obj)} (ha : OffC L a) (hb : OffC L b) : OffC L (a ++ b) := fun p hp => by
  rcases List.mem_append.mp hp with hp | hp
  · exact ha p hp
  · exact hb p hp
theorem offC_lex {P : Params} {k : LexK} {ln ln' : Int} {lt lt' : Tok} {ys ys' : List Value} {n n' : Nat} {ps ps' : List Value} {pn pn' : Nat} {L : Addr} (h : OffC L (k.objs P ln lt ys n ps pn)) : OffC L (k.objs P ln' lt' ys' n' ps' pn') := by
  intro p hp i i1 i7
  have : p.1 ∈ (k.objs P ln lt ys n ps pn).map (·.1) := by rw [lex_addrs (ln' := ln') (lt' := lt') (ys' := ys') (n' := n') (ps' := ps') (pn' := pn')]; exact List.mem_map_of_mem hp
  obtain ⟨q, hq, e⟩ := List.mem_map.mp this
  rw [← e]; exact h q hq i i1 i7
theorem offL_cells {k : LexK} {L : Addr} {oK oM oT oR oX oH oS oK' oM' oT' oR' oX' oH' oS' : Obj} (h : OffL k (cellsL L oK oM oT oR oX oH oS)) : OffL k (cellsL L oK' oM' oT' oR' oX' oH' oS') := by
  have e : (cellsL L oK' oM' oT' oR' oX' oH' oS').map (·.1) = (cellsL L oK oM oT oR oX oH oS).map (·.1) := rfl
  have g : ∀ {c : Addr}, (∀ p ∈ cellsL L oK oM oT oR oX oH oS, p.1 ≠ c) → ∀ p ∈ cellsL L oK' oM' oT' oR' oX' oH' oS', p.1 ≠ c := fun {c} h p hp => by
    have : p.1 ∈ (cellsL L oK oM oT oR oX oH oS).map (·.1) := e ▸ List.mem_map_of_mem hp
    obtain ⟨q, hq, e2⟩ := List.mem_map.mp this
    rw [← e2]; exact h q hq
  exact ⟨g h.1, g h.2.1, g h.2.2⟩
section
variable {w : World} {mean : ExcName → Option Value} {mg mb : Str → Option Value}
  {dp un : Nat} {gd : Option (List Code)} {fa : Addr} {cd : Value} {outer : List Env}
  {A₀ : Around} {base h₀ : Heap} {L : Addr} {m : Str → Option Value} {s : Shared} {Q : Flow → Shared → Prop} {E : Value → Shared → Prop}
theorem in_turn (oK oM oT oR oX oH oS : Obj) (rest : List (Addr × Obj)) (k : LexK) (ok : LexOk k) (ln : Int) (lt : Tok) (yr : List Value) (nn pn : Nat) (H : Addr) (a b c : Int) (ta tb tc tx tr : Tok) (x : Nat) (row : List Nat)
    (B1 : Below A₀ base outer h₀) (X1 : (K w.params).In h₀) (T1 : Top q loose mean mg mb h₀)
    (F1 : Fr h₀ L s.heap m) (N1 : News h₀ L s.heap (cellsL L oK oM oT oR oX oH oS ++ (k.objs w.params ln lt yr nn [] pn ++ (H, LCg.lst [.int a ta, .int b tb, .int c tc]) :: rest)))
    (hT : oT.data = .cell (some (.str ⟨#[x]⟩ tx))) (hR : oR.data = .cell (some (.str ⟨row.toArray⟩ tr))) (hX : oX.data = .cell (some (.ref k.x))) (hH : oH.data = .cell (some (.ref H)))
    (hc : 0 ≤ c ∧ c < 1000000000000) (hx : isL x) (hr : row.length ≤ 63) (hrow : ∀ d ∈ row, isL d)
    (hoff : OffC L (k.objs w.params ln lt yr nn [] pn ++ (H, LCg.lst [.int a ta, .int b tb, .int c tc]) :: rest))
    (hof1 : OffL k (cellsL L oK oM oT oR oX oH oS)) (hof2 : OffL k ((H, LCg.lst [.int a ta, .int b tb, .int c tc]) :: rest))
    (hd : dp + 20 + 20 < recursionLimit) (hu : un + 300 < cLine)
    (hret : ∀ (m' : Str → Option Value) (oR' : Obj) (t : Tok) (h' : Heap) (tk' : Nat) (pn' : Nat), SameButL [Str.ofString "images", Str.ofString "image"] m m' → Fr h₀ L h' m' →
      News h₀ L h' (cellsL L oK oM oT oR' oX oH oS ++ (k.objs w.params ln lt yr nn [] pn' ++ (H, LCg.lst [.int a ta, .int b tb, .int c tc]) :: rest)) → oR'.data = .cell (some (.str ⟨(rowStep x row).toArray⟩ t)) → Q .next { s with heap := h', toks := tk' }) :
    wpAny (model PySem.Challenge.rw_rw0107_01.row.prog w) (lawA dp un gd L fa cd outer) (execs inB (lawEnv L fa cd)) Q E s := by
  rw [inB_is]
  have hrow' : ∀ d ∈ row, 97 ≤ d ∧ d ≤ 122 := fun d h => isL_range (hrow d h)
  refine wpAny_execs_cons (in_images oK oM oT oR oX oH oS (k.objs w.params ln lt yr nn [] pn ++ rest) H a b c ta tb tc tx tr x row B1 X1 T1 F1 (news_drop N1 ?_) hT hR hH hc (isL_range hx) hr hrow' hd hu ?_)
  · walk_at "mine:sub"
  intro D ys h1 tk1 F2 N2 hys hD
  have hDc : ∀ i : Nat, 1 ≤ i → i ≤ 7 → @Ne Nat (L + i) D := fun i i1 i7 => by
    have : i = 1 ∨ i = 2 ∨ i = 3 ∨ i = 4 ∨ i = 5 ∨ i = 6 ∨ i = 7 := by lia
    rcases this with rfl | rfl | rfl | rfl | rfl | rfl | rfl
    · exact hD (L + 1, oS) (by simp)
    · exact hD (L + 2, oH) (by simp)
    · exact hD (L + 3, oX) (by simp)
    · exact hD (L + 4, oR) (by simp)
    · exact hD (L + 5, oT) (by simp)
    · exact hD (L + 6, oM) (by simp)
    · exact hD (L + 7, oK) (by simp)
  have hDr : ∀ p ∈ (H, LCg.lst [.int a ta, .int b tb, .int c tc]) :: (k.objs w.params ln lt yr nn [] pn ++ rest), p.1 ≠ D := fun p hp => hD p (List.mem_append_right _ hp)
  have hyl : ys.length = row.length := by
    have := strs_len hys
    rw [this, List.length_map]; unfold imagesL; rw [List.length_map, List.length_range]
  refine wpAny_execs_cons (in_append oK oM oT oR oX oH oS (k.objs w.params ln lt yr nn [] pn ++ rest) H D ys ys.length a b c ta tb tc tx tr x row (s := { s with heap := h1, toks := tk1 }) B1 X1 T1 F2 N2 (if_pos rfl) hT hR hH hc (isL_range hx) hr (by lia) hDc hDr hd hu ?_)
  intro t1 h2 tk2 F3 N3
  have hys2 : StrsAre (ys ++ [Value.str ⟨(imageF x x (c + (row.length : Int))).toArray⟩ t1]) ((imgsAll x c row).map fun l => (⟨l.toArray⟩ : Str)) := by
    unfold imgsAll
    rw [List.map_append, List.map_cons, List.map_nil]
    exact strs_snoc hys
  generalize hzs : ys ++ [Value.str ⟨(imageF x x (c + (row.length : Int))).toArray⟩ t1] = zs at hys2 N3
  have hzl : zs.length ≤ 64 := by rw [strs_len hys2, List.length_map, imgs_length]; lia
  have hofD : OffL k [(D, listOf zs.toArray (ys.length + 1))] := offL_iter (P := w.params) (ln := ln) (lt := lt) (ys := yr) (n := nn) (ps := []) (pn := pn) (a := [(H, LCg.lst [.int a ta, .int b tb, .int c tc])]) (r := rest) hDr
  have hof3 : OffL k (cellsL L oK oM oT oR oX oH oS ++ [(D, listOf zs.toArray (ys.length + 1))]) := offL_app hof1 hofD
  refine wpAny_execs_cons (in_push oK oM oT oR oX oH oS ((H, LCg.lst [.int a ta, .int b tb, .int c tc]) :: rest) k ok ln lt yr nn pn D zs _ (ys.length + 1) (s := { s with heap := h2, toks := tk2 }) B1 X1 T1 F3 (news_drop N3 ?_) (if_pos rfl) hX hys2 (by lia) hof3 hof2 hd hu ?_)
  · walk_at "mine:sub"
  intro m4 h4 tk4 pn4 hm4 F4 N4
  have hm4D : m4 (Str.ofString "images") = some (.ref D) := (hm4 _ (by decide +kernel)).trans (if_pos rfl)
  refine wpAny_execs_cons (in_check oK oM oT oR oX oH oS ((H, LCg.lst [.int a ta, .int b tb, .int c tc]) :: rest) k ok ln lt yr nn pn4 D zs _ (ys.length + 1) (s := { s with heap := h4, toks := tk4 }) B1 X1 T1 F4 N4 hm4D hX hys2 hzl (imgs_ok hx c hrow) hof3 hof2 hd hu ?_)
  intro h5 tk5 pn5 F5 N5
  refine wpAny_execs_cons (in_row oK oM oT oR oX oH oS (k.objs w.params ln lt yr nn [] pn5 ++ (H, LCg.lst [.int a ta, .int b tb, .int c tc]) :: rest) D zs (imgsAll x c row) (ys.length + 1) _ (s := { s with heap := h5, toks := tk5 }) B1 X1 T1 F5 (by rw [List.append_assoc] at N5; exact N5) hm4D hR hys2 hzl imgs_three ?_ hd hu ?_)
  · refine offC_app (a := [(D, listOf zs.toArray (ys.length + 1))]) ?_ (offC_app (offC_lex (offC_sub hoff fun p hp => List.mem_append_left _ hp)) (offC_sub hoff fun p hp => List.mem_append_right _ hp))
    intro p hp i i1 i7
    rw [List.mem_singleton.mp hp]
    exact (hDc i i1 i7).symm
  intro oR6 t6 h6 tk6 F6 N6 hR6
  rw [imgs_fold hx c row hrow] at hR6
  refine wpAny_execs_nil (hret m4 oR6 t6 h6 tk6 pn5 ?_ F6 N6 hR6)
  intro y hy
  simp only [List.mem_cons, List.not_mem_nil, or_false, not_or] at hy
  exact (hm4 y hy.2).trans (if_neg hy.1)
end
end
section
theorem start_Lw13 : True := by w_top off; exact trivial
noncomputable def letFor : Stmt := (forSb (lawS 6)).getD 1 default
noncomputable def rowFold (xs row : List Nat) : List Nat := xs.foldl (fun r x => rowStep x r) row
theorem rowFold_snoc (xs : List Nat) (x : Nat) (row : List Nat) : rowFold (xs ++ [x]) row = rowStep x (rowFold xs row) := by unfold rowFold; rw [List.foldl_append]; rfl
theorem rowFold_isL {xs : List Nat} : ∀ {row : List Nat}, (∀ x ∈ xs, isL x) → (∀ d ∈ row, isL d) → ∀ d ∈ rowFold xs row, isL d := by
  induction xs with
  | nil => intro row _ h; exact h
  | cons x r ih => intro row hx h; exact ih (fun y hy => hx y (List.mem_cons_of_mem _ hy)) (rowStep_isL (hx x List.mem_cons_self) h)
theorem take_snocN {l : List Nat} {i c : Nat} (h : l[i]? = some c) : l.take (i + 1) = l.take i ++ [c] := by rw [List.take_add_one, h]; rfl
section
variable {w : World} {mean : ExcName → Option Value} {mg mb : Str → Option Value}
  {dp un : Nat} {gd : Option (List Code)} {fa : Addr} {cd : Value} {outer : List Env}
  {A₀ : Around} {base h₀ : Heap} {L : Addr} {m : Str → Option Value} {s : Shared} {Q : Flow → Shared → Prop} {E : Value → Shared → Prop}
set_option maxHeartbeats 0 in
theorem word_letters (oK oM oT oR oX oH oS : Obj) (rest : List (Addr × Obj)) (k : LexK) (ok : LexOk k) (ln : Int) (lt : Tok) (yr : List Value) (nn pn : Nat) (H : Addr) (a b c : Int) (ta tb tc tr tp : Tok) (p row : List Nat) (v0 : Option Value)
    (B1 : Below A₀ base outer h₀) (X1 : (K w.params).In h₀) (T1 : Top q loose mean mg mb h₀)
    (F1 : Fr h₀ L s.heap m) (N1 : News h₀ L s.heap (cellsL L oK oM oT oR oX oH oS ++ (k.objs w.params ln lt yr nn [] pn ++ (H, LCg.lst [.int a ta, .int b tb, .int c tc]) :: rest)))
    (hm : m (Str.ofString "part") = some (.str ⟨p.toArray⟩ tp))
    (hT : oT.data = .cell v0) (hR : oR.data = .cell (some (.str ⟨row.toArray⟩ tr))) (hX : oX.data = .cell (some (.ref k.x))) (hH : oH.data = .cell (some (.ref H)))
    (hc : 0 ≤ c ∧ c < 1000000000000) (hp : ∀ x ∈ p, isL x) (hpl : p.length ≤ 6) (hrow : ∀ d ∈ row, isL d) (hr : ∀ i, i ≤ p.length → (rowFold (p.reverse.take i) row).length ≤ 63)
    (hoff : OffC L (k.objs w.params ln lt yr nn [] pn ++ (H, LCg.lst [.int a ta, .int b tb, .int c tc]) :: rest))
    (hof1 : OffL k (cellsL L oK oM oT oR oX oH oS)) (hof2 : OffL k ((H, LCg.lst [.int a ta, .int b tb, .int c tc]) :: rest))
    (hd : dp + 20 + 20 < recursionLimit) (hu : un + 300 < cLine)
    (hret : ∀ (m' : Str → Option Value) (oT' oR' : Obj) (v1 : Option Value) (t : Tok) (h' : Heap) (tk' : Nat) (pn' : Nat), SameButL [Str.ofString "images", Str.ofString "image"] m m' → Fr h₀ L h' m' →
      News h₀ L h' (cellsL L oK oM oT' oR' oX oH oS ++ (k.objs w.params ln lt yr nn [] pn' ++ (H, LCg.lst [.int a ta, .int b tb, .int c tc]) :: rest)) → oT'.data = .cell v1 → oR'.data = .cell (some (.str ⟨(rowFold p.reverse row).toArray⟩ t)) → Q .next { s with heap := h', toks := tk' }) :
    wpAny (model PySem.Challenge.rw_rw0107_01.row.prog w) (lawA dp un gd L fa cd outer) (exec letFor (lawEnv L fa cd)) Q E s := by
  have stp : StopLen 5 := ⟨trivial, rfl⟩
  dsimp only [letFor, forSb, lawS, lawBody, lawA, lawEnv]
  revert X1; k_fill; intro X1
  with_unfolding_all show wpAny _ _ (exec (Stmt.For _ _ _ _ _) _) _ _ _
  (try walk_at "mine:let")
  refine wpAny_For ?_
  k_steps
  rename Fr _ _ _ _ => F2
  rename News _ _ _ _ => N2
  rw [slice_rev_is]

  refine for_str (x := ⟨p.reverse.toArray⟩) (by rfl) F2 N2 (fun i m' l => SameButL [Str.ofString "images", Str.ofString "image"] m m' ∧ ∃ oT' oR' v1 t pn', l = cellsL L oK oM oT' oR' oX oH oS ++ (k.objs w.params ln lt yr nn [] pn' ++ (H, LCg.lst [.int a ta, .int b tb, .int c tc]) :: rest) ∧ oT'.data = .cell v1 ∧ oR'.data = .cell (some (.str ⟨(rowFold (p.reverse.take i) row).toArray⟩ t)))
    ⟨fun _ _ => rfl, oT, oR, v0, tr, pn, rfl, hT, hR⟩ ?_ ?_
  · rintro i x u m' l h tk I oI s₁ rfl hv ⟨hm', oT', oR', v1, t, pn', rfl, hT', hR'⟩ hI F N
    have hv' : p.reverse[i]? = some x := by simpa using hv
    have hxm : x ∈ p := List.mem_reverse.mp (List.mem_of_getElem? hv')
    have hil : i < p.length := by
      have := (List.getElem?_eq_some_iff.mp hv').1
      simpa using this
    have hII : OffC L [(I, oI)] := offC_iter hI
    have hIL : OffL k [(I, oI)] := offL_iter (a := cellsL L oK oM oT' oR' oX oH oS) (oI := oI) hI
    have hoff2 : OffC L (k.objs w.params ln lt yr nn [] pn' ++ (H, LCg.lst [.int a ta, .int b tb, .int c tc]) :: (I, oI) :: rest) := by
      refine offC_app (offC_lex (offC_sub hoff fun q hq => List.mem_append_left _ hq)) (offC_sub (offC_app hII (offC_sub hoff fun q hq => List.mem_append_right _ hq)) ?_)
      walk_at "mine:sub"
    have N3 : News h₀ L h ((L + 7, oK) :: (L + 6, oM) :: (L + 5, oT') :: (L + 4, oR') :: (L + 3, oX) :: (L + 2, oH) :: (L + 1, oS) :: (k.objs w.params ln lt yr nn [] pn' ++ (H, LCg.lst [.int a ta, .int b tb, .int c tc]) :: (I, oI) :: rest)) := news_drop N (by
      walk_at "mine:sub")
    clear N N2 F2
    k_steps
    unfold Hlt
    rename Fr _ _ _ _ => F4
    rename News _ _ _ _ => N4
    rename _ = Data.cell (some (Value.str { cps := #[x] } _)) => hd9
    rename Obj => o9
    refine in_turn oK oM o9 oR' oX oH oS ((I, oI) :: rest) k ok ln lt yr nn pn' H a b c ta tb tc u t x (rowFold (p.reverse.take i) row) B1 X1 T1 F4 N4 hd9 hR' hX hH hc (hp x hxm) (hr i (Nat.le_of_lt hil))
      (rowFold_isL (fun y hy => hp y (List.mem_reverse.mp (List.mem_of_mem_take hy))) hrow) hoff2 (offL_cells hof1) ?_ hd hu ?_
    · refine offL_app (a := [(H, LCg.lst [.int a ta, .int b tb, .int c tc])]) ?_ (offL_app (a := [(I, oI)]) hIL ?_)
      · exact ⟨fun q hq => hof2.1 q (by simpa using .inl (List.mem_singleton.mp hq)), fun q hq => hof2.2.1 q (by simpa using .inl (List.mem_singleton.mp hq)), fun q hq => hof2.2.2 q (by simpa using .inl (List.mem_singleton.mp hq))⟩
      · exact ⟨fun q hq => hof2.1 q (List.mem_cons_of_mem _ hq), fun q hq => hof2.2.1 q (List.mem_cons_of_mem _ hq), fun q hq => hof2.2.2 q (List.mem_cons_of_mem _ hq)⟩
    · intro m6 oR6 t6 h6 tk6 pn6 hm6 F6 N6 hR6
      refine FStep.next F6 (l' := cellsL L oK oM o9 oR6 oX oH oS ++ (k.objs w.params ln lt yr nn [] pn6 ++ (H, LCg.lst [.int a ta, .int b tb, .int c tc]) :: rest)) (news_drop N6 ?_) (lex_ne (a := cellsL L oK oM oT' oR' oX oH oS) rfl hI) ⟨fun y hy => (hm6 y hy).trans (hm' y hy), o9, oR6, _, t6, pn6, rfl, hd9, ?_⟩
      · walk_at "mine:sub"
      · rw [take_snocN hv', rowFold_snoc]; exact hR6
  · rintro h' tk' m' l ⟨hm', oT', oR', v1, t, pn', rfl, hT', hR'⟩ F N
    have e : (⟨p.reverse.toArray⟩ : Str).cps.size = p.reverse.length := by simp
    rw [e, List.take_length] at hR'
    exact hret m' oT' oR' v1 t h' tk' pn' hm' F N hT' hR'
end
end
section
theorem start_Lw14 : True := by w_top off; exact trivial
noncomputable def wordIf : Stmt := (forSb (lawS 6)).getD 0 default
section
variable {w : World} {mean : ExcName → Option Value} {mg mb : Str → Option Value}
  {dp un : Nat} {gd : Option (List Code)} {fa : Addr} {cd : Value} {outer : List Env}
  {A₀ : Around} {base h₀ : Heap} {L : Addr} {m : Str → Option Value} {s : Shared} {Q : Flow → Shared → Prop} {E : Value → Shared → Prop}
set_option maxHeartbeats 0 in
theorem word_check (oK oM oT oR oX oH oS : Obj) (rest : List (Addr × Obj)) (k : LexK) (ok : LexOk k) (ln : Int) (lt : Tok) (yr : List Value) (nn pn : Nat) (cs0 rfin tok mea : List Nat) (t1 t2 : Tok)
    (B1 : Below A₀ base outer h₀) (X1 : (K w.params).In h₀) (T1 : Top q loose mean mg mb h₀)
    (F1 : Fr h₀ L s.heap m) (N1 : News h₀ L s.heap (cellsL L oK oM oT oR oX oH oS ++ (k.objs w.params ln lt yr nn [] pn ++ rest)))
    (hm1 : m (Str.ofString "token") = some (.str ⟨tok.toArray⟩ t1)) (hm2 : m (Str.ofString "meant") = some (.str ⟨mea.toArray⟩ t2))
    (hX : oX.data = .cell (some (.ref k.x)))
    (hch : Chs yr cs0) (htr : TokR cs0 tok rfin) (hcs : cs0.length ≤ 1000000) (hfold : prepL tok = mea) (htl : tok.length ≤ 64)
    (hof1 : OffL k (cellsL L oK oM oT oR oX oH oS)) (hof2 : OffL k rest)
    (hd : dp + 20 + 20 < recursionLimit) (hu : un + 300 < cLine)
    (hret : ∀ (ln' : Int) (lt' : Tok) (yr' : List Value) (nn' : Nat) (h' : Heap) (tk' : Nat), Fr h₀ L h' m → News h₀ L h' (cellsL L oK oM oT oR oX oH oS ++ (k.objs w.params ln' lt' yr' nn' [] pn ++ rest)) → Chs yr' rfin → ln' + nlI rfin = ln + nlI cs0 → Q .next { s with heap := h', toks := tk' }) :
    wpAny (model PySem.Challenge.rw_rw0107_01.row.prog w) (lawA dp un gd L fa cd outer) (exec wordIf (lawEnv L fa cd)) Q E s := by
  have stp : StopCall 120 := ⟨rfl, trivial⟩
  dsimp only [wordIf, forSb, lawS, lawBody, lawA, lawEnv]
  revert X1; k_fill; intro X1
  with_unfolding_all show wpAny _ _ (exec (Stmt.If _ _ _ _) _) _ _ _
  have N2 := N1
  simp only [cellsL, LexK.objs, lexDict, List.cons_append, List.nil_append] at N2
  (try walk_at "mine:let")
  k_steps
  unfold Hlt
  clear N2
  refine token_at ok hch htr hcs B1 F1 X1 N1 (offL_app hof1 hof2) T1 rfl (by lia) (by lia) ?_
  clear N1 F1
  intro h5 tk5 ln5 lt5 yr5 nn5 u5 hch5 hnl5 F5 N6
  k_steps
  · rename _ = true => hx
    exfalso; simp at hx
  · rename _ = true => hx
    rw [prep_is, hfold] at hx
    exfalso; simp at hx
  · rename Fr _ _ _ _ => F7
    rename News _ _ _ _ => N7
    exact hret ln5 lt5 yr5 nn5 _ _ F7 N7 hch5 hnl5
end
end
section
open PySem PySem.W PySem.Spec PySem.Calls PyProof.Rows PyProof.Rows.LCg
section
variable {prog : Program} {w : World} {A : Around} {E : Value → Shared → Prop} {s : Shared} {h₀ : Heap} {L : Addr} {m : Str → Option Value} {env : Env}
theorem for_walksG {target : PySem.Expr} {body : List Stmt} {R : Result → Shared → Prop} {I : Addr} {fp : List Addr} {n : Nat} {P : Nat → Value → Prop} {St : Nat → Heap → Prop} {news : List (Addr × Obj)}
    (W : Walks prog w A I fp [I] n P St) (F : Fr h₀ L s.heap m) (N : News h₀ L s.heap news) (hst : St 0 s.heap) (hI : I ≠ L ∧ h₀.get? I = none ∧ ∀ p ∈ news, p.1 ≠ I)
    (hlive : ∀ i h, St i h → ∃ o, h.get? I = some o)
    (J : Nat → (Str → Option Value) → List (Addr × Obj) → Prop)
    (hfp : ∀ b ∈ fp, b = I ∨ (∃ o, h₀.get? b = some o) ∨ ∃ o, ∀ i m' l, J i m' l → (b, o) ∈ l)
    (h0 : J 0 m news)
    (step : ∀ i v m' l h tk oI, i < n → P i v → J i m' l → (∀ p ∈ l, p.1 ≠ I) → Fr h₀ L h m' → News h₀ L h ((I, oI) :: l) →
      wpAny (model prog w) A (assign target env v) (fun _ s₂ => wpAny (model prog w) A (execs body env) (FStep h₀ L I oI (J (i + 1)) { s with heap := h, toks := tk } R) (notedBy (model prog w) A env fun e s' => R (.error e) s') s₂) (notedBy (model prog w) A env fun e s' => R (.error e) s') { s with heap := h, toks := tk })
    (hR : ∀ h' tk' m' l, J n m' l → Fr h₀ L h' m' → News h₀ L h' l → R (.ok .next) { s with heap := h', toks := tk' })
    (ht : ∀ i v (s' : Shared) (Q' : Unit → Shared → Prop) (E' : Value → Shared → Prop), P i v → St (i + 1) s'.heap → Q' () s' → wpAny (model prog w) A (letOwnedTupleGo target (.ref I) v) Q' E' s') :
    codeAny (model prog w) A (.forLoop target (.ref I) body [] env) R s := by
  have keepF : ∀ {h h' : Heap} {m' : Str → Option Value}, (∀ b o, b ∉ [I] → h.get? b = some o → h'.get? b = some o) → Fr h₀ L h m' → Fr h₀ L h' m' := fun {h h' m'} k F' =>
    ⟨F'.ns.at' fun o e => k L o (fun q => hI.1 (List.mem_singleton.mp q).symm) e, fun b o e => k b o (fun q => by rw [List.mem_singleton.mp q, hI.2.1] at e; cases e) (F'.keep b o e), F'.above⟩
  have keepN : ∀ {h h' : Heap} {l : List (Addr × Obj)}, (∀ b o, b ∉ [I] → h.get? b = some o → h'.get? b = some o) → (∀ p ∈ l, p.1 ≠ I) → News h₀ L h l → News h₀ L h' l := fun {h h' l} k hl N' p hp =>
    ⟨k _ _ (fun q => hl p hp (List.mem_singleton.mp q)) (N' p hp).1, (N' p hp).2⟩
  refine codeAny_forLoop_any (I := FInv h₀ L I n St s J) ?_ (n + 1)
    ⟨0, s.heap, s.toks, m, news, rfl, Nat.zero_le _, rfl, hst, F, N, hI.2.2, h0⟩
  rintro nn s' ⟨i, h, tk, m', l, rfl, hi, rfl, st, F', N', hl, hj⟩
  by_cases hlt : i < n
  · refine W.item i _ _ _ hlt st fun v h₁ tk₁ hP st₁ hk₁ => ?_
    obtain ⟨oI, hoI⟩ := hlive _ _ st₁
    have F₁ := keepF hk₁ F'
    have N₁ := keepN hk₁ hl N'
    have N₂ : News h₀ L h₁ ((I, oI) :: l) := fun p hp => by
      rcases List.mem_cons.mp hp with rfl | hp
      · exact ⟨hoI, hI.1, hI.2.1⟩
      · exact N₁ p hp
    refine ht i v _ _ _ hP st₁ ?_
    refine wpAny_mono (step i v m' l h₁ tk₁ oI hlt hP hj hl F₁ N₂) (fun _ s₂ h₂ => wpAny_mono h₂ (fun f s₃ h₃ => ?_) fun _ _ e => e) fun _ _ e => e
    have next : FNext h₀ L I oI (J (i + 1)) { s with heap := h₁, toks := tk₁ } s₃ → ∃ m_1, m_1 < n + 1 - i ∧ FInv h₀ L I n St s J m_1 s₃ := by
      rintro ⟨h₂, tk₂, m₂, l₂, rfl, F₂, N₃, hl₂, hj₂⟩
      refine ⟨n + 1 - (i + 1), by lia, i + 1, h₂, tk₂, m₂, l₂, rfl, hlt, rfl, ?_, F₂, fun p hp => N₃ p (List.mem_cons_of_mem _ hp), hl₂, hj₂⟩
      refine W.frame _ _ _ st₁ fun b hb o e => ?_
      rcases hfp b hb with rfl | ⟨o', e'⟩ | ⟨o', k'⟩
      · rw [hoI] at e; cases e; exact (N₃ _ List.mem_cons_self).1
      · have := F₁.keep b o' e'
        rw [e] at this; cases this
        exact F₂.keep b o e'
      · have := (N₁ _ (k' i m' l hj)).1
        rw [show h₁.get? (b, o').1 = h₁.get? b from rfl, e] at this; cases this
        exact (N₃ _ (List.mem_cons_of_mem _ (k' (i + 1) m₂ l₂ hj₂))).1
    cases f with
    | next => exact next h₃
    | cont => exact next h₃
    | brk => exact h₃
    | ret v => exact h₃
  · obtain rfl : i = n := Nat.le_antisymm hi (Nat.not_lt.mp hlt)
    refine W.done _ _ _ st fun h₁ tk₁ hk₁ => ?_
    show wpAny _ _ (execs [] env) _ _ _
    exact wpAny_pure (hR h₁ tk₁ m' l hj (keepF hk₁ F') (keepN hk₁ hl N'))
theorem for_listG {target : PySem.Expr} {body : List Stmt} {Q : Result → Shared → Prop} {D : Addr} {its : List Value} {dn : Nat} {news : List (Addr × Obj)}
    (hh : A.handled = none) (F : Fr h₀ L s.heap m) (N : News h₀ L s.heap news) (J : Nat → (Str → Option Value) → List (Addr × Obj) → Prop) (hD : ∀ i m' l, J i m' l → (D, listOf its.toArray dn) ∈ l) (h0 : J 0 m news)
    (step : ∀ i v m' l h tk I oI s₁, s₁ = { s with heap := h, toks := tk } → its[i]? = some v → J i m' l → (∀ p ∈ l, p.1 ≠ I) → Fr h₀ L h m' → News h₀ L h ((I, oI) :: l) →
      wpAny (model prog w) A (assign target env v) (fun _ s₂ => wpAny (model prog w) A (execs body env) (FStep h₀ L I oI (J (i + 1)) s₁ Q) (notedBy (model prog w) A env fun e s' => Q (.error e) s') s₂) (notedBy (model prog w) A env fun e s' => Q (.error e) s') s₁)
    (hR : ∀ h' tk' m' l, J its.length m' l → Fr h₀ L h' m' → News h₀ L h' l → Q (.ok .next) { s with heap := h', toks := tk' })
    (hrf : ∀ (i : Nat) (v : Value), its[i]? = some v → ∃ a, v = Value.ref a) {elts : List PySem.Expr} {kk : Nat} {pos : Pos} (htg : target = .Tuple elts kk pos) :
    wpAny (model prog w) A (pyIter (.ref D)) (fun it s₂ => codeAny (model prog w) A (.forLoop target it body [] env) Q s₂) E s := by
  have hl := News.isList N (hD _ _ _ h0)
  have hlt : D < s.heap.objs.size := Heap.lt_size (N _ (hD _ _ _ h0)).1
  refine wpAny_pyIter_list hl ?_
  have W := Walks.list (prog := prog) (w := w) (A := A) hh s.heap.objs.size D (Nat.ne_of_lt hlt) its.toArray
  refine for_walksG (n := its.length) W (F.keeps fun _ _ e => Heap.get?_push_of_some _ e) (N.grown fun _ _ e => Heap.get?_push_of_some _ e) ⟨⟨_, Heap.get?_push_size _ rfl, rfl, rfl⟩, hl.push _⟩
    ⟨Nat.ne_of_gt F.ns.lt, next_is_new F, fun p hp => Nat.ne_of_lt (Heap.lt_size (N p hp).1)⟩ (fun i h st => let ⟨o, e, _⟩ := st.1; ⟨o, e⟩) J ?_ h0 ?_ (fun h' tk' m' l hj F' N' => hR h' tk' m' l hj F' N') ?_
  · intro b hb
    rcases List.mem_cons.mp hb with h | h
    · exact .inl h
    · exact .inr (.inr ⟨_, fun i m' l hj => by rw [List.mem_singleton.mp h]; exact hD i m' l hj⟩)
  · intro i v m' l h tk oI hi hP hj hl' F' N'
    exact step i v m' l h tk _ oI _ rfl (by simpa using hP) hj hl' F' N'
  · intro i v s' Q' E' hP st hQ
    obtain ⟨a, rfl⟩ := hrf i v (by simpa using hP)
    subst htg
    exact wpAny_letOwnedTupleGo_listiter st.1 hQ
theorem assign3 {a b c : Str} {pa pb pc tp : Pos} {kk : Nat} {T : Addr} {x y z : Value} {Q : Unit → Shared → Prop} (hh : A.handled = none) (ht : s.heap.IsTuple T #[x, y, z])
    (ha : env.kindOf a = some .local) (hb : env.kindOf b = some .local) (hc : env.kindOf c = some .local) (hp : (env.scope.kind == .class || (env.scope.kind == .module && env.locals != env.globals)) = false) (hn : s.heap.Ns env.locals m)
    (h : ∀ (h' : Heap) (tk : Nat), h'.Ns env.locals (fun k => if k = c then some z else if k = b then some y else if k = a then some x else m k) → (∀ c o, c ≠ env.locals → s.heap.get? c = some o → h'.get? c = some o) → Q () { s with heap := h', toks := tk }) :
    wpAny (model prog w) A (assign (.Tuple [.Name a pa, .Name b pb, .Name c pc] kk tp) env (.ref T)) Q E s := by
  refine wpAny_assign_Tuple hh ht rfl rfl fun h₁ he₁ => ?_
  have hL : env.locals ≠ s.heap.objs.size := Nat.ne_of_lt hn.lt
  have hn₁ : h₁.Ns env.locals m := hn.at' fun o e => he₁ _ o hL e
  have up₁ : ∀ c o, s.heap.get? c = some o → h₁.get? c = some o := fun c o e => he₁ c o (Nat.ne_of_lt (Heap.lt_size e)) e
  show wpAny _ _ (assignInOrder [assign (.Name a pa) env, assign (.Name b pb) env, assign (.Name c pc) env] [x, y, z]) _ _ _
  refine assignInOrder_cons ?_
  refine wpAny_assign_Name (wpAny_storeName_local ha hn₁ (fun h₂ hn₂ hs₂ => ?_) hp)
  refine assignInOrder_cons ?_
  refine wpAny_assign_Name (wpAny_storeName_local hb hn₂ (fun h₃ hn₃ hs₃ => ?_) hp)
  refine assignInOrder_cons ?_
  refine wpAny_assign_Name (wpAny_storeName_local hc hn₃ (fun h₄ hn₄ hs₄ => ?_) hp)
  refine assignInOrder_nil ?_
  exact h h₄ _ hn₄ fun c o hc e => hs₄.extBut c o hc (hs₃.extBut c o hc (hs₂.extBut c o hc (up₁ c o e)))
end
end
section
/-- the letters of the first words, in the order they are read -/
noncomputable def readL (wts : List Wt) : List Nat := wts.flatMap fun t => t.w.2.2.reverse
theorem readL_snoc {wts : List Wt} {j : Nat} {t : Wt} (h : wts[j]? = some t) : readL (wts.take (j + 1)) = readL (wts.take j) ++ t.w.2.2.reverse := by
  unfold readL
  rw [List.take_add_one, h, List.flatMap_append]
  simp
theorem readL_take (wts : List Wt) (j : Nat) : (readL (wts.take j)).length ≤ (readL wts).length := by
  unfold readL
  have e : wts.flatMap (fun t => t.w.2.2.reverse) = (wts.take j).flatMap (fun t => t.w.2.2.reverse) ++ (wts.drop j).flatMap (fun t => t.w.2.2.reverse) := by rw [← List.flatMap_append, List.take_append_drop]
  rw [e, List.length_append]
  lia
theorem rowFold_append (a b row : List Nat) : rowFold (a ++ b) row = rowFold b (rowFold a row) := by unfold rowFold; rw [List.foldl_append]
theorem rowFold_length (xs : List Nat) : ∀ row : List Nat, (rowFold xs row).length + 1 ≤ 2 ^ xs.length * (row.length + 1) := by
  induction xs with
  | nil => intro row; simp [rowFold]
  | cons x r ih =>
    intro row
    have h1 := ih (rowStep x row)
    have h2 := rowStep_length x row
    show (rowFold r (rowStep x row)).length + 1 ≤ _
    refine Nat.le_trans h1 ?_
    rw [List.length_cons, Nat.pow_succ, Nat.mul_assoc]
    refine Nat.mul_le_mul (Nat.le_refl _) ?_
    lia
theorem rowFold_six {xs : List Nat} (h : xs.length ≤ 6) : (rowFold xs []).length ≤ 63 := by
  have h1 := rowFold_length xs []
  have h2 : 2 ^ xs.length ≤ 2 ^ 6 := Nat.pow_le_pow_right (by decide) h
  simp only [List.length_nil, Nat.zero_add, Nat.mul_one] at h1
  lia
/-- what holds between the words' turns -/
inductive TurnsInv (wp : Params) (L : Addr) (k : LexK) (oK oM oX oH oS : Obj) (rest : List (Addr × Obj)) (wts : List Wt) (c : Int) (m : Str → Option Value) (j : Nat) (m' : Str → Option Value) (l : List (Addr × Obj)) : Prop
  | mk (hm' : SameButL [Str.ofString "token", Str.ofString "meant", Str.ofString "part", Str.ofString "images", Str.ofString "image"] m m') (oT' oR' : Obj) (v1 : Option Value) (t : Tok) (ln' : Int) (lt' : Tok) (yr' : List Value) (nn' pn' : Nat) (r' : List Nat)
    (el : l = cellsL L oK oM oT' oR' oX oH oS ++ (k.objs wp ln' lt' yr' nn' [] pn' ++ rest)) (hT : oT'.data = .cell v1) (hR : oR'.data = .cell (some (.str ⟨(rowFold (readL (wts.take j)) []).toArray⟩ t)))
    (hc : Chs yr' r') (hp : Pend r' (textR c j ((wts.drop j).map (·.w.1)))) (hn : ln' + nlI r' = 1 + nlI (textR c 0 (wts.map (·.w.1)))) : TurnsInv wp L k oK oM oX oH oS rest wts c m j m' l
section
variable {w : World} {mean : ExcName → Option Value} {mg mb : Str → Option Value}
  {dp un : Nat} {gd : Option (List Code)} {fa : Addr} {cd : Value} {outer : List Env}
  {A₀ : Around} {base h₀ : Heap} {L : Addr} {m : Str → Option Value} {s : Shared} {Q : Flow → Shared → Prop} {E : Value → Shared → Prop}
set_option maxHeartbeats 0 in
theorem law_turns (oK oM oT oR oX oH oS : Obj) (rest : List (Addr × Obj)) (k : LexK) (ok : LexOk k) (lt : Tok) (yr : List Value) (nn pn : Nat) (H R : Addr) (wts : List Wt) (rn : Nat) (f c : Int) (a b d : Int) (ta tb td tr : Tok) (v0 : Option Value)
    (B1 : Below A₀ base outer h₀) (X1 : (K w.params).In h₀) (T1 : Top q loose mean mg mb h₀)
    (F1 : Fr h₀ L s.heap m) (N1 : News h₀ L s.heap (cellsL L oK oM oT oR oX oH oS ++ (k.objs w.params 1 lt yr nn [] pn ++ rest)))
    (hm : m (Str.ofString "words") = some (.ref R))
    (hT : oT.data = .cell v0) (hR : oR.data = .cell (some (.str ⟨([] : List Nat).toArray⟩ tr))) (hX : oX.data = .cell (some (.ref k.x))) (hH : oH.data = .cell (some (.ref H)))
    (hd' : 0 ≤ d ∧ d < 1000000000000)
    (hRm : (R, listOf (refsW wts).toArray rn) ∈ rest) (hWm : ∀ t ∈ wts, t.obj ∈ rest) (hHm : (H, LCg.lst [.int a ta, .int b tb, .int d td]) ∈ rest)
    (hW : ∀ t ∈ wts, t.w.1.length = 3 ∧ prepL t.w.1 = t.w.2.1 ∧ (∀ x ∈ t.w.2.2, isL x)) (h6 : (readL wts).length ≤ 6) (hwl : wts.length ≤ 6)
    (hch : Chs yr (textR c 0 (wts.map (·.w.1))))
    (hoff : OffC L (k.objs w.params 1 lt yr nn [] pn ++ rest)) (hof1 : OffL k (cellsL L oK oM oT oR oX oH oS)) (hof2 : OffL k rest)
    (hd : dp + 20 + 20 < recursionLimit) (hu : un + 300 < cLine)
    (hret : ∀ (m' : Str → Option Value) (oT' oR' : Obj) (v1 : Option Value) (t : Tok) (ln' : Int) (lt' : Tok) (yr' : List Value) (nn' pn' : Nat) (r' : List Nat) (h' : Heap) (tk' : Nat), SameButL [Str.ofString "token", Str.ofString "meant", Str.ofString "part", Str.ofString "images", Str.ofString "image"] m m' → Fr h₀ L h' m' →
      News h₀ L h' (cellsL L oK oM oT' oR' oX oH oS ++ (k.objs w.params ln' lt' yr' nn' [] pn' ++ rest)) → oT'.data = .cell v1 → oR'.data = .cell (some (.str ⟨(rowFold (readL wts) []).toArray⟩ t)) →
      Chs yr' r' → Pend r' (textR c wts.length []) → ln' + nlI r' = 1 + nlI (textR c 0 (wts.map (·.w.1))) → Q .next { s with heap := h', toks := tk' }) :
    wpAny (model PySem.Challenge.rw_rw0107_01.row.prog w) (lawA dp un gd L fa cd outer) (exec (lawS 6) (lawEnv L fa cd)) Q E s := by
  dsimp only [lawS, lawBody, lawA, lawEnv]
  revert X1; k_fill; intro X1
  with_unfolding_all show wpAny _ _ (exec (Stmt.For _ _ _ _ _) _) _ _ _
  refine wpAny_For ?_
  refine nameX_L F1 hm ?_
  show wpAny _ _ (pyIter _) _ _ _
  have hwt : ∀ (j : Nat) (t : Wt), wts[j]? = some t → t ∈ wts := fun j t h => List.mem_of_getElem? h
  refine for_listG (its := refsW wts) (dn := rn) (by rfl) F1 N1 (TurnsInv w.params L k oK oM oX oH oS rest wts c m)
    (by rintro j m' l ⟨_, oT', oR', v1, t, ln', lt', yr', nn', pn', r', rfl, _⟩; exact List.mem_append_right _ (List.mem_append_right _ hRm)) ⟨fun _ _ => rfl, oT, oR, v0, tr, 1, lt, yr, nn, pn, _, rfl, hT, hR, hch, .inl rfl, rfl⟩ ?_ ?_ ?_ rfl
  · rintro j v m' l h tk I oI s₁ rfl hv ⟨hm', oT', oR', v1, t, ln', lt', yr', nn', pn', r', rfl, hT', hR', hch', hpe, hnl⟩ hI F N
    obtain ⟨t, ht, rfl⟩ := wt_at (wts := wts) (i := j) (v := v) (by simpa using hv)
    have htm := hwt j t ht
    obtain ⟨ht3, htf, htl⟩ := hW t htm
    have htp : t.w.2.2.length ≤ 6 := by
      have h1 := readL_take wts (j + 1)
      rw [readL_snoc ht, List.length_append, List.length_reverse] at h1
      lia
    have hIR : I ≠ L := (N _ List.mem_cons_self).2.1
    have hTup : h.IsTuple t.a #[.str ⟨t.w.1.toArray⟩ t.t, .str ⟨t.w.2.1.toArray⟩ t.u, .str ⟨t.w.2.2.toArray⟩ t.v] := ⟨_, (N t.obj (List.mem_cons_of_mem _ (List.mem_append_right _ (List.mem_append_right _ (hWm t htm))))).1, rfl, 0, rfl⟩
    dsimp only [lawEnv]
    refine assign3 (by rfl) hTup (by with_unfolding_all rfl) (by with_unfolding_all rfl) (by with_unfolding_all rfl) (by rfl) F.ns fun h₂ tk₂ hn₂ hs₂ => ?_
    have F2 : Fr h₀ L h₂ _ := ⟨hn₂, fun b o e => hs₂ b o (Nat.ne_of_lt (Nat.lt_of_lt_of_le (Heap.lt_size e) F.above)) (F.keep b o e), F.above⟩
    have N2 : News h₀ L h₂ _ := fun p hp => ⟨hs₂ p.1 p.2 (N p hp).2.1 (N p hp).1, (N p hp).2⟩
    have hII : OffC L [(I, oI)] := offC_iter hI
    have hIL : OffL k [(I, oI)] := offL_iter (a := cellsL L oK oM oT' oR' oX oH oS) (oI := oI) hI
    have N3 : News h₀ L h₂ (cellsL L oK oM oT' oR' oX oH oS ++ (k.objs w.params ln' lt' yr' nn' [] pn' ++ (I, oI) :: rest)) := news_drop N2 (by
      intro q hq
      rcases List.mem_append.mp hq with h | h
      · exact List.mem_cons_of_mem _ (List.mem_append_left _ h)
      · rcases List.mem_append.mp h with h | h
        · exact List.mem_cons_of_mem _ (List.mem_append_right _ (List.mem_append_left _ h))
        · rcases List.mem_cons.mp h with h | h
          · rw [h]; exact List.mem_cons_self
          · exact List.mem_cons_of_mem _ (List.mem_append_right _ (List.mem_append_right _ h)))
    obtain ⟨x, y, z, hxyz⟩ : ∃ x y z, t.w.1 = [x, y, z] := by
      match hq : t.w.1, ht3 with
      | [x, y, z], _ => exact ⟨x, y, z, rfl⟩
    have hdrop : (wts.drop j).map (·.w.1) = [x, y, z] :: (wts.drop (j + 1)).map (·.w.1) := by
      have hlt : j < wts.length := (List.getElem?_eq_some_iff.mp ht).1
      rw [List.drop_eq_getElem_cons hlt, List.map_cons, (List.getElem?_eq_some_iff.mp ht).2, hxyz]
    have hlen : r'.length ≤ 1000000 := by
      have h1 := text_length c (n := 3) j ((wts.drop j).map (·.w.1)) (by
        intro q hq
        obtain ⟨t', ht', rfl⟩ := List.mem_map.mp hq
        exact Nat.le_of_eq (hW t' (List.mem_of_mem_drop ht')).1)
      have h2 : ((wts.drop j).map (·.w.1)).length ≤ 6 := by rw [List.length_map, List.length_drop]; lia
      have h3 := Nat.mul_le_mul h2 (Nat.le_refl (2 * 3 + 3))
      rcases hpe with rfl | ⟨e, _, rfl⟩
      · lia
      · rw [List.length_cons]; lia
    rw [hdrop] at hpe
    obtain ⟨r2, hread, hpe2⟩ := text_read hpe
    rw [← hxyz] at hread
    refine wpAny_execs_cons ?_
    refine word_check oK oM oT' oR' oX oH oS ((I, oI) :: rest) k ok ln' lt' yr' nn' pn' r' r2 t.w.1 t.w.2.1 t.t t.u B1 X1 T1 F2 N3 (by with_unfolding_all rfl) (by with_unfolding_all rfl) hX hch' hread hlen htf (by lia) (offL_cells hof1) (offL_app (a := [(I, oI)]) hIL hof2) hd hu ?_
    intro ln5 lt5 yr5 nn5 h5 tk5 F5 N5 hch5 hnl5
    refine wpAny_execs_cons ?_
    refine word_letters oK oM oT' oR' oX oH oS ((I, oI) :: rest) k ok ln5 lt5 yr5 nn5 pn' H a b d ta tb td _ t.v t.w.2.2 _ v1 B1 X1 T1 F5 (news_drop (news_dup N5 (x := (H, LCg.lst [.int a ta, .int b tb, .int d td])) ?_) ?_) (by with_unfolding_all rfl) hT' hR' hX hH hd' htl htp ?_ ?_ ?_ (offL_cells hof1) ?_ hd hu ?_
    · exact List.mem_append_right _ (List.mem_append_right _ (List.mem_cons_of_mem _ hHm))
    · intro q hq
      rcases List.mem_append.mp hq with h | h
      · exact List.mem_cons_of_mem _ (List.mem_append_left _ h)
      · rcases List.mem_append.mp h with h | h
        · exact List.mem_cons_of_mem _ (List.mem_append_right _ (List.mem_append_left _ h))
        · rcases List.mem_cons.mp h with h | h
          · rw [h]; exact List.mem_cons_self
          · exact List.mem_cons_of_mem _ (List.mem_append_right _ (List.mem_append_right _ h))
    · refine rowFold_isL (fun x hx => ?_) (fun _ h => nomatch h)
      obtain ⟨t', ht', hx'⟩ := List.mem_flatMap.mp hx
      exact (hW t' (List.mem_of_mem_take ht')).2.2 x (List.mem_reverse.mp hx')
    · intro i hi
      rw [← rowFold_append]
      refine rowFold_six ?_
      have h1 := readL_take wts (j + 1)
      rw [readL_snoc ht, List.length_append] at h1
      rw [List.length_append, List.length_take]
      lia
    · intro q hq
      rcases List.mem_append.mp hq with h | h
      · exact offC_lex (fun q hq => hoff q (List.mem_append_left _ hq)) q h
      · rcases List.mem_cons.mp h with h | h
        · rw [h]; exact hoff _ (List.mem_append_right _ hHm)
        · rcases List.mem_cons.mp h with h | h
          · rw [h]; exact hII _ List.mem_cons_self
          · exact hoff q (List.mem_append_right _ h)
    · refine offL_app (a := [(H, LCg.lst [.int a ta, .int b tb, .int d td])]) ?_ (offL_app (a := [(I, oI)]) hIL hof2)
      exact ⟨fun q hq => hof2.1 q (by rw [List.mem_singleton.mp hq]; exact hHm), fun q hq => hof2.2.1 q (by rw [List.mem_singleton.mp hq]; exact hHm), fun q hq => hof2.2.2 q (by rw [List.mem_singleton.mp hq]; exact hHm)⟩
    · intro m6 oT6 oR6 v6 t6 h6' tk6 pn6 hm6 F6 N6 hT6 hR6
      refine wpAny_execs_nil ?_
      refine FStep.next F6 (l' := cellsL L oK oM oT6 oR6 oX oH oS ++ (k.objs w.params ln5 lt5 yr5 nn5 [] pn6 ++ rest)) (news_drop N6 ?_) (lex_ne (a := cellsL L oK oM oT' oR' oX oH oS) rfl hI) ⟨fun y hy => ?_, oT6, oR6, _, t6, ln5, lt5, yr5, nn5, pn6, r2, rfl, hT6, ?_, hch5, hpe2, hnl5.trans hnl⟩
      · intro q hq
        rcases List.mem_cons.mp hq with h | h
        · rw [h]; exact List.mem_append_right _ (List.mem_append_right _ (List.mem_cons_of_mem _ List.mem_cons_self))
        · rcases List.mem_append.mp h with h | h
          · exact List.mem_append_left _ h
          · rcases List.mem_append.mp h with h | h
            · exact List.mem_append_right _ (List.mem_append_left _ h)
            · exact List.mem_append_right _ (List.mem_append_right _ (List.mem_cons_of_mem _ (List.mem_cons_of_mem _ h)))
      · simp only [List.mem_cons, List.not_mem_nil, or_false, not_or] at hy
        rw [hm6 y (by simp [hy]), if_neg hy.2.2.1, if_neg hy.2.1, if_neg hy.1]
        exact hm' y (by simp [hy])
      · rw [readL_snoc ht, rowFold_append]; exact hR6
  · rintro h' tk' m' l ⟨hm', oT', oR', v1, t, ln', lt', yr', nn', pn', r', rfl, hT', hR', hch', hpe, hnl⟩ F N
    have e : (refsW wts).length = wts.length := by simp [refsW]
    rw [e] at hR' hpe
    rw [List.take_length] at hR'
    rw [List.drop_length] at hpe
    exact hret m' oT' oR' v1 t ln' lt' yr' nn' pn' r' h' tk' hm' F N hT' hR' hch' hpe hnl
  · intro j v hv
    obtain ⟨t, ht, rfl⟩ := wt_at (wts := wts) (i := j) (v := v) (by simpa using hv)
    exact ⟨_, rfl⟩
end
end
section
theorem start_Lw16 : True := by w_top off; exact trivial
theorem add_fit63 {a b : List Nat} (h : a.length ≤ 62) (hb : b.length ≤ 1) : (⟨a.toArray⟩ : Str).length + (⟨b.toArray⟩ : Str).length ≤ sizeLine := by
  rw [sizeLine_eq, len_is, len_is]; lia
local macro_rules | `(tactic| walk_at "binaryOp Add str str") => `(tactic| (k_here; k_dflt (refine SBL.add (hsz := add_fit63 (by assumption) (by decide)) ?_); intro _ _))
noncomputable def closesF (ls : List Nat) : List Nat := ls.foldl (fun acc x => closedF (acc ++ [x])) []
theorem closesF_snoc (ls : List Nat) (x : Nat) : closesF (ls ++ [x]) = closedF (closesF ls ++ [x]) := by unfold closesF; rw [List.foldl_append]; rfl
theorem closedF_length (ns : List Nat) : (closedF ns).length ≤ 2 * ns.length := by
  unfold closedF
  rw [List.length_append, List.length_reverse, List.length_take]
  lia
theorem closes_fold (ls : List Nat) : ∀ acc : List Nat, (ls.foldl (fun acc x => closedF (acc ++ [x])) acc).length + 2 ≤ 2 ^ ls.length * (acc.length + 2) := by
  induction ls with
  | nil => intro acc; simp
  | cons x r ih =>
    intro acc
    refine Nat.le_trans (ih _) ?_
    rw [List.length_cons, Nat.pow_succ, Nat.mul_assoc]
    refine Nat.mul_le_mul (Nat.le_refl _) ?_
    have := closedF_length (acc ++ [x])
    rw [List.length_append, List.length_singleton] at this
    show (closedF (acc ++ [x])).length + 2 ≤ _
    lia
theorem closesF_five {ls : List Nat} (h : ls.length ≤ 5) : (closesF ls).length ≤ 62 := by
  have h1 := closes_fold ls []
  have h2 : 2 ^ ls.length ≤ 2 ^ 5 := Nat.pow_le_pow_right (by decide) h
  simp only [List.length_nil, Nat.zero_add] at h1
  unfold closesF
  lia
section
variable {w : World} {mean : ExcName → Option Value} {mg mb : Str → Option Value}
  {dp un : Nat} {gd : Option (List Code)} {fa : Addr} {cd : Value} {outer : List Env}
  {A₀ : Around} {base h₀ : Heap} {L : Addr} {m : Str → Option Value} {s : Shared} {Q : Flow → Shared → Prop} {E : Value → Shared → Prop}
set_option maxHeartbeats 0 in
theorem law_closed0 (oK oM oT oR oX oH oS : Obj) (rest : List (Addr × Obj))
    (B1 : Below A₀ base outer h₀) (X1 : (K w.params).In h₀) (T1 : Top q loose mean mg mb h₀)
    (F1 : Fr h₀ L s.heap m) (N1 : News h₀ L s.heap (cellsL L oK oM oT oR oX oH oS ++ rest))
    (hret : ∀ (t : Tok) (h' : Heap) (tk' : Nat), Fr h₀ L h' (fun y => if y = Str.ofString "closed" then some (.str ⟨([] : List Nat).toArray⟩ t) else m y) → News h₀ L h' (cellsL L oK oM oT oR oX oH oS ++ rest) → Q .next { s with heap := h', toks := tk' }) :
    wpAny (model PySem.Challenge.rw_rw0107_01.row.prog w) (lawA dp un gd L fa cd outer) (exec (lawS 7) (lawEnv L fa cd)) Q E s := by
  dsimp only [lawS, lawBody, lawA, lawEnv]
  revert X1; k_fill; intro X1
  with_unfolding_all show wpAny _ _ (exec (Stmt.Assign _ _ _) _) _ _ _
  (try walk_at "mine:let")
  k_steps
  exact hret _ _ _ (by k_asm) (by k_asm)
set_option maxHeartbeats 0 in
theorem law_closes (oK oM oT oR oX oH oS : Obj) (rest : List (Addr × Obj)) (ls : List Nat) (tl tc : Tok) (v0 : Option Value)
    (B1 : Below A₀ base outer h₀) (X1 : (K w.params).In h₀) (T1 : Top q loose mean mg mb h₀)
    (F1 : Fr h₀ L s.heap m) (N1 : News h₀ L s.heap (cellsL L oK oM oT oR oX oH oS ++ rest))
    (hm : m (Str.ofString "letters") = some (.str ⟨ls.toArray⟩ tl)) (hmc : m (Str.ofString "closed") = some (.str ⟨([] : List Nat).toArray⟩ tc))
    (hT : oT.data = .cell v0) (hls : ls.length ≤ 6) (hoff : OffC L rest)
    (hd : dp + 20 + 20 < recursionLimit) (hu : un + 300 < cLine)
    (hret : ∀ (m' : Str → Option Value) (oT' : Obj) (v1 : Option Value) (t : Tok) (h' : Heap) (tk' : Nat), SameButL [Str.ofString "closed"] m m' → m' (Str.ofString "closed") = some (.str ⟨(closesF ls).toArray⟩ t) → Fr h₀ L h' m' →
      News h₀ L h' (cellsL L oK oM oT' oR oX oH oS ++ rest) → oT'.data = .cell v1 → Q .next { s with heap := h', toks := tk' }) :
    wpAny (model PySem.Challenge.rw_rw0107_01.row.prog w) (lawA dp un gd L fa cd outer) (exec (lawS 8) (lawEnv L fa cd)) Q E s := by
  have stp : StopCall 189 := ⟨rfl, trivial⟩
  dsimp only [lawS, lawBody, lawA, lawEnv]
  revert X1; k_fill; intro X1
  with_unfolding_all show wpAny _ _ (exec (Stmt.For _ _ _ _ _) _) _ _ _
  (try walk_at "mine:let")
  refine wpAny_For ?_
  refine nameX_L F1 hm ?_
  show wpAny _ _ (pyIter _) _ _ _
  refine for_str (x := ⟨ls.toArray⟩) (by rfl) F1 N1 (fun i m' l => SameButL [Str.ofString "closed"] m m' ∧ ∃ t oT' v1, m' (Str.ofString "closed") = some (.str ⟨(closesF (ls.take i)).toArray⟩ t) ∧ l = cellsL L oK oM oT' oR oX oH oS ++ rest ∧ oT'.data = .cell v1)
    ⟨fun _ _ => rfl, tc, oT, v0, hmc, rfl, hT⟩ ?_ ?_
  · rintro i x u m' l h tk I oI s₁ rfl hv ⟨hm', t, oT', v1, hc', rfl, hT'⟩ hI F N
    have hv' : ls[i]? = some x := by simpa using hv
    have hil : i < ls.length := (List.getElem?_eq_some_iff.mp hv').1
    have h62 : (closesF (ls.take i)).length ≤ 62 := closesF_five (by rw [List.length_take]; lia)
    have hII : OffC L [(I, oI)] := offC_iter hI
    have hoff2 : OffC L ((I, oI) :: rest) := by
      intro q hq
      rcases List.mem_cons.mp hq with h | h
      · rw [h]; exact hII _ List.mem_cons_self
      · exact hoff q h
    have N3 : News h₀ L h ((L + 7, oK) :: (L + 6, oM) :: (L + 5, oT') :: (L + 4, oR) :: (L + 3, oX) :: (L + 2, oH) :: (L + 1, oS) :: (I, oI) :: rest) := news_drop N (by
      intro q hq
      rcases List.mem_append.mp (show q ∈ cellsL L oK oM oT' oR oX oH oS ++ (I, oI) :: rest from hq) with h | h
      · exact List.mem_cons_of_mem _ (List.mem_append_left _ h)
      · rcases List.mem_cons.mp h with h | h
        · rw [h]; exact List.mem_cons_self
        · exact List.mem_cons_of_mem _ (List.mem_append_right _ h))
    clear N N1 F1
    k_steps
    unfold Hlt
    rw [show ({ cps := #[x] } : Str) = ⟨[x].toArray⟩ from rfl, str_app]
    refine' (t_closed (closesF (ls.take i) ++ [x]) _ (by rw [List.length_append, List.length_singleton]; lia) (by rw [List.length_append, List.length_singleton]; lia)).use ?k1 ?k2 ?k3 ?k4 ?k5 ?k6 ?k7 ?k8 ?_
    (case k1 => k_asm)
    (case k2 => k_asm)
    (case k3 => k_asm)
    (case k4 => k_asm)
    (case k5 => k_asm)
    (case k6 => first | exact rfl | assumption)
    (case k7 => ktr_room)
    (case k8 => ktr_units)
    rintro v9 h9 tk9 ⟨u9, rfl⟩ F9 N9
    k_steps
    rename Fr _ _ _ _ => F10
    rename News _ _ _ _ => N10
    rename _ = Data.cell (some (Value.str { cps := #[x] } _)) => hd9
    refine FStep.next F10 (l' := cellsL L oK oM _ oR oX oH oS ++ rest) (news_drop N10 ?_) ?_ ⟨fun y hy => ?_, u9, _, _, ?_, rfl, hd9⟩
    · walk_at "mine:sub"
    · refine ne_cells hI fun q h => ?_
      exact hI q (List.mem_append_right _ h)
    · simp only [List.mem_cons, List.not_mem_nil, or_false] at hy
      dsimp only
      rw [if_neg hy]
      exact hm' y (by simp [hy])
    · dsimp only
      rw [if_pos rfl, take_snocN hv', closesF_snoc]
  · rintro h' tk' m' l ⟨hm', t, oT', v1, hc', rfl, hT'⟩ F N
    have e : (⟨ls.toArray⟩ : Str).cps.size = ls.length := by simp
    rw [e, List.take_length] at hc'
    exact hret m' oT' v1 t h' tk' hm' hc' F N hT'
end
end
section
theorem start_Lw17 : True := by w_top off; exact trivial
theorem cnt_nlI : ∀ l : List Nat, cnt 10 l = nlI l
  | [] => rfl
  | c :: r => by rw [cnt_cons, cnt_nlI r]; rfl
theorem count_nl (l : List Nat) : Txt.count ⟨l.toArray⟩ (Str.ofString "\n") = nlI l := by
  rw [show Str.ofString "\n" = ⟨#[10]⟩ from by decide +kernel, count_cnt]
  exact cnt_nlI l
section
variable {w : World} {mean : ExcName → Option Value} {mg mb : Str → Option Value}
  {dp un : Nat} {gd : Option (List Code)} {fa : Addr} {cd : Value} {outer : List Env}
  {A₀ : Around} {base h₀ : Heap} {L : Addr} {m : Str → Option Value} {s : Shared} {Q : Flow → Shared → Prop} {E : Value → Shared → Prop}
set_option maxHeartbeats 0 in
theorem law_ends (oK oM oT oR oX oH oS : Obj) (rest : List (Addr × Obj)) (k : LexK) (ok : LexOk k) (ln : Int) (lt : Tok) (yr : List Value) (nn pn : Nat) (cs0 rw tx : List Nat) (tr tc tt : Tok)
    (B1 : Below A₀ base outer h₀) (X1 : (K w.params).In h₀) (T1 : Top q loose mean mg mb h₀)
    (F1 : Fr h₀ L s.heap m) (N1 : News h₀ L s.heap (cellsL L oK oM oT oR oX oH oS ++ (k.objs w.params ln lt yr nn [] pn ++ rest)))
    (hm1 : m (Str.ofString "closed") = some (.str ⟨rw.toArray⟩ tc)) (hm2 : m (Str.ofString "text") = some (.str ⟨tx.toArray⟩ tt))
    (hR : oR.data = .cell (some (.str ⟨rw.toArray⟩ tr))) (hX : oX.data = .cell (some (.ref k.x)))
    (hch : Chs yr cs0) (htr : TokR cs0 [] []) (hcs : cs0.length ≤ 1000000) (htx : tx.length ≤ 400) (hln : ln + nlI cs0 = 1 + nlI tx)
    (hof1 : OffL k (cellsL L oK oM oT oR oX oH oS)) (hof2 : OffL k rest)
    (hd : dp + 20 + 20 < recursionLimit) (hu : un + 300 < cLine)
    (hret : ∀ (ln' : Int) (lt' : Tok) (yr' : List Value) (nn' : Nat) (h' : Heap) (tk' : Nat), Fr h₀ L h' m → News h₀ L h' (cellsL L oK oM oT oR oX oH oS ++ (k.objs w.params ln' lt' yr' nn' [] pn ++ rest)) → Q .next { s with heap := h', toks := tk' }) :
    wpAny (model PySem.Challenge.rw_rw0107_01.row.prog w) (lawA dp un gd L fa cd outer) (exec (lawS 9) (lawEnv L fa cd)) Q E s := by
  have stp : StopCall 120 := ⟨rfl, trivial⟩
  dsimp only [lawS, lawBody, lawA, lawEnv]
  revert X1; k_fill; intro X1
  with_unfolding_all show wpAny _ _ (exec (Stmt.If _ _ _ _) _) _ _ _
  have N2 := N1
  simp only [cellsL, LexK.objs, lexDict, List.cons_append, List.nil_append] at N2
  (try walk_at "mine:let")
  k_steps
  · rename _ = true => hx
    exfalso; simp at hx
  unfold Hlt
  clear N2
  refine token_at ok hch htr hcs B1 F1 X1 N1 (offL_app hof1 hof2) T1 rfl (by lia) (by lia) ?_
  clear N1 F1
  intro h5 tk5 ln5 lt5 yr5 nn5 u5 hch5 hnl5 F5 N6
  have N7 := N6
  simp only [cellsL, LexK.objs, lexDict, List.cons_append, List.nil_append] at N7
  k_steps
  · rename _ ≠ _ => hx
    rw [count_nl] at hx
    have e0 : nlI [] = 0 := rfl
    rw [e0] at hnl5
    exfalso; lia
  · rename Fr _ _ _ _ => F7
    exact hret ln5 lt5 yr5 nn5 _ _ F7 N6
end
end
section
theorem start_Lw18 : True := by w_top off; exact trivial
theorem three_sign {i c : Nat} (h : (Str.ofString "hpa").cps[i]? = some c) : (i = 0 ∧ c = 104) ∨ (i = 1 ∧ c = 112) ∨ (i = 2 ∧ c = 97) := by
  rw [show (Str.ofString "hpa").cps = #[104, 112, 97] from by decide +kernel] at h
  match i with
  | 0 => exact .inl ⟨rfl, by simpa using h.symm⟩
  | 1 => exact .inr (.inl ⟨rfl, by simpa using h.symm⟩)
  | 2 => exact .inr (.inr ⟨rfl, by simpa using h.symm⟩)
  | n + 3 => simp at h
noncomputable def lampF (c : Nat) (row : List Nat) : Int := 1048576 * (2 * cnt c row + 1)
theorem cnt_bound (c : Nat) : ∀ l : List Nat, 0 ≤ cnt c l ∧ cnt c l ≤ (l.length : Int)
  | [] => by rw [cnt_nil]; exact ⟨Int.le_refl _, Int.le_refl _⟩
  | n :: r => by
    have := cnt_bound c r
    rw [cnt_cons, List.length_cons]
    split <;> lia
theorem lamp_is {row : List Nat} {c : Nat} : 1048576 * (2 * Txt.count ⟨row.toArray⟩ ⟨#[c]⟩ + 1) = lampF c row := by rw [count_cnt]; rfl
section
variable {w : World} {mean : ExcName → Option Value} {mg mb : Str → Option Value}
  {dp un : Nat} {gd : Option (List Code)} {fa : Addr} {cd : Value} {outer : List Env}
  {A₀ : Around} {base h₀ : Heap} {L : Addr} {m : Str → Option Value} {s : Shared} {Q : Flow → Shared → Prop} {E : Value → Shared → Prop}
set_option maxHeartbeats 0 in
theorem law_lamps (oK oM oT oR oX oH oS : Obj) (rest : List (Addr × Obj)) (row : List Nat) (tr : Tok) (v0 : Option Value)
    (B1 : Below A₀ base outer h₀) (X1 : (K w.params).In h₀) (T1 : Top q loose mean mg mb h₀)
    (F1 : Fr h₀ L s.heap m) (N1 : News h₀ L s.heap (cellsL L oK oM oT oR oX oH oS ++ rest))
    (hR : oR.data = .cell (some (.str ⟨row.toArray⟩ tr))) (hM : oM.data = .cell v0) (hrow : row.length ≤ 63) (hoff : OffC L rest)
    (hd : dp + 20 + 20 < recursionLimit) (hu : un + 300 < cLine)
    (hret : ∀ (M : Addr) (oM' : Obj) (t1 t2 t3 : Tok) (h' : Heap) (tk' : Nat), Fr h₀ L h' m → News h₀ L h' (cellsL L oK oM' oT oR oX oH oS ++ (M, LCg.lst [.int (lampF 104 row) t1, .int (lampF 112 row) t2, .int (lampF 97 row) t3]) :: rest) → oM'.data = .cell (some (.ref M)) →
      OffC L ((M, LCg.lst [.int (lampF 104 row) t1, .int (lampF 112 row) t2, .int (lampF 97 row) t3]) :: rest) → Q .next { s with heap := h', toks := tk' }) :
    wpAny (model PySem.Challenge.rw_rw0107_01.row.prog w) (lawA dp un gd L fa cd outer) (exec (lawS 10) (lawEnv L fa cd)) Q E s := by
  dsimp only [lawS, lawBody, lawA, lawEnv]
  revert X1; k_fill; intro X1
  simp only [cellsL, List.cons_append, List.nil_append] at N1
  with_unfolding_all show wpAny _ _ (exec (Stmt.Assign _ _ _) _) _ _ _
  (try walk_at "mine:let")
  k_steps
  refine plan_str (fun i ys => IntsAre ys (([104, 112, 97].take i).map fun c => lampF c row)) (by rfl) (by k_asm) (by k_asm) (by decide +kernel) (by rfl) (by rfl) .nil ?_ ?_
  · intro i c u ys I oI C oC D m₂ h tk E' s₂ hs hc hJ hC hm F N
    subst hs
    have hb := cnt_bound c row
    have hb2 : -64 ≤ Txt.count ⟨row.toArray⟩ ⟨#[c]⟩ ∧ Txt.count ⟨row.toArray⟩ ⟨#[c]⟩ ≤ 64 := by rw [count_cnt]; show -64 ≤ cnt c row ∧ cnt c row ≤ 64; lia
    show wpAny _ _ (eval _ _) _ _ _
    k_steps
    rw [lamp_is]
    refine CDone.intro (by k_asm) (by walk_at "mine:drop") ?_
    rcases three_sign hc with ⟨rfl, rfl⟩ | ⟨rfl, rfl⟩ | ⟨rfl, rfl⟩ <;> exact IntsAre.append hJ (.cons _ _ .nil)
  intro g ys hJ
  obtain ⟨t1, t2, t3, rfl⟩ := ints_three hJ
  k_steps
  rename _ = Data.cell (some (Value.ref _)) => hd9
  rename News _ _ _ _ => N9
  rename _ ∧ _ ∧ _ ∧ _ ∧ _ ∧ _ ∧ _ ∧ LCg.Off1 _ _ => o9
  obtain ⟨p7, p6, p5, p4, p3, p2, p1, _⟩ := o9
  refine hret _ _ t1 t2 t3 _ _ (by k_asm) (news_drop N9 ?_) hd9 (offC_cons hoff p7 p6 p5 p4 p3 p2 p1)
  walk_at "mine:sub"
set_option maxHeartbeats 0 in
theorem law_back0 (oK oM oT oR oX oH oS : Obj) (rest : List (Addr × Obj))
    (B1 : Below A₀ base outer h₀) (X1 : (K w.params).In h₀) (T1 : Top q loose mean mg mb h₀)
    (F1 : Fr h₀ L s.heap m) (N1 : News h₀ L s.heap (cellsL L oK oM oT oR oX oH oS ++ rest))
    (hret : ∀ (t : Tok) (h' : Heap) (tk' : Nat), Fr h₀ L h' (fun y => if y = Str.ofString "back" then some (.str ⟨([] : List Nat).toArray⟩ t) else m y) → News h₀ L h' (cellsL L oK oM oT oR oX oH oS ++ rest) → Q .next { s with heap := h', toks := tk' }) :
    wpAny (model PySem.Challenge.rw_rw0107_01.row.prog w) (lawA dp un gd L fa cd outer) (exec (lawS 11) (lawEnv L fa cd)) Q E s := by
  dsimp only [lawS, lawBody, lawA, lawEnv]
  revert X1; k_fill; intro X1
  with_unfolding_all show wpAny _ _ (exec (Stmt.Assign _ _ _) _) _ _ _
  (try walk_at "mine:let")
  k_steps
  exact hret _ _ _ (by k_asm) (by k_asm)
end
end
section
theorem start_Lw19 : True := by w_top off; exact trivial
/-- what _law_seen answers: the same lamps, and the corner k -/
noncomputable def SeenAt (la lb lc kd k : Int) : Prop := ∃ sp n2 n3, SeenOk la lb lc kd sp n2 n3 ∧ lampW (leastF kd sp n2) sp (wayF (spotF kd sp n3) sp 0) = la ∧ lampW (leastF kd sp n2) sp (wayF (spotF kd sp n3) sp 1) = lb ∧ lampW (leastF kd sp n2) sp (wayF (spotF kd sp n3) sp 2) = lc ∧ cornerF (spotF kd sp n3) sp = k
noncomputable def seenB0 : List Stmt := forSb (lawS 12)
section
variable {w : World} {mean : ExcName → Option Value} {mg mb : Str → Option Value}
  {dp un : Nat} {gd : Option (List Code)} {fa : Addr} {cd : Value} {outer : List Env}
  {A₀ : Around} {base h₀ : Heap} {L : Addr} {m : Str → Option Value} {s : Shared} {Q : Flow → Shared → Prop} {E : Value → Shared → Prop}
set_option maxHeartbeats 0 in
theorem seen_stmt (oK oM oT oR oX oH oS : Obj) (rest : List (Addr × Obj)) (H M : Addr) (a b c la lb lc k n : Int) (ta tb tc t1 t2 t3 tn : Tok) (v0 : Option Value)
    (B1 : Below A₀ base outer h₀) (X1 : (K w.params).In h₀) (T1 : Top q loose mean mg mb h₀)
    (F1 : Fr h₀ L s.heap m) (N1 : News h₀ L s.heap (cellsL L oK oM oT oR oX oH oS ++ (M, LCg.lst [.int la t1, .int lb t2, .int lc t3]) :: (H, LCg.lst [.int a ta, .int b tb, .int c tc]) :: rest))
    (hm : m (Str.ofString "turn") = some (.int n tn))
    (hM : oM.data = .cell (some (.ref M))) (hH : oH.data = .cell (some (.ref H))) (hK : oK.data = .cell v0)
    (hb : 0 ≤ b ∧ b < 1000000000000) (hn : 0 ≤ n ∧ n ≤ 64) (hseen : SeenAt la lb lc (b + n) k)
    (hoff : OffC L ((M, LCg.lst [.int la t1, .int lb t2, .int lc t3]) :: (H, LCg.lst [.int a ta, .int b tb, .int c tc]) :: rest))
    (hd : dp + 20 + 20 < recursionLimit) (hu : un + 300 < cLine)
    (hret : ∀ (oK' oM' : Obj) (M' : Addr) (t1 t2 t3 tk : Tok) (h' : Heap) (tk' : Nat), Fr h₀ L h' m → News h₀ L h' (cellsL L oK' oM' oT oR oX oH oS ++ (M', LCg.lst [.int la t1, .int lb t2, .int lc t3]) :: (H, LCg.lst [.int a ta, .int b tb, .int c tc]) :: rest) → oM'.data = .cell (some (.ref M')) → oK'.data = .cell (some (.int k tk)) →
      OffC L ((M', LCg.lst [.int la t1, .int lb t2, .int lc t3]) :: (H, LCg.lst [.int a ta, .int b tb, .int c tc]) :: rest) → Q .next { s with heap := h', toks := tk' }) :
    wpAny (model PySem.Challenge.rw_rw0107_01.row.prog w) (lawA dp un gd L fa cd outer) (exec (seenB0.getD 0 default) (lawEnv L fa cd)) Q E s := by
  have stp : StopCall 194 := ⟨rfl, trivial⟩
  dsimp only [seenB0, forSb, lawS, lawBody, lawA, lawEnv]
  revert X1; k_fill; intro X1
  simp only [cellsL, List.cons_append, List.nil_append] at N1
  with_unfolding_all show wpAny _ _ (exec (Stmt.Assign _ _ _) _) _ _ _
  (try walk_at "mine:let")
  k_steps
  unfold Hlt
  obtain ⟨sp, n2, n3, ok, e0, e1, e2, e3⟩ := hseen
  refine t_seen la lb lc (b + n) sp n2 n3 M t1 t2 t3 _ ok w mean mg mb _ dp un gd _ lawScope fa cd (lawCl L) outer A₀ base h₀ L m _ _ _ B1 F1 X1 N1 (by simp) T1 rfl (by lia) (by lia) ?_
  rintro v h5 tk5 news5 ⟨D, LL, u1, u2, u3, u4, rfl, rfl, off, lt, lt2⟩ F5 N5
  rw [e0, e1, e2, e3] at N5
  have hLL : OffC L ((LL, LCg.lst [.int la u1, .int lb u2, .int lc u3]) :: (M, LCg.lst [.int la t1, .int lb t2, .int lc t3]) :: (H, LCg.lst [.int a ta, .int b tb, .int c tc]) :: rest) := by
    have o9 := off1_all off
    exact offC_cons hoff (o9 (L + 7, oK) (by simp)) (o9 (L + 6, oM) (by simp)) (o9 (L + 5, oT) (by simp)) (o9 (L + 4, oR) (by simp)) (o9 (L + 3, oX) (by simp)) (o9 (L + 2, oH) (by simp)) (o9 (L + 1, oS) (by simp))
  have hDD : OffC L ((D, tupO #[.ref LL, .int k u4]) :: (LL, LCg.lst [.int la u1, .int lb u2, .int lc u3]) :: (M, LCg.lst [.int la t1, .int lb t2, .int lc t3]) :: (H, LCg.lst [.int a ta, .int b tb, .int c tc]) :: rest) :=
    offC_lt hLL (lt_of_all lt (L + 7, oK) (by simp))
  have N6 : News h₀ L h5 ((L + 7, oK) :: (L + 6, oM) :: (L + 5, oT) :: (L + 4, oR) :: (L + 3, oX) :: (L + 2, oH) :: (L + 1, oS) :: (D, tupO #[.ref LL, .int k u4]) :: (LL, LCg.lst [.int la u1, .int lb u2, .int lc u3]) :: (M, LCg.lst [.int la t1, .int lb t2, .int lc t3]) :: (H, LCg.lst [.int a ta, .int b tb, .int c tc]) :: rest) := news_drop N5 (by
    walk_at "mine:sub")
  clear N1 F1 N5 off lt lt2 e0 e1 e2 e3 ok
  dsimp only
  k_steps
  rename Fr _ _ _ _ => F9
  rename News _ _ _ _ => N9
  rename _ = Data.cell (some (Value.int k _)) => hk9
  rename _ = Data.cell (some (Value.ref LL)) => hl9
  refine hret _ _ LL u1 u2 u3 u4 _ _ F9 (news_drop N9 ?_) hl9 hk9 (offC_sub hLL ?_)
  · walk_at "mine:sub"
  · intro q hq
    rcases List.mem_cons.mp hq with h | h
    · rw [h]; exact List.mem_cons_self
    · exact List.mem_cons_of_mem _ (List.mem_cons_of_mem _ h)
theorem three_ints {a b c : Int} {ta tb tc : Tok} {i : Nat} {v : Value} (h : (#[Value.int a ta, .int b tb, .int c tc])[i]? = some v) : (i = 0 ∧ v = .int a ta) ∨ (i = 1 ∧ v = .int b tb) ∨ (i = 2 ∧ v = .int c tc) := by
  match i with
  | 0 => exact .inl ⟨rfl, by simpa using h.symm⟩
  | 1 => exact .inr (.inl ⟨rfl, by simpa using h.symm⟩)
  | 2 => exact .inr (.inr ⟨rfl, by simpa using h.symm⟩)
  | n + 3 => simp at h
local macro_rules | `(tactic| walk_at "call builtin:sum") => `(tactic| (k_here; k_dflt (refine sumK (by with_unfolding_all rfl) (by k_asm) (by k_asm) (by exact News.isList (by k_asm) (by k_mem)) (by exact .cons _ _ (.cons _ _ (.cons _ _ .nil))) ?_; k_whole); intro h9 tk9 t9 F9 N9))
noncomputable def downF (la lb lc k p x : Int) : Int := if p = k then 2 * x - (la + lb + lc) else x
set_option maxHeartbeats 0 in
theorem down_stmt (oK oM oT oR oX oH oS : Obj) (rest : List (Addr × Obj)) (M : Addr) (la lb lc k : Int) (t1 t2 t3 tk : Tok)
    (B1 : Below A₀ base outer h₀) (X1 : (K w.params).In h₀) (T1 : Top q loose mean mg mb h₀)
    (F1 : Fr h₀ L s.heap m) (N1 : News h₀ L s.heap (cellsL L oK oM oT oR oX oH oS ++ (M, LCg.lst [.int la t1, .int lb t2, .int lc t3]) :: rest))
    (hM : oM.data = .cell (some (.ref M))) (hK : oK.data = .cell (some (.int k tk))) (hk : 0 ≤ k ∧ k < 3)
    (hla : 0 ≤ la ∧ la ≤ 1099511627776) (hlb : 0 ≤ lb ∧ lb ≤ 1099511627776) (hlc : 0 ≤ lc ∧ lc ≤ 1099511627776)
    (hoff : OffC L ((M, LCg.lst [.int la t1, .int lb t2, .int lc t3]) :: rest))
    (hd : dp + 20 + 20 < recursionLimit) (hu : un + 300 < cLine)
    (hret : ∀ (oM' : Obj) (M' : Addr) (t1 t2 t3 : Tok) (h' : Heap) (tk' : Nat), Fr h₀ L h' m → News h₀ L h' (cellsL L oK oM' oT oR oX oH oS ++ (M', LCg.lst [.int (downF la lb lc k 0 la) t1, .int (downF la lb lc k 1 lb) t2, .int (downF la lb lc k 2 lc) t3]) :: rest) → oM'.data = .cell (some (.ref M')) →
      OffC L ((M', LCg.lst [.int (downF la lb lc k 0 la) t1, .int (downF la lb lc k 1 lb) t2, .int (downF la lb lc k 2 lc) t3]) :: rest) → LCg.Off1 M' rest → Q .next { s with heap := h', toks := tk' }) :
    wpAny (model PySem.Challenge.rw_rw0107_01.row.prog w) (lawA dp un gd L fa cd outer) (exec (seenB0.getD 1 default) (lawEnv L fa cd)) Q E s := by
  dsimp only [seenB0, forSb, lawS, lawBody, lawA, lawEnv]
  revert X1; k_fill; intro X1
  simp only [cellsL, List.cons_append, List.nil_append] at N1
  with_unfolding_all show wpAny _ _ (exec (Stmt.Assign _ _ _) _) _ _ _
  (try walk_at "mine:let")
  k_steps
  refine plan_enum_list (fun i ys => IntsAre ys ([downF la lb lc k 0 la, downF la lb lc k 1 lb, downF la lb lc k 2 lc].take i)) (by rfl) (by k_asm) (by k_asm) (.inr ⟨_, by k_mem⟩) (News.isList (by k_asm) (by k_mem)) (Nat.le_of_ble_eq_true rfl) (by rfl) (by rfl) (by rfl) (by decide) .nil ?_ ?_
  · intro i t v ys e it oe oi C oC D m₂ h tk E' s₂ hs hc hJ hC hm1 hm2 F N
    subst hs
    show wpAny _ _ (eval _ _) _ _ _
    rcases three_ints hc with ⟨rfl, rfl⟩ | ⟨rfl, rfl⟩ | ⟨rfl, rfl⟩
    · replace hm1 : m₂ (Str.ofString "place") = some (.int 0 t) := hm1
      k_steps
      · rename (0 : Int) = k => hx
        have e : 2 * la - [la, lb, lc].sum = downF la lb lc k 0 la := by
          unfold downF; rw [if_pos hx]; simp only [List.sum_cons, List.sum_nil]; lia
        rw [e]
        exact CDone.intro (by k_asm) (by walk_at "mine:drop") (IntsAre.append hJ (.cons _ _ .nil))
      · rename (0 : Int) ≠ k => hx
        have e : downF la lb lc k 0 la = la := by unfold downF; rw [if_neg hx]
        exact CDone.intro (by k_asm) (by walk_at "mine:drop") (IntsAre.append hJ (by rw [e]; exact .cons _ _ .nil))
    · replace hm1 : m₂ (Str.ofString "place") = some (.int 1 t) := hm1
      k_steps
      · rename (1 : Int) = k => hx
        have e : 2 * lb - [la, lb, lc].sum = downF la lb lc k 1 lb := by
          unfold downF; rw [if_pos hx]; simp only [List.sum_cons, List.sum_nil]; lia
        rw [e]
        exact CDone.intro (by k_asm) (by walk_at "mine:drop") (IntsAre.append hJ (.cons _ _ .nil))
      · rename (1 : Int) ≠ k => hx
        have e : downF la lb lc k 1 lb = lb := by unfold downF; rw [if_neg hx]
        exact CDone.intro (by k_asm) (by walk_at "mine:drop") (IntsAre.append hJ (by rw [e]; exact .cons _ _ .nil))
    · replace hm1 : m₂ (Str.ofString "place") = some (.int 2 t) := hm1
      k_steps
      · rename (2 : Int) = k => hx
        have e : 2 * lc - [la, lb, lc].sum = downF la lb lc k 2 lc := by
          unfold downF; rw [if_pos hx]; simp only [List.sum_cons, List.sum_nil]; lia
        rw [e]
        exact CDone.intro (by k_asm) (by walk_at "mine:drop") (IntsAre.append hJ (.cons _ _ .nil))
      · rename (2 : Int) ≠ k => hx
        have e : downF la lb lc k 2 lc = lc := by unfold downF; rw [if_neg hx]
        exact CDone.intro (by k_asm) (by walk_at "mine:drop") (IntsAre.append hJ (by rw [e]; exact .cons _ _ .nil))
  intro g ys hJ
  obtain ⟨u1, u2, u3, rfl⟩ := ints_three (show IntsAre ys [_, _, _] from hJ)
  k_steps
  rename _ = Data.cell (some (Value.ref _)) => hd9
  rename News _ _ _ _ => N9
  rename _ ∧ _ ∧ _ ∧ _ ∧ _ ∧ _ ∧ _ ∧ _ ∧ LCg.Off1 _ _ => o9
  obtain ⟨p7, p6, p5, p4, p3, p2, p1, _, or9⟩ := o9
  refine hret _ _ u1 u2 u3 _ _ (by k_asm) (news_drop N9 ?_) hd9 (offC_cons (offC_sub hoff fun q hq => List.mem_cons_of_mem _ hq) p7 p6 p5 p4 p3 p2 p1) or9
  intro q hq
  simp only [cellsL, List.cons_append, List.nil_append, List.mem_cons] at hq ⊢
  rcases hq with h | h | h | h | h | h | h | h | h
  all_goals first | exact .inl h | exact .inr (by simp [h])
end
end
section
local macro_rules | `(tactic| walk_at "mine:pad") => `(tactic| skip)
theorem start_Lw20 : True := by w_top off; exact trivial
local macro_rules | `(tactic| walk_at "binaryOp Add str str") => `(tactic| (k_here; k_dflt (refine SBL.add (hsz := add_fit63 (by assumption) (Nat.le_refl 1)) ?_); intro _ _))
noncomputable def idxL (c : Nat) : Int := if c = 104 then 0 else if c = 112 then 1 else 2
theorem idx_item {c : Nat} (h : isL c) : Txt.item (Str.ofString "hpa") (idxL c) = ⟨[c].toArray⟩ := by
  rcases h with rfl | rfl | rfl <;> decide +kernel
theorem idx_in (c : Nat) : 0 ≤ idxL c ∧ idxL c < 3 := by
  unfold idxL
  split
  · decide
  · split <;> decide
section
variable {w : World} {mean : ExcName → Option Value} {mg mb : Str → Option Value}
  {dp un : Nat} {gd : Option (List Code)} {fa : Addr} {cd : Value} {outer : List Env}
  {A₀ : Around} {base h₀ : Heap} {L : Addr} {m : Str → Option Value} {s : Shared} {Q : Flow → Shared → Prop} {E : Value → Shared → Prop}
set_option maxHeartbeats 0 in
theorem back_stmt (oK oM oT oR oX oH oS : Obj) (rest : List (Addr × Obj)) (bs : List Nat) (c : Nat) (k : Int) (tb tk : Tok)
    (B1 : Below A₀ base outer h₀) (X1 : (K w.params).In h₀) (T1 : Top q loose mean mg mb h₀)
    (F1 : Fr h₀ L s.heap m) (N1 : News h₀ L s.heap (cellsL L oK oM oT oR oX oH oS ++ rest))
    (hm : m (Str.ofString "back") = some (.str ⟨bs.toArray⟩ tb)) (hbs : bs.length ≤ 62)
    (hK : oK.data = .cell (some (.int k tk))) (hc : isL c) (hk : k = idxL c) (hk2 : 0 ≤ k ∧ k < 3) (hoff : OffC L rest)
    (hd : dp + 20 + 20 < recursionLimit) (hu : un + 300 < cLine)
    (hret : ∀ (t : Tok) (h' : Heap) (tk' : Nat), Fr h₀ L h' (fun y => if y = Str.ofString "back" then some (.str ⟨(bs ++ [c]).toArray⟩ t) else m y) → News h₀ L h' (cellsL L oK oM oT oR oX oH oS ++ rest) → Q .next { s with heap := h', toks := tk' }) :
    wpAny (model PySem.Challenge.rw_rw0107_01.row.prog w) (lawA dp un gd L fa cd outer) (exec (seenB0.getD 2 default) (lawEnv L fa cd)) Q E s := by
  dsimp only [seenB0, forSb, lawS, lawBody, lawA, lawEnv]
  revert X1; k_fill; intro X1
  have N2 := N1
  simp only [cellsL, List.cons_append, List.nil_append] at N2
  with_unfolding_all show wpAny _ _ (exec (Stmt.Assign _ _ _) _) _ _ _
  (try walk_at "mine:let")
  k_steps
  rename Fr _ _ _ _ => F9
  rename News _ _ _ _ => N9
  rw [hk, idx_item hc, str_app] at F9
  exact hret _ _ _ F9 N9
end
/-- the lamps, in units, when these letters are still to come -/
noncomputable def trip : List Nat → Int × Int × Int
  | [] => (1, 1, 1)
  | c :: r => if c = 104 then ((trip r).1 + (trip r).2.1 + (trip r).2.2, (trip r).2.1, (trip r).2.2) else if c = 112 then ((trip r).1, (trip r).1 + (trip r).2.1 + (trip r).2.2, (trip r).2.2) else ((trip r).1, (trip r).2.1, (trip r).1 + (trip r).2.1 + (trip r).2.2)
noncomputable abbrev unitF (x : Int) : Int := 1048576 * x
theorem trip_down {c : Nat} (h : isL c) (r : List Nat) :
    downF (unitF (trip (c :: r)).1) (unitF (trip (c :: r)).2.1) (unitF (trip (c :: r)).2.2) (idxL c) 0 (unitF (trip (c :: r)).1) = unitF (trip r).1 ∧
    downF (unitF (trip (c :: r)).1) (unitF (trip (c :: r)).2.1) (unitF (trip (c :: r)).2.2) (idxL c) 1 (unitF (trip (c :: r)).2.1) = unitF (trip r).2.1 ∧
    downF (unitF (trip (c :: r)).1) (unitF (trip (c :: r)).2.1) (unitF (trip (c :: r)).2.2) (idxL c) 2 (unitF (trip (c :: r)).2.2) = unitF (trip r).2.2 := by
  unfold downF unitF
  rcases h with rfl | rfl | rfl
  · simp only [trip, idxL, if_true]
    refine ⟨by lia, ?_, ?_⟩ <;> rw [if_neg (by decide)]
  · have e : ¬ (112 : Nat) = 104 := by decide
    simp only [trip, idxL, if_true, if_neg e]
    refine ⟨?_, by lia, ?_⟩ <;> rw [if_neg (by decide)]
  · have e : ¬ (97 : Nat) = 104 := by decide
    have e2 : ¬ (97 : Nat) = 112 := by decide
    simp only [trip, idxL, if_true, if_neg e, if_neg e2]
    refine ⟨?_, ?_, by lia⟩ <;> rw [if_neg (by decide)]
section
variable {w : World} {mean : ExcName → Option Value} {mg mb : Str → Option Value}
  {dp un : Nat} {gd : Option (List Code)} {fa : Addr} {cd : Value} {outer : List Env}
  {A₀ : Around} {base h₀ : Heap} {L : Addr} {m : Str → Option Value} {s : Shared} {Q : Flow → Shared → Prop} {E : Value → Shared → Prop}
noncomputable abbrev lampsL (ls : List Nat) (t1 t2 t3 : Tok) : Obj := LCg.lst [.int (unitF (trip ls).1) t1, .int (unitF (trip ls).2.1) t2, .int (unitF (trip ls).2.2) t3]
/-- what holds between the turns of the lamps -/
inductive LampsInv (L : Addr) (oT oR oX oH oS : Obj) (H : Addr) (a b c : Int) (ta tb tc : Tok) (rest : List (Addr × Obj)) (ls : List Nat) (m : Str → Option Value) (i : Nat) (m' : Str → Option Value) (l : List (Addr × Obj)) : Prop
  | mk (hm' : SameButL [Str.ofString "turn", Str.ofString "back"] m m') (tk : Tok) (oK' oM' : Obj) (M' : Addr) (t1 t2 t3 : Tok) (v1 : Option Value) (hb : m' (Str.ofString "back") = some (.str ⟨(ls.take i).toArray⟩ tk))
    (el : l = cellsL L oK' oM' oT oR oX oH oS ++ (M', lampsL (ls.drop i) t1 t2 t3) :: (H, LCg.lst [.int a ta, .int b tb, .int c tc]) :: rest) (hM : oM'.data = .cell (some (.ref M'))) (hK : oK'.data = .cell v1)
    (off : OffC L ((M', lampsL (ls.drop i) t1 t2 t3) :: (H, LCg.lst [.int a ta, .int b tb, .int c tc]) :: rest)) : LampsInv L oT oR oX oH oS H a b c ta tb tc rest ls m i m' l
set_option maxHeartbeats 0 in
theorem law_seen (oK oM oT oR oX oH oS : Obj) (rest : List (Addr × Obj)) (H M : Addr) (a b c : Int) (ls : List Nat) (ta tb tc t1 t2 t3 tl tk : Tok) (v0 : Option Value)
    (B1 : Below A₀ base outer h₀) (X1 : (K w.params).In h₀) (T1 : Top q loose mean mg mb h₀)
    (F1 : Fr h₀ L s.heap m) (N1 : News h₀ L s.heap (cellsL L oK oM oT oR oX oH oS ++ (M, lampsL ls t1 t2 t3) :: (H, LCg.lst [.int a ta, .int b tb, .int c tc]) :: rest))
    (hm : m (Str.ofString "letters") = some (.str ⟨ls.toArray⟩ tl)) (hm2 : m (Str.ofString "back") = some (.str ⟨([] : List Nat).toArray⟩ tk))
    (hM : oM.data = .cell (some (.ref M))) (hH : oH.data = .cell (some (.ref H))) (hK : oK.data = .cell v0)
    (hb : 0 ≤ b ∧ b < 1000000000000) (hls : ls.length ≤ 6) (hl : ∀ x ∈ ls, isL x)
    (hseen : ∀ i x, ls[i]? = some x → SeenAt (unitF (trip (ls.drop i)).1) (unitF (trip (ls.drop i)).2.1) (unitF (trip (ls.drop i)).2.2) (b + (i : Nat)) (idxL x))
    (hoff : OffC L ((M, lampsL ls t1 t2 t3) :: (H, LCg.lst [.int a ta, .int b tb, .int c tc]) :: rest))
    (hd : dp + 20 + 20 < recursionLimit) (hu : un + 300 < cLine)
    (hret : ∀ (m' : Str → Option Value) (oK' oM' : Obj) (M' : Addr) (t1 t2 t3 tk : Tok) (h' : Heap) (tk' : Nat), SameButL [Str.ofString "turn", Str.ofString "back"] m m' → m' (Str.ofString "back") = some (.str ⟨ls.toArray⟩ tk) → Fr h₀ L h' m' →
      News h₀ L h' (cellsL L oK' oM' oT oR oX oH oS ++ (M', lampsL [] t1 t2 t3) :: (H, LCg.lst [.int a ta, .int b tb, .int c tc]) :: rest) → oM'.data = .cell (some (.ref M')) →
      OffC L ((M', lampsL [] t1 t2 t3) :: (H, LCg.lst [.int a ta, .int b tb, .int c tc]) :: rest) → Q .next { s with heap := h', toks := tk' }) :
    wpAny (model PySem.Challenge.rw_rw0107_01.row.prog w) (lawA dp un gd L fa cd outer) (exec (lawS 12) (lawEnv L fa cd)) Q E s := by
  dsimp only [lawS, lawBody, lawA, lawEnv]
  revert X1; k_fill; intro X1
  have N2 := N1
  simp only [cellsL, List.cons_append, List.nil_append] at N2
  with_unfolding_all show wpAny _ _ (exec (Stmt.For _ _ _ _ _) _) _ _ _
  (try walk_at "mine:let")
  refine wpAny_For ?_
  k_steps
  rename IsRange _ _ _ _ _ _ _ _ => hr
  rename Fr _ _ _ _ => F3
  rename News _ _ _ _ => N3
  refine for_range (n := ls.length) (by rfl) F3 N3 hr (small_one (by lia) (by lia) (by lia) (by lia)) (by rw [rangeSize_nat]; lia)
    (LampsInv L oT oR oX oH oS H a b c ta tb tc rest ls m)
    ⟨fun _ _ => rfl, tk, oK, oM, M, t1, t2, t3, v0, hm2, rfl, hM, hK, hoff⟩ ?_ ?_
  · rintro i tn m' l h tk1 I oI s₁ rfl hi ⟨hm', tk2, oK', oM', M', t1, t2, t3, v1, hbk, rfl, hM', hK', hoff'⟩ hI F N
    obtain ⟨x, hx⟩ : ∃ x, ls[i]? = some x := ⟨_, List.getElem?_eq_getElem hi⟩
    have hxl : isL x := hl x (List.mem_of_getElem? hx)
    have hdrop : ls.drop i = x :: ls.drop (i + 1) := by rw [List.drop_eq_getElem_cons hi, (List.getElem?_eq_some_iff.mp hx).2]
    have hsn := hseen i x hx
    have hII : OffC L [(I, oI)] := offC_iter hI
    have hoff2 : OffC L ((M', lampsL (ls.drop i) t1 t2 t3) :: (H, LCg.lst [.int a ta, .int b tb, .int c tc]) :: (I, oI) :: rest) := by
      intro q hq
      rcases List.mem_cons.mp hq with h | h
      · exact hoff' q (by rw [h]; exact List.mem_cons_self)
      · rcases List.mem_cons.mp h with h | h
        · exact hoff' q (by rw [h]; exact List.mem_cons_of_mem _ List.mem_cons_self)
        · rcases List.mem_cons.mp h with h | h
          · rw [h]; exact hII _ List.mem_cons_self
          · exact hoff' q (List.mem_cons_of_mem _ (List.mem_cons_of_mem _ h))
    dsimp only [lawEnv]
    refine wpAny_assign_Name (wpAny_storeName_local (by with_unfolding_all rfl) F.ns (fun h₂ hn₂ hs₂ => ?_) (by rfl))
    have F4 : Fr h₀ L h₂ _ := ⟨hn₂, fun b o e => hs₂.extBut b o (Nat.ne_of_lt (Nat.lt_of_lt_of_le (Heap.lt_size e) F.above)) (F.keep b o e), F.above⟩
    have N4 : News h₀ L h₂ (cellsL L oK' oM' oT oR oX oH oS ++ (M', lampsL (ls.drop i) t1 t2 t3) :: (H, LCg.lst [.int a ta, .int b tb, .int c tc]) :: (I, oI) :: rest) := news_drop (fun p hp => ⟨hs₂.extBut p.1 p.2 (N p hp).2.1 (N p hp).1, (N p hp).2⟩) (by
      intro q hq
      rcases List.mem_append.mp hq with h | h
      · exact List.mem_cons_of_mem _ (List.mem_append_left _ h)
      · rcases List.mem_cons.mp h with h | h
        · exact List.mem_cons_of_mem _ (List.mem_append_right _ (by rw [h]; exact List.mem_cons_self))
        · rcases List.mem_cons.mp h with h | h
          · exact List.mem_cons_of_mem _ (List.mem_append_right _ (by rw [h]; exact List.mem_cons_of_mem _ List.mem_cons_self))
          · rcases List.mem_cons.mp h with h | h
            · rw [h]; exact List.mem_cons_self
            · exact List.mem_cons_of_mem _ (List.mem_append_right _ (List.mem_cons_of_mem _ (List.mem_cons_of_mem _ h))))
    refine wpAny_execs_cons ?_
    refine seen_stmt oK' oM' oT oR oX oH oS ((I, oI) :: rest) H M' a b c _ _ _ (idxL x) (0 + (i : Nat)) ta tb tc t1 t2 t3 tn v1 B1 X1 T1 F4 N4 (by with_unfolding_all rfl) hM' hH hK' hb (by lia) (by rw [Int.zero_add]; exact hsn) hoff2 hd hu ?_
    intro oK5 oM5 M5 u1 u2 u3 u4 h5 tk5 F5 N5 hM5 hK5 hoff5
    refine wpAny_execs_cons ?_
    obtain ⟨_, _, _, sok, _⟩ := hsn
    have hl0 := sok.l0
    refine down_stmt oK5 oM5 oT oR oX oH oS ((H, LCg.lst [.int a ta, .int b tb, .int c tc]) :: (I, oI) :: rest) M5 _ _ _ (idxL x) u1 u2 u3 u4 B1 X1 T1 F5 N5 hM5 hK5 (idx_in x) (hl0 _ (by simp)) (hl0 _ (by simp)) (hl0 _ (by simp)) hoff5 hd hu ?_
    intro oM6 M6 w1 w2 w3 h6 tk6 F6 N6 hM6 hoff6 hfar
    rw [hdrop] at N6 hoff6
    rw [(trip_down hxl (ls.drop (i + 1))).1, (trip_down hxl (ls.drop (i + 1))).2.1, (trip_down hxl (ls.drop (i + 1))).2.2] at N6 hoff6
    refine wpAny_execs_cons ?_
    refine back_stmt oK5 oM6 oT oR oX oH oS _ (ls.take i) x (idxL x) _ u4 B1 X1 T1 F6 N6 hbk (by rw [List.length_take]; lia) hK5 hxl rfl (idx_in x) hoff6 hd hu ?_
    intro t7 h7 tk7 F7 N7
    refine wpAny_execs_nil ?_
    have hfar2 := off1_all hfar
    refine FStep.next F7 (l' := cellsL L oK5 oM6 oT oR oX oH oS ++ (M6, lampsL (ls.drop (i + 1)) w1 w2 w3) :: (H, LCg.lst [.int a ta, .int b tb, .int c tc]) :: rest) (news_drop N7 ?_) ?_ ⟨fun y hy => ?_, t7, oK5, oM6, M6, w1, w2, w3, _, ?_, rfl, hM6, hK5, offC_sub hoff6 ?_⟩
    · intro q hq
      rcases List.mem_cons.mp hq with h | h
      · rw [h]; exact List.mem_append_right _ (List.mem_cons_of_mem _ (List.mem_cons_of_mem _ List.mem_cons_self))
      · rcases List.mem_append.mp h with h | h
        · exact List.mem_append_left _ h
        · rcases List.mem_cons.mp h with h | h
          · rw [h]; exact List.mem_append_right _ List.mem_cons_self
          · rcases List.mem_cons.mp h with h | h
            · rw [h]; exact List.mem_append_right _ (List.mem_cons_of_mem _ List.mem_cons_self)
            · exact List.mem_append_right _ (List.mem_cons_of_mem _ (List.mem_cons_of_mem _ (List.mem_cons_of_mem _ h)))
    · refine ne_cells hI fun q h => ?_
      rcases List.mem_cons.mp h with h | h
      · rw [h]; exact fun e => hfar2 (I, oI) (by simp) e.symm
      · exact hI q (List.mem_append_right _ (List.mem_cons_of_mem _ h))
    · simp only [List.mem_cons, List.not_mem_nil, or_false, not_or] at hy
      try dsimp only
      rw [if_neg hy.2, if_neg hy.1]
      exact hm' y (by simp [hy])
    · try dsimp only
      rw [if_pos rfl, take_snocN hx]
    · intro q hq
      rcases List.mem_cons.mp hq with h | h
      · rw [h]; exact List.mem_cons_self
      · rcases List.mem_cons.mp h with h | h
        · rw [h]; exact List.mem_cons_of_mem _ List.mem_cons_self
        · exact List.mem_cons_of_mem _ (List.mem_cons_of_mem _ (List.mem_cons_of_mem _ h))
  · rintro h' tk' m' l ⟨hm', tk2, oK', oM', M', t1, t2, t3, v1, hbk, rfl, hM', hK', hoff'⟩ F N
    rw [List.take_length] at hbk
    rw [List.drop_length] at N hoff'
    exact hret m' oK' oM' M' t1 t2 t3 tk2 h' tk' hm' hbk F N hM' hoff'
end
end
section
theorem start_Lw21 : True := by w_top off; exact trivial
noncomputable abbrev r64 : UInt64 := 4580160821035794432
theorem r64_is : Float64.div (Float64.ofInt 1048576) 4724276009111650304 = r64 := by decide +kernel
section
variable {w : World} {mean : ExcName → Option Value} {mg mb : Str → Option Value}
  {dp un : Nat} {gd : Option (List Code)} {fa : Addr} {cd : Value} {outer : List Env}
  {A₀ : Around} {base h₀ : Heap} {L : Addr} {m : Str → Option Value} {s : Shared} {Q : Flow → Shared → Prop} {E : Value → Shared → Prop}
set_option maxHeartbeats 0 in
theorem law_colour (oK oM oT oR oX oH oS : Obj) (rest : List (Addr × Obj)) (M : Addr) (t1 t2 t3 : Tok)
    (B1 : Below A₀ base outer h₀) (X1 : (K w.params).In h₀) (T1 : Top q loose mean mg mb h₀)
    (F1 : Fr h₀ L s.heap m) (N1 : News h₀ L s.heap (cellsL L oK oM oT oR oX oH oS ++ (M, LCg.lst [.int 1048576 t1, .int 1048576 t2, .int 1048576 t3]) :: rest))
    (hM : oM.data = .cell (some (.ref M)))
    (hoff : OffC L ((M, LCg.lst [.int 1048576 t1, .int 1048576 t2, .int 1048576 t3]) :: rest))
    (hd : dp + 20 + 20 < recursionLimit) (hu : un + 300 < cLine)
    (hret : ∀ (t1 t2 t3 : Tok) (h' : Heap) (tk' : Nat), 0 < t1 → 0 < t2 → 0 < t3 → 0 < tk' → Fr h₀ L h' (fun y => if y = Str.ofString "red" then some (.float r64 t1) else if y = Str.ofString "green" then some (.float r64 t2) else if y = Str.ofString "blue" then some (.float r64 t3) else m y) → News h₀ L h' (cellsL L oK oM oT oR oX oH oS ++ rest) → Q .next { s with heap := h', toks := tk' }) :
    wpAny (model PySem.Challenge.rw_rw0107_01.row.prog w) (lawA dp un gd L fa cd outer) (exec (lawS 13) (lawEnv L fa cd)) Q E s := by
  dsimp only [lawS, lawBody, lawA, lawEnv]
  revert X1; k_fill; intro X1
  simp only [cellsL, List.cons_append, List.nil_append] at N1
  with_unfolding_all show wpAny _ _ (exec (Stmt.Assign _ _ _) _) _ _ _
  (try walk_at "mine:let")
  k_steps
  rename Fr _ _ _ _ => F9
  rename News _ _ _ _ => N9
  have e0 : ([1048576, 1048576, 1048576] : List Int).getD (Int.toNat 0) 0 = 1048576 := rfl
  have e1 : ([1048576, 1048576, 1048576] : List Int).getD (Int.toNat 1) 0 = 1048576 := rfl
  have e2 : ([1048576, 1048576, 1048576] : List Int).getD (Int.toNat 2) 0 = 1048576 := rfl
  rw [e0, e1, e2, r64_is] at F9
  refine hret _ _ _ _ _ (Nat.succ_pos _) (Nat.succ_pos _) (Nat.succ_pos _) (Nat.succ_pos _) F9 (news_drop N9 ?_)
  walk_at "mine:sub"
set_option maxHeartbeats 0 in
theorem law_return (oK oM oT oR oX oH oS : Obj) (rest : List (Addr × Obj)) (ls : List Nat) (t1 t2 : Tok)
    (B1 : Below A₀ base outer h₀) (X1 : (K w.params).In h₀) (T1 : Top q loose mean mg mb h₀)
    (F1 : Fr h₀ L s.heap m)
    (hm1 : m (Str.ofString "back") = some (.str ⟨ls.toArray⟩ t1)) (hm2 : m (Str.ofString "letters") = some (.str ⟨ls.toArray⟩ t2))
    (hret : Q (.ret (.bool true)) s) :
    wpAny (model PySem.Challenge.rw_rw0107_01.row.prog w) (lawA dp un gd L fa cd outer) (exec (lawS 15) (lawEnv L fa cd)) Q E s := by
  dsimp only [lawS, lawBody, lawA, lawEnv]
  revert X1; k_fill; intro X1
  with_unfolding_all show wpAny _ _ (exec (Stmt.Return _ _) _) _ _ _
  (try walk_at "mine:let")
  k_steps
  rw [show ((⟨ls.toArray⟩ : Str) == ⟨ls.toArray⟩) = true from by simp]
  exact hret
end
end
section
open PySem
theorem runs_toks {M : Model} {Γ : PySem.Ctx} {p : Pos} {t : Sem Fin} {fs : List Frame} {s : Shared} {e : End} {s' : Shared} (h : Runs M Γ p t fs s e s') : s.toks ≤ s'.toks := by
  induction h
  all_goals first
    | exact Nat.le_refl _
    | assumption
    | exact Nat.le_trans ‹_› ‹_›
    | exact Nat.le_of_succ_le ‹_›
    | exact Nat.le_trans (by assumption) (by assumption)
theorem wakes_toks {M : Model} {Γ : PySem.Ctx} {p : Pos} {g : Nat} {r : Resume} {s : Shared} {res : GenResult} {s' : Shared} (h : Wakes M Γ p g r s res s') : s.toks ≤ s'.toks := by
  unfold Wakes at h
  split at h
  · exact h.elim
  · split at h
    · obtain ⟨e₁, s₁, hr, _, _, rfl⟩ := h; exact (show (s.setGen g .running).toks ≤ s₁.toks from runs_toks hr)
    · rw [h.2]; exact Nat.le_refl _
    · rw [h.2]; exact Nat.le_refl _
  · obtain ⟨e₁, s₁, hr, _, _, rfl⟩ := h; exact (show (s.setGen g .running).toks ≤ s₁.toks from runs_toks hr)
  · rw [h.2]; exact Nat.le_refl _
  · rw [h.2]; exact Nat.le_refl _
theorem wp_up {α : Type} {M : Model} {Γ : PySem.Ctx} {n : Nat} {Q : α → Pos → Shared → Prop} {E : Value → Pos → Shared → Prop} (t : Sem α) : ∀ {p : Pos} {s : Shared}, n ≤ s.toks → Sem.wp M Γ t Q E p s →
    Sem.wp M Γ t (fun a p' s' => n ≤ s'.toks ∧ Q a p' s') (fun e p' s' => n ≤ s'.toks ∧ E e p' s') p s := by
  induction t
  all_goals (intro p s hn h; simp only [Sem.wp] at h ⊢)
  all_goals first
    | exact h.elim
    | exact ⟨hn, h⟩
    | (rename_i ih; exact ih _ hn h)
    | (rename_i ih; exact ih _ (Nat.le_succ_of_le hn) h)
    | (rename_i ih; exact ⟨h.1, ih _ hn h.2⟩)
    | (rename_i ih; obtain ⟨o, e, h⟩ := h; exact ⟨o, e, ih _ hn h⟩)
    | (rename_i ih; obtain ⟨r, s', hr, h⟩ := h; exact ⟨r, s', hr, ih _ (Nat.le_trans hn (runs_toks hr)) h⟩)
    | (rename_i ih; obtain ⟨r, s', hr, h⟩ := h; exact ⟨r, s', hr, ih _ (Nat.le_trans hn (wakes_toks hr)) h⟩)
/-- the counter of tokens only grows: what a walk ends in may be told so -/
theorem wpAny_up {α : Type} {M : Model} {A : Around} {t : Sem α} {Q : α → Shared → Prop} {E : Value → Shared → Prop} {s : Shared} (h : wpAny M A t (fun v s' => s.toks ≤ s'.toks → Q v s') E s) : wpAny M A t Q E s := fun Γ p hΓ =>
  Sem.wp_mono M Γ t (fun _ _ _ x => x.2 x.1) (fun _ _ _ x => x.2) p s (wp_up t (Nat.le_refl _) (h Γ p hΓ))
end
section
theorem frac_is : Float64.ofFrac (decide ((1 : Int) < 0) != decide ((64 : Int) < 0)) (Int.natAbs 1) (Int.natAbs 64) = r64 := by decide +kernel
theorem zero_eq : (Float64.cmp 0 0 == some Ordering.eq) = true := by decide +kernel
theorem r64_eq : (Float64.cmp r64 r64 == some Ordering.eq) = true := by decide +kernel
theorem hsv_ok : hsvOk r64 r64 r64 = true := by decide +kernel
theorem hls_ok : hlsOk r64 r64 r64 = true := by decide +kernel
theorem hsv_is : hsvF r64 r64 r64 = (0, 0, r64) := by decide +kernel
theorem hls_is : hlsF r64 r64 r64 = (0, r64, 0) := by decide +kernel
theorem isSame_float {M : Model} {A : Around} {E : Value → Shared → Prop} {s : Shared} {x : UInt64} {u v : Tok} {Q : Bool → Shared → Prop}
    (hu : 0 < u) (hv : 0 < v) (hb : NoneBooked s.heap) (hq : ∀ b, Q b s) : wpAny M A (isSame (.float x u) (.float x v)) Q E s := by
  show wpAny M A (isSame.created (x == x && !Float64.isNaN x) u v) Q E s
  unfold isSame.created
  refine wpAny_ite ?_
  split
  · rename_i h
    rw [show (u == 0) = false from beq_eq_false_iff_ne.mpr (Nat.ne_of_gt hu), show (v == 0) = false from beq_eq_false_iff_ne.mpr (Nat.ne_of_gt hv)] at h
    cases h
  refine wpAny_ite ?_
  split
  · exact wpAny_pure (hq _)
  refine wpAny_ite ?_
  split
  · exact wpAny_pure (hq _)
  refine wpAny_bind (wpAny_sharingNotTold_none hb ?_)
  first | rw [if_neg Bool.false_ne_true] | simp only [Bool.false_eq_true, if_false]
  refine wpAny_bind (wpAny_sharingNotTold_none hb ?_)
  first | rw [if_neg Bool.false_ne_true] | simp only [Bool.false_eq_true, if_false]
  exact wpAny_bind (wpAny_rule (wpAny_bind (wpAny_askSetting (wpAny_pure (hq _)))))
theorem float_eq {A : Around} {s : Shared} (x : UInt64) (t u : Tok) (ht : 0 < t) (hu : 0 < u) (hb : NoneBooked s.heap) (h : (Float64.cmp x x == some Ordering.eq) = true) : SeqAt.EqAt A s (.float x t) (.float x u) true := fun prog w E Q hq => by
  unfold eqBool
  refine wpAny_holding ?_
  refine wpAny_ite_split (fun _ => ?_) (fun _ => ?_)
  · exact wpAny_bind (wpAny_rule (wpAny_pure hq))
  · refine wpAny_bind (isSame_float ht hu hb fun b => ?_)
    cases b
    · rw [if_neg Bool.false_ne_true]
      refine wpAny_bind (AutoFloatOps.eq_0 ?_)
      rw [h]
      exact wpAny_truthy_bool hq
    · rw [if_pos rfl]
      exact wpAny_pure hq
theorem floats_ne {prog : Program} {w : World} {A : Around} {E : Value → Shared → Prop} {s : Shared} {h₀ : Heap} {L a b : Addr} {news : List (Addr × Obj)} {Q : Value → Shared → Prop} (N : News h₀ L s.heap news) (x y z : UInt64) {t1 t2 t3 u1 u2 u3 : Tok} (p1 : 0 < t1 ∧ 0 < t2 ∧ 0 < t3) (p2 : 0 < u1 ∧ 0 < u2 ∧ 0 < u3) (hbk : NoneBooked s.heap)
    (ha : (a, tupO #[.float x t1, .float y t2, .float z t3]) ∈ news) (hb : (b, tupO #[.float x u1, .float y u2, .float z u3]) ∈ news)
    (hx : (Float64.cmp x x == some Ordering.eq) = true) (hy : (Float64.cmp y y == some Ordering.eq) = true) (hz : (Float64.cmp z z == some Ordering.eq) = true) (hu : A.units < cLine) (h : Q (.bool false) s) :
    wpAny (model prog w) A (compareOp .NotEq (.ref a) (.ref b)) Q E s := by
  have hA : s.heap.IsTuple a #[.float x t1, .float y t2, .float z t3] := ⟨_, (N _ ha).1, rfl, 0, rfl⟩
  have hB : s.heap.IsTuple b #[.float x u1, .float y u2, .float z u3] := ⟨_, (N _ hb).1, rfl, 0, rfl⟩
  refine SeqAt.RcNeAt.tuples (e := fun _ => true) hA hB hu (fun j h1 h2 => ?_) prog w E Q h
  match j, h1, h2 with
  | 0, _, _ => exact float_eq x t1 u1 p1.1 p2.1 hbk hx
  | 1, _, _ => exact float_eq y t2 u2 p1.2.1 p2.2.1 hbk hy
  | 2, _, _ => exact float_eq z t3 u3 p1.2.2 p2.2.2 hbk hz
section
variable {prog : Program} {w : World} {A : Around} {E : Value → Shared → Prop} {s : Shared} {h₀ : Heap} {L : Addr} {m : Str → Option Value} {news : List (Addr × Obj)}
theorem best3P (bt : UInt64 → UInt64 → Bool) (a b c : UInt64) (t u x : Tok) (v : Value)
    (ht : 0 < t) (hu : 0 < u) (hx : 0 < x) (h : (#[Value.float a t, Value.float b u, Value.float c x])[argBest (fun i j => bt ([a, b, c].getD i 0) ([a, b, c].getD j 0)) 2]? = some v) :
    ∃ k, 0 < k ∧ v = .float (if bt c (if bt b a then b else a) then c else (if bt b a then b else a)) k := by
  cases hba : bt b a with
  | true =>
    cases hc : bt c b with
    | true =>
      have e : argBest (fun i j => bt ([a, b, c].getD i 0) ([a, b, c].getD j 0)) 2 = 2 := by simp [argBest, hba, hc]
      rw [e] at h; exact ⟨x, hx, by simpa [hba, hc] using h.symm⟩
    | false =>
      have e : argBest (fun i j => bt ([a, b, c].getD i 0) ([a, b, c].getD j 0)) 2 = 1 := by simp [argBest, hba, hc]
      rw [e] at h; exact ⟨u, hu, by simpa [hba, hc] using h.symm⟩
  | false =>
    cases hc : bt c a with
    | true =>
      have e : argBest (fun i j => bt ([a, b, c].getD i 0) ([a, b, c].getD j 0)) 2 = 2 := by simp [argBest, hba, hc]
      rw [e] at h; exact ⟨x, hx, by simpa [hba, hc] using h.symm⟩
    | false =>
      have e : argBest (fun i j => bt ([a, b, c].getD i 0) ([a, b, c].getD j 0)) 2 = 0 := by simp [argBest, hba, hc]
      rw [e] at h; exact ⟨t, ht, by simpa [hba, hc] using h.symm⟩
theorem max3P {a b c : UInt64} {t u x : Tok} {Q : Value → Shared → Prop} (hh : A.handled = none) (F : Fr h₀ L s.heap m) (N : News h₀ L s.heap news)
    (ht : 0 < t) (hu : 0 < u) (hx : 0 < x) (h : ∀ h' tk k, 0 < k → Fr h₀ L h' m → News h₀ L h' news → Q (.float (max3F a b c) k) { s with heap := h', toks := tk }) :
    wpAny (model prog w) A (call (.builtin "max") [.float a t, .float b u, .float c x]) Q E s := by
  have hT : (s.heap.push { cls := .type "tuple", data := .seq #[.float a t, .float b u, .float c x] }).IsTuple s.heap.objs.size #[.float a t, .float b u, .float c x] := ⟨_, Heap.get?_push_size _ rfl, rfl, 0, rfl⟩
  refine call_max_three (wpAny_pyIter_tuple hT ?_)
  have hsz : (s.heap.push { cls := .type "tuple", data := .seq #[.float a t, .float b u, .float c x] }).objs.size = s.heap.objs.size + 1 := Heap.size_push ..
  refine ⟨_, [_, s.heap.objs.size], [_], _, _, _, fun i j => gtF ([a, b, c].getD i 0) ([a, b, c].getD j 0), rfl, Walks.tuple (A := A.in1) hh _ s.heap.objs.size (by rw [hsz]; exact Nat.ne_of_lt (Nat.lt_succ_self _)) #[.float a t, .float b u, .float c x],
    ⟨⟨_, Heap.get?_push_size _ rfl, rfl, rfl⟩, hT.push _⟩, fun d hd => ?_, by simp, fun i j vi vj s Q E hi hj h => ?_, fun v h' tk hP hk => ?_⟩
  · show d < ((s.heap.push _).push _).objs.size
    rw [Heap.size_push, hsz]
    rcases List.mem_cons.mp hd with rfl | hd
    · rw [hsz]; exact Nat.lt_succ_self _
    · rcases List.mem_cons.mp hd with rfl | hd
      · exact Nat.lt_succ_of_lt (Nat.lt_succ_self _)
      · cases hd
  · obtain ⟨_, rfl⟩ := floats_at hi
    obtain ⟨_, rfl⟩ := floats_at hj
    exact AutoFloatOps.gt_0 h
  · have hold : ∀ d o, s.heap.get? d = some o → h'.get? d = some o := fun d o e => by
      refine hk d o (fun hm => ?_) (Heap.get?_push_of_some _ (Heap.get?_push_of_some _ e))
      rcases List.mem_cons.mp hm with e1 | hm
      · have := Heap.lt_size e; rw [e1, hsz] at this; exact Nat.lt_irrefl _ (Nat.lt_of_succ_lt this)
      · cases hm
    obtain ⟨k, hk0, rfl⟩ := best3P gtF a b c t u x v ht hu hx hP
    exact h h' tk k hk0 (F.grownK hold) (N.grown hold)
theorem min3P {a b c : UInt64} {t u x : Tok} {Q : Value → Shared → Prop} (hh : A.handled = none) (F : Fr h₀ L s.heap m) (N : News h₀ L s.heap news)
    (ht : 0 < t) (hu : 0 < u) (hx : 0 < x) (h : ∀ h' tk k, 0 < k → Fr h₀ L h' m → News h₀ L h' news → Q (.float (min3F a b c) k) { s with heap := h', toks := tk }) :
    wpAny (model prog w) A (call (.builtin "min") [.float a t, .float b u, .float c x]) Q E s := by
  have hT : (s.heap.push { cls := .type "tuple", data := .seq #[.float a t, .float b u, .float c x] }).IsTuple s.heap.objs.size #[.float a t, .float b u, .float c x] := ⟨_, Heap.get?_push_size _ rfl, rfl, 0, rfl⟩
  refine call_min_three (wpAny_pyIter_tuple hT ?_)
  have hsz : (s.heap.push { cls := .type "tuple", data := .seq #[.float a t, .float b u, .float c x] }).objs.size = s.heap.objs.size + 1 := Heap.size_push ..
  refine ⟨_, [_, s.heap.objs.size], [_], _, _, _, fun i j => ltF ([a, b, c].getD i 0) ([a, b, c].getD j 0), rfl, Walks.tuple (A := A.in1) hh _ s.heap.objs.size (by rw [hsz]; exact Nat.ne_of_lt (Nat.lt_succ_self _)) #[.float a t, .float b u, .float c x],
    ⟨⟨_, Heap.get?_push_size _ rfl, rfl, rfl⟩, hT.push _⟩, fun d hd => ?_, by simp, fun i j vi vj s Q E hi hj h => ?_, fun v h' tk hP hk => ?_⟩
  · show d < ((s.heap.push _).push _).objs.size
    rw [Heap.size_push, hsz]
    rcases List.mem_cons.mp hd with rfl | hd
    · rw [hsz]; exact Nat.lt_succ_self _
    · rcases List.mem_cons.mp hd with rfl | hd
      · exact Nat.lt_succ_of_lt (Nat.lt_succ_self _)
      · cases hd
  · obtain ⟨_, rfl⟩ := floats_at hi
    obtain ⟨_, rfl⟩ := floats_at hj
    exact AutoFloatOps.lt_0 h
  · have hold : ∀ d o, s.heap.get? d = some o → h'.get? d = some o := fun d o e => by
      refine hk d o (fun hm => ?_) (Heap.get?_push_of_some _ (Heap.get?_push_of_some _ e))
      rcases List.mem_cons.mp hm with e1 | hm
      · have := Heap.lt_size e; rw [e1, hsz] at this; exact Nat.lt_irrefl _ (Nat.lt_of_succ_lt this)
      · cases hm
    obtain ⟨k, hk0, rfl⟩ := best3P ltF a b c t u x v ht hu hx hP
    exact h h' tk k hk0 (F.grownK hold) (N.grown hold)
end
end
section
theorem start_Lw23 : True := by w_top off; exact trivial
local macro_rules | `(tactic| walk_at "call builtin:max") => `(tactic| (k_here; (refine wpAny_up (max3P ?k0 (by k_asm) (by k_asm) (by assumption) (by assumption) (by assumption) ?_); (case k0 => with_unfolding_all rfl); k_whole); intro h' tk' t' p' F' N' q'; (try dsimp only at q')))
local macro_rules | `(tactic| walk_at "call builtin:min") => `(tactic| (k_here; (refine wpAny_up (min3P ?k0 (by k_asm) (by k_asm) (by assumption) (by assumption) (by assumption) ?_); (case k0 => with_unfolding_all rfl); k_whole); intro h' tk' t' p' F' N' q'; (try dsimp only at q')))
local macro_rules | `(tactic| walk_at "compareOp Eq float float") => `(tactic| (k_here; refine AutoFloatOps.eq_0 ?_; rw [show (Float64.cmp (min3F _ _ _) (max3F _ _ _) == some Ordering.eq) = true from by assumption]; k_whole))
local macro_rules | `(tactic| walk_at "execs cons") => `(tactic| (k_here; (with_reducible show wpAny _ _ (execs (_ :: _) _) _ _ _); refine wpAny_execs_cons (wpAny_up ?_)))
/-- a call upon one grey that gives back a fresh tuple; no token of it is 0 -/
noncomputable def ClaimG (f : Addr) (r g b x y z : UInt64) : Prop :=
  ∀ (t1 t2 t3 : Tok) (w : World) (mean : ExcName → Option Value) (mg mb : Str → Option Value) (news : List (Addr × Obj))
    (dp un : Nat) (gd : Option (List Code)) (cn : Str) (cs : Scope) (a : Addr) (ccd : Value) (cl : List (Str × Addr)) (outer : List Env)
    (A₀ : Around) (base h₀ : Heap) (L : Addr) (m : Str → Option Value) (s : Shared) (Q E : Value → Shared → Prop), 0 < t1 → 0 < t2 → 0 < t3 → 
    Below A₀ base outer h₀ → Fr h₀ L s.heap m → (K w.params).In h₀ → News h₀ L s.heap news → Top q loose mean mg mb h₀ → cs.kind = .function →
    dp + 20 + 0 < recursionLimit → un + 100 + 10 * 0 < cLine →
    (∀ D t u v h' tk', 0 < t → 0 < u → 0 < v → Fr h₀ L h' m → News h₀ L h' ((D, tupO #[.float x t, .float y u, .float z v]) :: news) → (∀ p ∈ news, p.1 < D) → Q (.ref D) { s with heap := h', toks := tk' }) →
    wpAny (model PySem.Challenge.rw_rw0107_01.row.prog w) (ktrTop dp un gd cn cs L a ccd cl outer) (call (.ref f) [.float r t1, .float g t2, .float b t3]) Q E s
set_option maxHeartbeats 0 in
theorem t_hsvG (r g b : UInt64) (hg : (Float64.cmp (min3F r g b) (max3F r g b) == some Ordering.eq) = true) : ClaimG 92 r g b 0 0 (max3F r g b) := by
  dsimp only [ClaimG]; k_fill
  intro t1 t2 t3 w mean mg mb news dp un gd cn cs a ccd cl outer A₀ base h₀ L m s Q E p1 p2 p3 B F X N T hk hd hu hret
  refine wpAny_call ?_
  k_dflt cell_enter
  (try walk_at "mine:let")
  k_steps
  refine hret _ _ _ _ _ _ ?_ ?_ ?_ (by k_asm) (by k_asm) (by assumption)
  all_goals first
    | assumption
    | exact Nat.succ_pos _
    | (dsimp only at *; omega)
set_option maxHeartbeats 0 in
theorem t_hlsG (r g b : UInt64) (hg : (Float64.cmp (min3F r g b) (max3F r g b) == some Ordering.eq) = true) : ClaimG 85 r g b 0 (lightF r g b) 0 := by
  dsimp only [ClaimG]; k_fill
  intro t1 t2 t3 w mean mg mb news dp un gd cn cs a ccd cl outer A₀ base h₀ L m s Q E p1 p2 p3 B F X N T hk hd hu hret
  refine wpAny_call ?_
  k_dflt cell_enter
  (try walk_at "mine:let")
  k_steps
  refine hret _ _ _ _ _ _ ?_ ?_ ?_ (by k_asm) (by k_asm) (by assumption)
  all_goals first
    | assumption
    | exact Nat.succ_pos _
    | (dsimp only at *; omega)
end
section
theorem start_Lw24 : True := by w_top off; exact trivial
theorem booked_keep {h₀ h : Heap} {L : Addr} {m : Str → Option Value} (hb : NoneBooked h₀) (F : Fr h₀ L h m) : NoneBooked h := let ⟨mc, hn, e⟩ := hb; ⟨mc, hn.at' fun o e => F.keep _ o e, e⟩
theorem max_r64 : max3F r64 r64 r64 = r64 := by decide +kernel
theorem light_r64 : lightF r64 r64 r64 = r64 := by decide +kernel
theorem grey_r64 : (Float64.cmp (min3F r64 r64 r64) (max3F r64 r64 r64) == some Ordering.eq) = true := by decide +kernel
theorem t_hsv64 : ClaimG 92 r64 r64 r64 0 0 r64 := by
  have := t_hsvG r64 r64 r64 grey_r64
  rw [max_r64] at this
  exact this
theorem t_hls64 : ClaimG 85 r64 r64 r64 0 r64 0 := by
  have := t_hlsG r64 r64 r64 grey_r64
  rw [light_r64] at this
  exact this
section
variable {w : World} {mean : ExcName → Option Value} {mg mb : Str → Option Value}
  {dp un : Nat} {gd : Option (List Code)} {fa : Addr} {cd : Value} {outer : List Env}
  {A₀ : Around} {base h₀ : Heap} {L : Addr} {m : Str → Option Value} {s : Shared} {Q : Flow → Shared → Prop} {E : Value → Shared → Prop}
set_option maxHeartbeats 0 in
theorem law_grey (oK oM oT oR oX oH oS : Obj) (rest : List (Addr × Obj)) (t1 t2 t3 : Tok)
    (B1 : Below A₀ base outer h₀) (X1 : (K w.params).In h₀) (T1 : Top q loose mean mg mb h₀)
    (F1 : Fr h₀ L s.heap m) (N1 : News h₀ L s.heap (cellsL L oK oM oT oR oX oH oS ++ rest)) (hoff : OffC L rest) (hbk : NoneBooked h₀) (p0 : 0 < s.toks) (p1 : 0 < t1) (p2 : 0 < t2) (p3 : 0 < t3)
    (hm1 : m (Str.ofString "red") = some (.float r64 t1)) (hm2 : m (Str.ofString "green") = some (.float r64 t2)) (hm3 : m (Str.ofString "blue") = some (.float r64 t3))
    (hd : dp + 20 + 20 < recursionLimit) (hu : un + 300 < cLine)
    (hret : ∀ (h' : Heap) (tk' : Nat), Fr h₀ L h' m → News h₀ L h' (cellsL L oK oM oT oR oX oH oS ++ rest) → Q .next { s with heap := h', toks := tk' }) :
    wpAny (model PySem.Challenge.rw_rw0107_01.row.prog w) (lawA dp un gd L fa cd outer) (exec (lawS 14) (lawEnv L fa cd)) Q E s := by
  have stp0 : StopCall 92 := ⟨rfl, trivial⟩
  have stp1 : StopCall 85 := ⟨rfl, trivial⟩
  dsimp only [lawS, lawBody, lawA, lawEnv]
  revert X1; k_fill; intro X1
  simp only [cellsL, List.cons_append, List.nil_append] at N1
  with_unfolding_all show wpAny _ _ (exec (Stmt.If _ _ _ _) _) _ _ _
  k_steps
  unfold Hlt
  refine wpAny_up (t_hsv64 _ _ _ w mean mg mb _ dp un gd _ lawScope fa cd (lawCl L) outer A₀ base h₀ L m _ _ _ p1 p2 p3 B1 F1 X1 N1 T1 rfl (by lia) (by lia) ?_)
  intro D5 t5 u5 v5 h5 tk5 pt5 pu5 pv5 F5 N5 hl5 hle5
  dsimp only at hle5
  clear F1 N1
  k_steps
  unfold Hlt
  rename Fr _ _ _ _ => F6
  rename News _ _ _ _ => N6
  rw [frac_is] at N6
  refine floats_ne N6 0 0 r64 ⟨pt5, pu5, pv5⟩ ⟨Nat.lt_of_lt_of_le p0 hle5, Nat.succ_pos _, Nat.succ_pos _⟩ (booked_keep hbk F6) (.tail _ (.head _)) (.head _) zero_eq zero_eq r64_eq (by ke_room) ?_
  k_steps
  unfold Hlt
  refine wpAny_up (t_hls64 _ _ _ w mean mg mb _ dp un gd _ lawScope fa cd (lawCl L) outer A₀ base h₀ L m _ _ _ p1 p2 p3 B1 F6 X1 N6 T1 rfl (by lia) (by lia) ?_)
  intro D7 t7 u7 v7 h7 tk7 pt7 pu7 pv7 F7 N7 hl7 hle7
  dsimp only at hle7
  clear F6
  k_steps
  unfold Hlt
  rename Fr _ _ _ _ => F8
  rename News _ _ _ _ => N8
  rw [frac_is] at N8
  refine floats_ne N8 0 r64 0 ⟨pt7, pu7, pv7⟩ ⟨Nat.lt_of_lt_of_le (Nat.succ_pos _) hle7, Nat.succ_pos _, Nat.succ_pos _⟩ (booked_keep hbk F8) (.tail _ (.head _)) (.head _) zero_eq r64_eq zero_eq (by ke_room) ?_
  k_steps
  refine hret _ _ F8 (news_drop N8 ?_)
  walk_at "mine:sub"
end
end
section
theorem lawBody_is : lawBody = [lawS 0, lawS 1, lawS 2, lawS 3, lawS 4, lawS 5, lawS 6, lawS 7, lawS 8, lawS 9, lawS 10, lawS 11, lawS 12, lawS 13, lawS 14, lawS 15] := by kernel_rfl
theorem flat_rev : ∀ z : List (List Nat), z.reverse.flatMap List.reverse = z.flatten.reverse
  | [] => rfl
  | p :: r => by rw [List.reverse_cons, List.flatMap_append, flat_rev r]; simp
theorem sub_move {α : Type} {cells objs ws : List α} {M H a b : α} : ∀ q ∈ cells ++ M :: H :: (objs ++ a :: b :: ws), q ∈ cells ++ M :: (objs ++ a :: b :: H :: ws) := by
  walk_at "mine:sub"
theorem wt_tup (t : Wt) : t.obj.2 ≠ tabObj #[] := fun e => nomatch (congrArg Obj.cls e)
/-- the plain law: the row is the closed letters -/
noncomputable def RowLaw : Prop := ∀ ls : List Nat, ls.length ≤ 6 → 0 < ls.length → (∀ c ∈ ls, isL c) → rowFold ls.reverse [] = closesF ls
/-- the plain law: the lamps of the row -/
noncomputable def LampLaw : Prop := ∀ ls : List Nat, ls.length ≤ 6 → 0 < ls.length → (∀ c ∈ ls, isL c) → lampF 104 (closesF ls) = unitF (trip ls).1 ∧ lampF 112 (closesF ls) = unitF (trip ls).2.1 ∧ lampF 97 (closesF ls) = unitF (trip ls).2.2
/-- the plain law: what is seen of the lamps -/
noncomputable def SeenLaw : Prop := ∀ (x : Nat) (r : List Nat) (kd : Int), 0 ≤ kd → r.length ≤ 5 → isL x → (∀ c ∈ r, isL c) → SeenAt (unitF (trip (x :: r)).1) (unitF (trip (x :: r)).2.1) (unitF (trip (x :: r)).2.2) kd (idxL x)
section
variable {w : World} {mean : ExcName → Option Value} {mg mb : Str → Option Value}
  {dp un : Nat} {gd : Option (List Code)} {fa : Addr} {cd : Value} {outer : List Env}
  {A₀ : Around} {base h₀ : Heap} {L : Addr} {m : Str → Option Value} {s : Shared} {Q : Flow → Shared → Prop} {E : Value → Shared → Prop}
set_option maxHeartbeats 0 in
theorem law_all (row_law : RowLaw) (lamp_law : LampLaw) (seen_law : SeenLaw) (oK oM oT oR oX oH oS : Obj) (sc : Addr) (vs : List Value) (ns : List Int)
    (B1 : Below A₀ base outer h₀) (X1 : (K w.params).In h₀) (T1 : Top q loose mean mg mb h₀)
    (F1 : Fr h₀ L s.heap m) (N1 : News h₀ L s.heap (cellsL L oK oM oT oR oX oH oS ++ [(136, tabObj #[])]))
    (hS : oS.data = .cell (some (.ref sc))) (hH : oH.data = .cell none) (hX : oX.data = .cell none) (hR : oR.data = .cell none) (hT : oT.data = .cell none) (hM : oM.data = .cell none) (hK : oK.data = .cell none)
    (hsc : h₀.IsList sc vs.toArray) (hi : IntsAre vs ns) (hn : ns.length ≤ 63) (hL : @LT.lt Nat _ 136 L) (hbk : NoneBooked h₀)
    (hd : dp + 20 + 20 < recursionLimit) (hu : un + 300 < cLine)
    (hret : ∀ (m' : Str → Option Value) (h' : Heap) (tk' : Nat) (news' : List (Addr × Obj)), Fr h₀ L h' m' → News h₀ L h' news' → (∃ T, ((136 : Addr), tabObj T) ∈ news') → Q (.ret (.bool true)) { s with heap := h', toks := tk' }) :
    wpAny (model PySem.Challenge.rw_rw0107_01.row.prog w) (lawA dp un gd L fa cd outer) (execs lawBody (lawEnv L fa cd)) Q E s := by
  rw [lawBody_is]
  have off136 : ∀ T : Array Value, OffC L [((136 : Addr), tabObj T)] := fun T q hq i i1 i7 => by
    rw [List.mem_singleton.mp hq]
    exact Nat.ne_of_lt (Nat.lt_of_lt_of_le hL (Nat.le_add_right _ _))
  refine wpAny_execs_cons ?_
  refine law_heaps oK oM oT oR oX oH oS _ sc vs ns B1 X1 T1 F1 N1 hS hH hsc hi hn (off136 _) hd hu ?_
  intro H ys a b c oH1 h1 tk1 F2 N2 hys hH1 habc off2
  obtain ⟨ta, tb, tc, rfl⟩ := ints_three hys
  have ha := habc a (by simp)
  have hb := habc b (by simp)
  have hc := habc c (by simp)
  refine wpAny_execs_cons ?_
  refine law_letters oK oM oT oR oX oH1 oS _ H a b c ta tb tc B1 X1 T1 F2 N2 hH1 ha (offC_sub off2 fun q hq => List.mem_cons_of_mem _ hq) hd hu ?_
  intro ls tl h2 tk2 F3 N3 hls hls0 hlL
  refine wpAny_execs_cons ?_
  refine law_words oK oM oT oR oX oH1 oS _ H a b c ta tb tc tl ls B1 X1 T1 F3 N3 (if_pos rfl) hH1 hb hls hlL off2 hd hu ?_
  intro R wts rn h3 tk3 F4 N4 hwts off4
  have hwl : wts.length ≤ 6 := by
    have e := congrArg List.length hwts
    rw [List.length_map, List.length_reverse] at e
    have := words_count 6 ls b
    lia
  have hW : ∀ t ∈ wts, t.w.1.length = 3 ∧ prepL t.w.1 = t.w.2.1 ∧ (∀ x ∈ t.w.2.2, isL x) := by
    intro t ht
    have hm : t.w ∈ wordsF 6 ls b := by
      have : t.w ∈ wts.map (·.w) := List.mem_map_of_mem ht
      rw [hwts] at this
      exact List.mem_reverse.mp this
    refine words_each (P := fun p => p.1.length = 3 ∧ prepL p.1 = p.2.1 ∧ ∀ x ∈ p.2.2, isL x) 6 ls b hlL (fun c r f hc hr => ⟨word_three c r f, word_fold hc f, fun x hx => ?_⟩) _ hm
    have e : (wordF (c :: r) f).2.2 = (headF (c :: r) f).2 := rfl
    rw [e, head_prefix] at hx
    rcases List.mem_cons.mp (List.mem_of_mem_take hx) with h | h
    · rw [h]; exact hc
    · exact hr x h
  have hread : readL wts = ls.reverse := by
    have e : readL wts = ((wts.map (·.w)).map (fun p => p.2.2)).flatMap List.reverse := by unfold readL; simp [List.flatMap_map]
    rw [e, hwts, List.map_reverse]
    rw [flat_rev]
    exact congrArg List.reverse (words_parts 6 ls b hls)
  have N4' : News h₀ L h3 (cellsL L oK oM oT oR oX oH1 oS ++ (R, listOf (refsW wts).toArray rn) :: (H, LCg.lst [.int a ta, .int b tb, .int c tc]) :: (wts.map Wt.obj ++ [(136, tabObj #[])])) := news_drop N4 (by
    walk_at "mine:sub")
  have off5 : OffC L ((R, listOf (refsW wts).toArray rn) :: (H, LCg.lst [.int a ta, .int b tb, .int c tc]) :: wts.map Wt.obj) := offC_sub off4 (by
    walk_at "mine:sub")
  refine wpAny_execs_cons ?_
  refine law_text oK oM oT oR oX oH1 oS _ R H wts rn a b c ta tb tc B1 X1 T1 F4 N4' (if_pos rfl) hH1 hc hwl (fun t ht => Nat.le_of_eq (hW t ht).1) hd hu ?_
  intro tt h4 tk4 F5 N5
  have hlen : (textR c 0 (wts.map (·.w.1))).length ≤ 54 := by
    have h1 := text_length c (n := 3) 0 (wts.map (·.w.1)) (by
      intro q hq
      obtain ⟨t', ht', rfl⟩ := List.mem_map.mp hq
      exact Nat.le_of_eq (hW t' ht').1)
    rw [List.length_map] at h1
    have h3 := Nat.mul_le_mul hwl (Nat.le_refl (2 * 3 + 3))
    lia
  have h136 : ∀ p ∈ (R, listOf (refsW wts).toArray rn) :: (H, LCg.lst [.int a ta, .int b tb, .int c tc]) :: wts.map Wt.obj, p.1 ≠ 136 := by
    intro p hp
    have hpm : p ∈ cellsL L oK oM oT oR oX oH1 oS ++ (R, listOf (refsW wts).toArray rn) :: (H, LCg.lst [.int a ta, .int b tb, .int c tc]) :: (wts.map Wt.obj ++ [(136, tabObj #[])]) := by
      revert p
      walk_at "mine:sub"
    have h6 : ((136 : Addr), tabObj #[]) ∈ cellsL L oK oM oT oR oX oH1 oS ++ (R, listOf (refsW wts).toArray rn) :: (H, LCg.lst [.int a ta, .int b tb, .int c tc]) :: (wts.map Wt.obj ++ [(136, tabObj #[])]) := by walk_at "mine:mem"
    refine News.twoPlaces N5 hpm h6 ?_
    rcases List.mem_cons.mp hp with rfl | hp
    · exact fun e => nomatch (congrArg Obj.cls e)
    · rcases List.mem_cons.mp hp with rfl | hp
      · exact fun e => nomatch (congrArg Obj.cls e)
      · obtain ⟨t, _, rfl⟩ := List.mem_map.mp hp
        exact wt_tup t
  have N5' : News h₀ L h4 ((136, tabObj #[]) :: (cellsL L oK oM oT oR oX oH1 oS ++ (R, listOf (refsW wts).toArray rn) :: (H, LCg.lst [.int a ta, .int b tb, .int c tc]) :: wts.map Wt.obj)) := news_drop N5 (by
    walk_at "mine:sub")
  refine wpAny_execs_cons ?_
  refine law_lexer oK oM oT oR oX oH1 oS _ (textR c 0 (wts.map (·.w.1))) tt B1 X1 T1 F5 N5' (if_pos rfl) hX (by lia) off5 h136 hL hd hu ?_
  intro k T oX1 lt yr nn pn h5 tk5 F6 N6 ok hch hX1 hk7 hkall
  have off6 : OffC L ((136, tabObj T) :: (R, listOf (refsW wts).toArray rn) :: (H, LCg.lst [.int a ta, .int b tb, .int c tc]) :: wts.map Wt.obj) := offC_app (off136 T) off5
  have off6k : ∀ (ln : Int) (lt : Tok) (yr : List Value) (nn pn : Nat), OffC L (k.objs w.params ln lt yr nn [] pn ++ (136, tabObj T) :: (R, listOf (refsW wts).toArray rn) :: (H, LCg.lst [.int a ta, .int b tb, .int c tc]) :: wts.map Wt.obj) := fun _ _ _ _ _ => lex_offC ok hk7 off6
  have ofl : OffL k ((136, tabObj T) :: (R, listOf (refsW wts).toArray rn) :: (H, LCg.lst [.int a ta, .int b tb, .int c tc]) :: wts.map Wt.obj) := lex_offL ok hkall
  have oflc : ∀ oK oM oT oR oX oH oS, OffL k (cellsL L oK oM oT oR oX oH oS) := fun oK oM oT oR oX oH oS => lex_offL ok (by
    have h7 : @LT.lt Nat _ (L + 7) k.cl := hk7
    have g : ∀ i : Nat, i ≤ 7 → @LT.lt Nat _ (L + i) k.cl := fun i hi => Nat.lt_of_le_of_lt (Nat.add_le_add_left hi L) h7
    exact List.forall_mem_cons.mpr ⟨g 7 (by decide), List.forall_mem_cons.mpr ⟨g 6 (by decide), List.forall_mem_cons.mpr ⟨g 5 (by decide), List.forall_mem_cons.mpr ⟨g 4 (by decide), List.forall_mem_cons.mpr ⟨g 3 (by decide), List.forall_mem_cons.mpr ⟨g 2 (by decide), List.forall_mem_cons.mpr ⟨g 1 (by decide), fun _ x => nomatch x⟩⟩⟩⟩⟩⟩⟩)
  refine wpAny_execs_cons ?_
  refine law_row0 oK oM oT oR oX1 oH1 oS _ B1 X1 T1 F6 N6 hR (off6k _ _ _ _ _) ?_
  intro oR1 tr h6 tk6 F7 N7 hR1
  refine wpAny_execs_cons ?_
  refine law_turns oK oM oT oR1 oX1 oH1 oS _ k ok lt yr nn pn H R wts rn b c a b c ta tb tc tr _ B1 X1 T1 F7 N7 (by rw [if_neg (by decide)]; exact if_pos rfl) hT hR1 hX1 hH1 hc (by simp) (fun t ht => by simp only [List.mem_cons, List.mem_map]; exact .inr (.inr (.inr ⟨t, ht, rfl⟩))) (by simp) hW (by rw [hread, List.length_reverse]; exact hls) hwl hch (off6k _ _ _ _ _) (oflc _ _ _ _ _ _ _) ofl hd hu ?_
  intro m8 oT8 oR8 v8 t8 ln8 lt8 yr8 nn8 pn8 r8 h8 tk8 sb8 F8 N8 hT8 hR8 hch8 hpe8 hnl8
  rw [hread, row_law ls hls hls0 hlL] at hR8
  refine wpAny_execs_cons ?_
  refine law_closed0 oK oM oT8 oR8 oX1 oH1 oS _ B1 X1 T1 F8 N8 ?_
  intro tc9 h9 tk9 F9 N9
  refine wpAny_execs_cons ?_
  refine law_closes oK oM oT8 oR8 oX1 oH1 oS _ ls tl tc9 v8 B1 X1 T1 F9 N9 ?_ (if_pos rfl) hT8 hls (off6k _ _ _ _ _) hd hu ?_
  · rw [if_neg (by decide), sb8 _ (by decide), if_neg (by decide), if_neg (by decide), if_pos rfl]
  intro m10 oT10 v10 tc10 h10 tk10 sb10 hcl10 F10 N10 hT10
  have hback : m10 (Str.ofString "letters") = some (.str ⟨ls.toArray⟩ tl) := by
    rw [sb10 _ (by decide), if_neg (by decide), sb8 _ (by decide), if_neg (by decide), if_neg (by decide), if_pos rfl]
  have htext : m10 (Str.ofString "text") = some (.str ⟨(textR c 0 (wts.map (·.w.1))).toArray⟩ tt) := by
    rw [sb10 _ (by decide), if_neg (by decide), sb8 _ (by decide), if_pos rfl]
  have hr8 : r8.length ≤ 1000000 := by
    rcases hpe8 with h | ⟨e, _, h⟩ <;> rw [h]
    · exact Nat.zero_le _
    · exact Nat.le_of_ble_eq_true rfl
  have hrow : (closesF ls).length ≤ 63 := by
    rw [← row_law ls hls hls0 hlL]
    exact rowFold_six (by rw [List.length_reverse]; exact hls)
  refine wpAny_execs_cons ?_
  refine law_ends oK oM oT10 oR8 oX1 oH1 oS _ k ok ln8 lt8 yr8 nn8 pn8 r8 (closesF ls) (textR c 0 (wts.map (·.w.1))) t8 tc10 tt B1 X1 T1 F10 N10 hcl10 htext hR8 hX1 hch8 (text_end hpe8) hr8 (by lia) hnl8 (oflc _ _ _ _ _ _ _) ofl hd hu ?_
  intro ln11 lt11 yr11 nn11 h11 tk11 F11 N11
  refine wpAny_execs_cons ?_
  refine law_lamps oK oM oT10 oR8 oX1 oH1 oS _ (closesF ls) t8 none B1 X1 T1 F11 N11 hR8 hM hrow (off6k _ _ _ _ _) hd hu ?_
  intro M oM12 u1 u2 u3 h12 tk12 F12 N12 hM12 off12
  rw [(lamp_law ls hls hls0 hlL).1, (lamp_law ls hls hls0 hlL).2.1, (lamp_law ls hls hls0 hlL).2.2] at N12 off12
  refine wpAny_execs_cons ?_
  refine law_back0 oK oM12 oT10 oR8 oX1 oH1 oS _ B1 X1 T1 F12 N12 ?_
  intro tb13 h13 tk13 F13 N13
  have N13' : News h₀ L h13 (cellsL L oK oM12 oT10 oR8 oX1 oH1 oS ++ (M, lampsL ls u1 u2 u3) :: (H, LCg.lst [.int a ta, .int b tb, .int c tc]) :: (k.objs w.params ln11 lt11 yr11 nn11 [] pn8 ++ (136, tabObj T) :: (R, listOf (refsW wts).toArray rn) :: wts.map Wt.obj)) := news_drop N13 sub_move
  have off13 : OffC L ((M, lampsL ls u1 u2 u3) :: (H, LCg.lst [.int a ta, .int b tb, .int c tc]) :: (k.objs w.params ln11 lt11 yr11 nn11 [] pn8 ++ (136, tabObj T) :: (R, listOf (refsW wts).toArray rn) :: wts.map Wt.obj)) := offC_sub off12 (sub_move (cells := []))
  refine wpAny_execs_cons ?_
  refine law_seen oK oM12 oT10 oR8 oX1 oH1 oS _ H M a b c ls ta tb tc u1 u2 u3 tl tb13 none B1 X1 T1 F13 N13' ?_ (if_pos rfl) hM12 hH1 hK hb hls hlL (fun i x hx => ?_) off13 hd hu ?_
  · rw [if_neg (by decide)]; exact hback
  · have hi := (List.getElem?_eq_some_iff.mp hx).1
    have hdrop : ls.drop i = x :: ls.drop (i + 1) := by rw [List.drop_eq_getElem_cons hi, (List.getElem?_eq_some_iff.mp hx).2]
    rw [hdrop]
    exact seen_law x (ls.drop (i + 1)) (b + (i : Nat)) (by lia) (by rw [List.length_drop]; lia) (hlL x (List.mem_of_getElem? hx)) (fun y hy => hlL y (List.mem_of_mem_drop hy))
  intro m14 oK14 oM14 M14 y1 y2 y3 tb14 h14 tk14 sb14 hbk14 F14 N14 hM14 off14
  refine wpAny_execs_cons ?_
  refine law_colour oK14 oM14 oT10 oR8 oX1 oH1 oS _ M14 y1 y2 y3 B1 X1 T1 F14 N14 hM14 off14 hd hu ?_
  intro z1 z2 z3 h15 tk15 q1 q2 q3 q0 F15 N15
  refine wpAny_execs_cons ?_
  refine law_grey oK14 oM14 oT10 oR8 oX1 oH1 oS _ z1 z2 z3 B1 X1 T1 F15 N15 (offC_sub off14 fun q hq => List.mem_cons_of_mem _ hq) hbk q0 q1 q2 q3 (if_pos rfl) ((if_neg (by decide)).trans (if_pos rfl)) ((if_neg (by decide)).trans ((if_neg (by decide)).trans (if_pos rfl))) hd hu ?_
  intro h16 tk16 F16 N16
  refine wpAny_execs_cons ?_
  refine law_return oK14 oM14 oT10 oR8 oX1 oH1 oS [] ls tb14 tl B1 X1 T1 F16 ?_ ?_ ?_
  · rw [if_neg (by decide), if_neg (by decide), if_neg (by decide)]; exact hbk14
  · rw [if_neg (by decide), if_neg (by decide), if_neg (by decide), sb14 _ (by decide), if_neg (by decide)]; exact hback
  exact hret _ _ _ _ F16 N16 ⟨T, by walk_at "mine:mem"⟩
end
end
section
open PySem PyProof.Rows
/-- the first rest that is a prefix of R; what stands before it, reversed -/
noncomputable def goP (R : List Nat) : List Nat → List Nat → List Nat
  | [], acc => acc
  | c :: t, acc => if (c :: t).isPrefixOf R then acc else goP R t (c :: acc)
noncomputable def closed2 (L : List Nat) : List Nat := L ++ goP L.reverse L []
theorem pal_prefix (a b : List Nat) : palF b = b.isPrefixOf (a ++ b).reverse := by
  unfold palF
  rw [List.reverse_append, Bool.eq_iff_iff, beq_iff_eq, List.isPrefixOf_iff_prefix]
  constructor
  · intro h; rw [← h]; exact ⟨_, rfl⟩
  · rintro ⟨t, h⟩
    exact (List.append_inj h (by simp)).1
theorem goP_is (R : List Nat) : ∀ (l acc : List Nat), l ≠ [] → palF [l.getLast?.getD 0] = true → (∀ a, l.drop a ≠ [] → (l.drop a).isPrefixOf R = palF (l.drop a)) →
    goP R l acc = (l.take (((List.range l.length).find? fun k => palF (l.drop k)).getD 0)).reverse ++ acc
  | [], _, h, _, _ => absurd rfl h
  | c :: t, acc, _, _, hp => by
    unfold goP
    have h0 : (c :: t).isPrefixOf R = palF (c :: t) := hp 0 (by simp)
    rw [h0, List.length_cons, List.range_succ_eq_map, List.find?_cons]
    have e0 : (c :: t).drop 0 = c :: t := rfl
    rw [e0]
    cases hpal : palF (c :: t)
    · simp only [Bool.false_eq_true, if_false]
      have ht : t ≠ [] := by
        intro e
        subst e
        exact absurd hpal (by simp [palF])
      rw [goP_is R t (c :: acc) ht (by simp [palF]) (fun a ha => hp (a + 1) ha), List.find?_map]
      have e1 : (fun k => palF ((c :: t).drop k)) ∘ Nat.succ = fun k => palF (t.drop k) := rfl
      rw [e1]
      obtain ⟨k, hk⟩ : ∃ k, (List.range t.length).find? (fun k => palF (t.drop k)) = some k := by
        cases hf : (List.range t.length).find? (fun k => palF (t.drop k)) with
        | some k => exact ⟨k, rfl⟩
        | none =>
          exfalso
          have hl : 0 < t.length := List.length_pos_iff.mpr ht
          have := List.find?_eq_none.mp hf (t.length - 1) (List.mem_range.mpr (by lia))
          apply this
          have : (t.drop (t.length - 1)).length = 1 := by rw [List.length_drop]; exact Nat.sub_sub_self (by lia)
          obtain ⟨y, hy⟩ := List.length_eq_one_iff.mp this
          rw [hy]
          simp [palF]
      rw [hk]
      simp
    · simp
theorem closed2_is (L : List Nat) (h : L ≠ []) : closedF L = closed2 L := by
  unfold closedF closed2 placeF
  rw [goP_is L.reverse L [] h (by simp [palF]) (fun a _ => ?_), List.append_nil]
  have := pal_prefix (L.take a) (L.drop a)
  rw [List.take_append_drop] at this
  exact this.symm
noncomputable def rowsOk : Nat → List Nat → List Nat → Bool
  | 0, _, _ => true
  | n + 1, pre, acc => [104, 112, 97].all fun x => (rowFold (x :: pre) [] == closed2 (acc ++ [x])) && rowsOk n (x :: pre) (rowFold (x :: pre) [])
theorem rowsOk_spec : ∀ (n : Nat) (pre acc : List Nat), rowsOk n pre acc = true → acc = closesF pre.reverse → ∀ suf : List Nat, suf.length ≤ n → 0 < suf.length → (∀ c ∈ suf, isL c) →
    rowFold (pre.reverse ++ suf).reverse [] = closesF (pre.reverse ++ suf)
  | 0, _, _, _, _, suf, h, h0, _ => absurd (Nat.lt_of_lt_of_le h0 h) (Nat.lt_irrefl 0)
  | n + 1, pre, acc, hok, hacc, [], _, h0, _ => absurd h0 (Nat.lt_irrefl 0)
  | n + 1, pre, acc, hok, hacc, x :: t, h, _, hl => by
    unfold rowsOk at hok
    rw [List.all_eq_true] at hok
    have hx : x ∈ [104, 112, 97] := by rcases hl x List.mem_cons_self with rfl | rfl | rfl <;> simp
    have := hok x hx
    rw [Bool.and_eq_true, beq_iff_eq] at this
    obtain ⟨h1, h2⟩ := this
    have e : rowFold (x :: pre) [] = closesF (x :: pre).reverse := by
      rw [h1, List.reverse_cons, closesF_snoc, ← hacc]
      exact (closed2_is _ (by simp)).symm
    have er : pre.reverse ++ x :: t = (x :: pre).reverse ++ t := by simp
    rw [er]
    cases t with
    | nil => rw [List.append_nil, List.reverse_reverse]; exact e
    | cons y u => exact rowsOk_spec n (x :: pre) _ h2 e (y :: u) (by simpa using h) (by simp) (fun c hc => hl c (List.mem_cons_of_mem _ hc))
end
section
open PySem PyProof.Rows
theorem cnt_psi_same (x : Nat) : ∀ row : List Nat, cnt x (row.flatMap (psiL x)) = (row.length : Int)
  | [] => rfl
  | y :: r => by
    rw [List.flatMap_cons, cnt_append, cnt_psi_same x r, List.length_cons]
    unfold psiL
    by_cases h : x = y
    · rw [if_pos h, cnt_cons, cnt_nil, if_pos rfl]; lia
    · rw [if_neg h, cnt_cons, cnt_cons, cnt_nil, if_pos rfl, if_neg (Ne.symm h)]; lia
theorem cnt_psi_other {x c : Nat} (hc : c ≠ x) : ∀ row : List Nat, cnt c (row.flatMap (psiL x)) = cnt c row
  | [] => rfl
  | y :: r => by
    rw [List.flatMap_cons, cnt_append, cnt_psi_other hc r, cnt_cons]
    unfold psiL
    by_cases h : x = y
    · rw [if_pos h, cnt_cons, cnt_nil, if_neg (Ne.symm hc), if_neg (by rw [← h]; exact Ne.symm hc)]; lia
    · rw [if_neg h, cnt_cons, cnt_cons, cnt_nil, if_neg (Ne.symm hc)]; lia
theorem cnt_step_same (x : Nat) (row : List Nat) : cnt x (rowStep x row) = (row.length : Int) + 1 := by
  unfold rowStep
  rw [cnt_append, cnt_psi_same, cnt_cons, cnt_nil, if_pos rfl]; lia
theorem cnt_step_other {x c : Nat} (hc : c ≠ x) (row : List Nat) : cnt c (rowStep x row) = cnt c row := by
  unfold rowStep
  rw [cnt_append, cnt_psi_other hc, cnt_cons, cnt_nil, if_neg (Ne.symm hc)]; lia
theorem cnt_all : ∀ row : List Nat, (∀ c ∈ row, isL c) → (row.length : Int) = cnt 104 row + cnt 112 row + cnt 97 row
  | [], _ => rfl
  | y :: r, h => by
    have ih := cnt_all r fun c hc => h c (List.mem_cons_of_mem _ hc)
    rw [List.length_cons, cnt_cons, cnt_cons, cnt_cons]
    rcases h y List.mem_cons_self with rfl | rfl | rfl <;> simp <;> lia
theorem lamp_rows : ∀ ls : List Nat, (∀ c ∈ ls, isL c) → lampF 104 (rowFold ls.reverse []) = unitF (trip ls).1 ∧ lampF 112 (rowFold ls.reverse []) = unitF (trip ls).2.1 ∧ lampF 97 (rowFold ls.reverse []) = unitF (trip ls).2.2
  | [], _ => ⟨rfl, rfl, rfl⟩
  | x :: r, h => by
    obtain ⟨i1, i2, i3⟩ := lamp_rows r fun c hc => h c (List.mem_cons_of_mem _ hc)
    rw [List.reverse_cons, rowFold_snoc]
    have hall := cnt_all (rowFold r.reverse []) (rowFold_isL (fun c hc => h c (List.mem_cons_of_mem _ (List.mem_reverse.mp hc))) fun _ hc => nomatch hc)
    unfold lampF unitF at *
    rcases h x List.mem_cons_self with rfl | rfl | rfl
    · rw [cnt_step_same, cnt_step_other (by decide), cnt_step_other (by decide)]
      simp only [trip, if_true]
      lia
    · have e : ¬ (112 : Nat) = 104 := by decide
      rw [cnt_step_same, cnt_step_other (c := 104) (by decide), cnt_step_other (c := 97) (by decide)]
      simp only [trip, if_neg e, if_true]
      lia
    · have e : ¬ (97 : Nat) = 104 := by decide
      have e2 : ¬ (97 : Nat) = 112 := by decide
      rw [cnt_step_same, cnt_step_other (c := 104) (by decide), cnt_step_other (c := 112) (by decide)]
      simp only [trip, if_neg e, if_neg e2]
      lia
theorem lamp_law (h : RowLaw) : LampLaw := fun ls hl h0 hL => by
  rw [← h ls hl h0 hL]
  exact lamp_rows ls hL
theorem rows_0 : rowsOk 3 [] [] = true := by decide +kernel
theorem rows_hhh : rowsOk 3 [104, 104, 104] (rowFold [104, 104, 104] []) = true := by decide +kernel
theorem rows_hhp : rowsOk 3 [112, 104, 104] (rowFold [112, 104, 104] []) = true := by decide +kernel
theorem rows_hha : rowsOk 3 [97, 104, 104] (rowFold [97, 104, 104] []) = true := by decide +kernel
theorem rows_hph : rowsOk 3 [104, 112, 104] (rowFold [104, 112, 104] []) = true := by decide +kernel
theorem rows_hpp : rowsOk 3 [112, 112, 104] (rowFold [112, 112, 104] []) = true := by decide +kernel
theorem rows_hpa : rowsOk 3 [97, 112, 104] (rowFold [97, 112, 104] []) = true := by decide +kernel
theorem rows_hah : rowsOk 3 [104, 97, 104] (rowFold [104, 97, 104] []) = true := by decide +kernel
theorem rows_hap : rowsOk 3 [112, 97, 104] (rowFold [112, 97, 104] []) = true := by decide +kernel
theorem rows_haa : rowsOk 3 [97, 97, 104] (rowFold [97, 97, 104] []) = true := by decide +kernel
theorem rows_phh : rowsOk 3 [104, 104, 112] (rowFold [104, 104, 112] []) = true := by decide +kernel
theorem rows_php : rowsOk 3 [112, 104, 112] (rowFold [112, 104, 112] []) = true := by decide +kernel
theorem rows_pha : rowsOk 3 [97, 104, 112] (rowFold [97, 104, 112] []) = true := by decide +kernel
theorem rows_pph : rowsOk 3 [104, 112, 112] (rowFold [104, 112, 112] []) = true := by decide +kernel
theorem rows_ppp : rowsOk 3 [112, 112, 112] (rowFold [112, 112, 112] []) = true := by decide +kernel
theorem rows_ppa : rowsOk 3 [97, 112, 112] (rowFold [97, 112, 112] []) = true := by decide +kernel
theorem rows_pah : rowsOk 3 [104, 97, 112] (rowFold [104, 97, 112] []) = true := by decide +kernel
theorem rows_pap : rowsOk 3 [112, 97, 112] (rowFold [112, 97, 112] []) = true := by decide +kernel
theorem rows_paa : rowsOk 3 [97, 97, 112] (rowFold [97, 97, 112] []) = true := by decide +kernel
theorem rows_ahh : rowsOk 3 [104, 104, 97] (rowFold [104, 104, 97] []) = true := by decide +kernel
theorem rows_ahp : rowsOk 3 [112, 104, 97] (rowFold [112, 104, 97] []) = true := by decide +kernel
theorem rows_aha : rowsOk 3 [97, 104, 97] (rowFold [97, 104, 97] []) = true := by decide +kernel
theorem rows_aph : rowsOk 3 [104, 112, 97] (rowFold [104, 112, 97] []) = true := by decide +kernel
theorem rows_app : rowsOk 3 [112, 112, 97] (rowFold [112, 112, 97] []) = true := by decide +kernel
theorem rows_apa : rowsOk 3 [97, 112, 97] (rowFold [97, 112, 97] []) = true := by decide +kernel
theorem rows_aah : rowsOk 3 [104, 97, 97] (rowFold [104, 97, 97] []) = true := by decide +kernel
theorem rows_aap : rowsOk 3 [112, 97, 97] (rowFold [112, 97, 97] []) = true := by decide +kernel
theorem rows_aaa : rowsOk 3 [97, 97, 97] (rowFold [97, 97, 97] []) = true := by decide +kernel
theorem rows_three {a b c : Nat} (ha : isL a) (hb : isL b) (hc : isL c) : rowsOk 3 [c, b, a] (rowFold [c, b, a] []) = true := by
  rcases ha with rfl | rfl | rfl <;> rcases hb with rfl | rfl | rfl <;> rcases hc with rfl | rfl | rfl
  · exact rows_hhh
  · exact rows_hhp
  · exact rows_hha
  · exact rows_hph
  · exact rows_hpp
  · exact rows_hpa
  · exact rows_hah
  · exact rows_hap
  · exact rows_haa
  · exact rows_phh
  · exact rows_php
  · exact rows_pha
  · exact rows_pph
  · exact rows_ppp
  · exact rows_ppa
  · exact rows_pah
  · exact rows_pap
  · exact rows_paa
  · exact rows_ahh
  · exact rows_ahp
  · exact rows_aha
  · exact rows_aph
  · exact rows_app
  · exact rows_apa
  · exact rows_aah
  · exact rows_aap
  · exact rows_aaa
theorem row_law : RowLaw := fun ls hl h0 hL => by
  by_cases h3 : ls.length ≤ 3
  · exact rowsOk_spec 3 [] [] rows_0 rfl ls h3 h0 hL
  · match ls, hl, h3, hL with
    | a :: b :: c :: t, hl, h3, hL =>
      have ha : isL a := hL a (by simp)
      have hb : isL b := hL b (by simp)
      have hc : isL c := hL c (by simp)
      have hbase := rowsOk_spec 3 [] [] rows_0 rfl [a, b, c] (Nat.le_refl 3) (by simp) (by
        intro x hx
        simp only [List.mem_cons, List.not_mem_nil, or_false] at hx
        rcases hx with rfl | rfl | rfl <;> assumption)
      have ht : 0 < t.length := by simp only [List.length_cons] at h3; lia
      have htl : t.length ≤ 3 := by simp only [List.length_cons] at hl; lia
      exact rowsOk_spec 3 [c, b, a] _ (rows_three ha hb hc) hbase t htl ht (fun x hx => hL x (by simp [hx]))
    | [], _, h3, _ => exact absurd (by simp) h3
    | [_], _, h3, _ => exact absurd (by simp) h3
    | [_, _], _, h3, _ => exact absurd (by simp) h3
end
section
open PySem PySem.Float64
/-- the float t/64 -/
noncomputable def P (t : Nat) : UInt64 := ofFrac false t 64
theorem P_pack (t : Nat) : P t = pack false (roundMag t 64) := by
  unfold P ofFrac
  rfl
noncomputable def finP (t : Nat) : Bool := (match decode (P t) with | .fin s _ _ => !s | _ => false) && (val (P t) == (t : Int) * 2 ^ 1068) && decide (roundMag t 64 < infMag)
theorem P_all : ∀ t, t < 65 → finP t = true := by decide +kernel
theorem P_fin {t : Nat} (h : t < 65) : (∃ m e, decode (P t) = .fin false m e) ∧ val (P t) = (t : Int) * 2 ^ 1068 ∧ roundMag t 64 < infMag := by
  have := P_all t h
  unfold finP at this
  rw [Bool.and_eq_true, Bool.and_eq_true, beq_iff_eq, decide_eq_true_iff] at this
  obtain ⟨⟨h1, h2⟩, h3⟩ := this
  refine ⟨?_, h2, h3⟩
  split at h1
  · rename_i s m e hd
    cases s
    · exact ⟨m, e, hd⟩
    · cases h1
  · cases h1
theorem P_div : ∀ t : Nat, t < 65 → Float64.div (Float64.ofInt (1048576 * (t : Int))) 4724276009111650304 = P t := by decide +kernel
theorem P_one : ∀ t, t < 65 → Float64.sub 4607182418800017408 (P t) = P (64 - t) := by decide +kernel
theorem pow_pos' : (0 : Int) < 2 ^ 1068 := by decide +kernel
theorem cmp_P {i j : Nat} (hi : i < 65) (hj : j < 65) : cmp (P i) (P j) = some (compare ((i : Int) * 2 ^ 1068) ((j : Int) * 2 ^ 1068)) := by
  obtain ⟨⟨m, e, h1⟩, h2, _⟩ := P_fin hi
  obtain ⟨⟨k, f, h3⟩, h4, _⟩ := P_fin hj
  rw [cmp_right h1 h3, h2, h4]
theorem gt_P {i j : Nat} (hi : i < 65) (hj : j < 65) : gtF (P i) (P j) = decide (j < i) := by
  unfold gtF
  rw [cmp_P hi hj, Bool.eq_iff_iff, beq_iff_eq, decide_eq_true_iff, Option.some.injEq, Int.compare_eq_gt]
  generalize hw : (2 : Int) ^ 1068 = w
  have hp : 0 < w := hw ▸ pow_pos'
  constructor
  · intro h
    exact Int.ofNat_lt.mp (Int.lt_of_mul_lt_mul_right h (Int.le_of_lt hp))
  · intro h
    exact Int.mul_lt_mul_of_pos_right (Int.ofNat_lt.mpr h) hp
theorem lt_P {i j : Nat} (hi : i < 65) (hj : j < 65) : ltF (P i) (P j) = decide (i < j) := by
  unfold ltF
  rw [cmp_P hi hj, Bool.eq_iff_iff, beq_iff_eq, decide_eq_true_iff, Option.some.injEq, Int.compare_eq_lt]
  generalize hw : (2 : Int) ^ 1068 = w
  have hp : 0 < w := hw ▸ pow_pos'
  constructor
  · intro h
    exact Int.ofNat_lt.mp (Int.lt_of_mul_lt_mul_right h (Int.le_of_lt hp))
  · intro h
    exact Int.mul_lt_mul_of_pos_right (Int.ofNat_lt.mpr h) hp
theorem eq_P {i j : Nat} (hi : i < 65) (hj : j < 65) : (cmp (P i) (P j) == some Ordering.eq) = decide (i = j) := by
  rw [cmp_P hi hj, Bool.eq_iff_iff, beq_iff_eq, decide_eq_true_iff, Option.some.injEq, Int.compare_eq_eq]
  generalize hw : (2 : Int) ^ 1068 = w
  have hp : 0 < w := hw ▸ pow_pos'
  constructor
  · intro h
    exact Int.ofNat_inj.mp (Int.eq_of_mul_eq_mul_right (Int.ne_of_gt hp) h)
  · intro h; rw [h]
theorem exact_of {r : UInt64} {W T : Nat} (h : Right r false W 1) (hT : V T = W) (hTi : T < infMag) (hW : W ≤ 2 ^ 1075) : r = pack false T := by
  obtain ⟨t, rfl, h1, h2, h3⟩ := h
  have hlt : t < infMag := by
    refine Nat.lt_of_le_of_ne h1 fun e => ?_
    have := h2.mp e
    have hb : 2 * 2 ^ 1075 < 1 * ((2 ^ 54 - 1) * 2 ^ 2045) := by decide +kernel
    exact absurd (Nat.lt_of_lt_of_le hb this) (Nat.not_lt.mpr (Nat.mul_le_mul_left 2 hW))
  have h4 := (h3 hlt T).1
  rw [Nat.one_mul, Nat.one_mul, hT] at h4
  have e : V t = W := by
    unfold dist at h4
    lia
  have : t = T := by
    rcases Nat.lt_trichotomy t T with h | h | h
    · exact absurd (V_lt h) (by rw [e, hT]; exact Nat.lt_irrefl _)
    · exact h
    · exact absurd (V_lt h) (by rw [e, hT]; exact Nat.lt_irrefl _)
  rw [this]
theorem zero_P : Float64.zero false = P 0 := by decide +kernel
theorem sub_P {i j : Nat} (hi : i < 65) (hji : j ≤ i) : Float64.sub (P i) (P j) = P (i - j) := by
  have hj : j < 65 := Nat.lt_of_le_of_lt hji hi
  obtain ⟨⟨m, e, h1⟩, h2, _⟩ := P_fin hi
  obtain ⟨⟨k, f, h3⟩, h4, _⟩ := P_fin hj
  have hs := sub_right h1 h3
  rw [h2, h4] at hs
  obtain ⟨⟨m', e', h1'⟩, h5, h6⟩ := P_fin (t := i - j) (by lia)
  have hv : val (P (i - j)) = sgn false (V (roundMag (i - j) 64)) := by rw [P_pack]; exact val_pack false h6
  rw [h5] at hv
  have hd : (i : Int) * 2 ^ 1068 - (j : Int) * 2 ^ 1068 = ((i - j : Nat) : Int) * 2 ^ 1068 := by rw [Int.ofNat_sub hji, Int.sub_mul]
  rw [hd] at hs
  have hV : V (roundMag (i - j) 64) = (i - j) * 2 ^ 1068 := by
    have e : sgn false (V (roundMag (i - j) 64)) = ((V (roundMag (i - j) 64) : Nat) : Int) := rfl
    rw [e] at hv
    have : (((i - j) * 2 ^ 1068 : Nat) : Int) = ((V (roundMag (i - j) 64) : Nat) : Int) := by rw [← hv]; simp
    exact (Int.ofNat_inj.mp this).symm
  by_cases h0 : i - j = 0
  · rw [h0] at hs ⊢
    rw [hs.1 (by simp)]
    exact zero_P
  · have hpos : (0 : Int) < ((i - j : Nat) : Int) * 2 ^ 1068 := Int.mul_pos (by lia) pow_pos'
    have hr := hs.2 (Int.ne_of_gt hpos)
    rw [decide_eq_false (Int.not_lt.mpr (Int.le_of_lt hpos))] at hr
    have hn : (((i - j : Nat) : Int) * 2 ^ 1068).natAbs = (i - j) * 2 ^ 1068 := by
      rw [Int.natAbs_mul]; rfl
    rw [hn] at hr
    rw [P_pack (i - j)]
    refine exact_of hr hV h6 ?_
    have : (i - j) * 2 ^ 1068 ≤ 128 * 2 ^ 1068 := Nat.mul_le_mul_right _ (by lia)
    exact Nat.le_trans this (by decide +kernel)
end
section
open PySem PySem.Float64
noncomputable def mx3 (i j k : Nat) : Nat := if (if i < j then j else i) < k then k else (if i < j then j else i)
noncomputable def mn3 (i j k : Nat) : Nat := if k < (if j < i then j else i) then k else (if j < i then j else i)
theorem max3_P {i j k : Nat} (hi : i < 65) (hj : j < 65) (hk : k < 65) : max3F (P i) (P j) (P k) = P (mx3 i j k) := by
  unfold max3F mx3
  rw [gt_P hj hi]
  by_cases h : i < j
  · simp only [h, decide_true, if_true]
    rw [gt_P hk hj]
    by_cases h2 : j < k <;> simp [h2]
  · simp only [h, decide_false, if_false, Bool.false_eq_true]
    rw [gt_P hk hi]
    by_cases h2 : i < k <;> simp [h2]
theorem min3_P {i j k : Nat} (hi : i < 65) (hj : j < 65) (hk : k < 65) : min3F (P i) (P j) (P k) = P (mn3 i j k) := by
  unfold min3F mn3
  rw [lt_P hj hi]
  by_cases h : j < i
  · simp only [h, decide_true, if_true]
    rw [lt_P hk hj]
    by_cases h2 : k < j <;> simp [h2]
  · simp only [h, decide_false, if_false, Bool.false_eq_true]
    rw [lt_P hk hi]
    by_cases h2 : k < i <;> simp [h2]
theorem mx3_ge (i j k : Nat) : i ≤ mx3 i j k ∧ j ≤ mx3 i j k ∧ k ≤ mx3 i j k := by unfold mx3; split <;> split <;> lia
theorem mn3_le (i j k : Nat) : mn3 i j k ≤ i ∧ mn3 i j k ≤ j ∧ mn3 i j k ≤ k := by unfold mn3; split <;> split <;> lia
theorem mx3_lt {i j k n : Nat} (hi : i < n) (hj : j < n) (hk : k < n) : mx3 i j k < n := by unfold mx3; split <;> split <;> lia
noncomputable def hueK (da db dc dg : Nat) : UInt64 :=
  (Float64.divmod (Float64.div (if da = 0 then Float64.sub (Float64.div (P dc) (P dg)) (Float64.div (P db) (P dg)) else if db = 0 then Float64.sub (Float64.add 4611686018427387904 (Float64.div (P da) (P dg))) (Float64.div (P dc) (P dg)) else Float64.sub (Float64.add 4616189618054758400 (Float64.div (P db) (P dg))) (Float64.div (P da) (P dg))) 4618441417868443648) 4607182418800017408).2
theorem hue_P {i j k : Nat} (hi : i < 65) (hj : j < 65) (hk : k < 65) : hueF (P i) (P j) (P k) = hueK (mx3 i j k - i) (mx3 i j k - j) (mx3 i j k - k) (mx3 i j k - mn3 i j k) := by
  obtain ⟨g1, g2, g3⟩ := mx3_ge i j k
  obtain ⟨l1, _, _⟩ := mn3_le i j k
  have hm := mx3_lt hi hj hk
  unfold hueF
  rw [max3_P hi hj hk, min3_P hi hj hk]
  dsimp only
  rw [sub_P hm (Nat.le_trans l1 g1), sub_P hm g1, sub_P hm g2, sub_P hm g3, eq_P hi hm, eq_P hj hm]
  unfold hueK
  have e1 : (decide (i = mx3 i j k) = true) = (mx3 i j k - i = 0) := by rw [decide_eq_true_iff]; exact propext ⟨fun h => by rw [← h, Nat.sub_self], fun h => Nat.le_antisymm (by first | exact (mx3_ge i j k).1 | exact (mx3_ge i j k).2.1) (Nat.le_of_sub_eq_zero h)⟩
  have e2 : (decide (j = mx3 i j k) = true) = (mx3 i j k - j = 0) := by rw [decide_eq_true_iff]; exact propext ⟨fun h => by rw [← h, Nat.sub_self], fun h => Nat.le_antisymm (by first | exact (mx3_ge i j k).1 | exact (mx3_ge i j k).2.1) (Nat.le_of_sub_eq_zero h)⟩
  simp only [e1, e2]
theorem zero_P_iff : ∀ t, t < 65 → 0 < t → Float64.isZero (P t) = false := by decide +kernel
theorem grey_P {i j k : Nat} (hi : i < 65) (hj : j < 65) (hk : k < 65) (h : mn3 i j k < mx3 i j k) : greyF (P i) (P j) (P k) = false := by
  have hm := mx3_lt hi hj hk
  unfold greyF
  rw [max3_P hi hj hk, min3_P hi hj hk, eq_P (Nat.lt_trans h hm) hm]
  exact decide_eq_false (Nat.ne_of_lt h)
/-- what is asked of the light and the share, by the least and the most -/
noncomputable def svOk0 (mn mx : Nat) : Bool :=
  intB (Float64.add (Float64.mul (Float64.mul 4724276009111650304 (Float64.div (P (mx - mn)) (P mx))) (P mx)) 4602678819172646912) (1048576 * ((mx - mn : Nat) : Int)) &&
  intB (Float64.add (Float64.mul 4724276009111650304 (P mx)) 4602678819172646912) (1048576 * (mx : Int))
noncomputable def lightK (mn mx : Nat) : UInt64 := Float64.div (Float64.add (P mx) (P mn)) 4611686018427387904
noncomputable def shareK (mn mx : Nat) : UInt64 := if darkF (lightK mn mx) = true then Float64.div (P (mx - mn)) (Float64.add (P mx) (P mn)) else Float64.div (P (mx - mn)) (Float64.sub (Float64.sub 4611686018427387904 (P mx)) (P mn))
noncomputable def svOk2 (mn mx : Nat) : Bool :=
  (!Float64.isZero (Float64.add (P mx) (P mn)) && !Float64.isZero (Float64.sub (Float64.sub 4611686018427387904 (P mx)) (P mn))) &&
  (intB (Float64.add (Float64.mul (Float64.mul 4724276009111650304 (shareK mn mx)) (Float64.sub 4607182418800017408 (Float64.abs (Float64.sub (Float64.mul 4611686018427387904 (lightK mn mx)) 4607182418800017408)))) 4602678819172646912) (1048576 * ((mx - mn : Nat) : Int)) &&
  intB (Float64.add (Float64.mul 4728779608739020800 (lightK mn mx)) 4602678819172646912) (1048576 * ((mx + mn : Nat) : Int)))
noncomputable def keyOk (da db dc dg : Nat) (spot : Int) : Bool := intB (Float64.add (Float64.mul (Float64.mul 4618441417868443648 (hueK da db dc dg)) (Float64.ofInt (1048576 * (dg : Int)))) 4602678819172646912) spot
end
section
open PySem PySem.Float64
noncomputable def spotN (da db dc dg : Nat) : Int :=
  if da = 0 then (if dc < db then 6 * (dg : Int) - ((db : Int) - dc) else (dc : Int) - db) else if db = 0 then 2 * (dg : Int) + ((da : Int) - dc) else 4 * (dg : Int) + ((db : Int) - da)
noncomputable def keyB (da db dc dg : Nat) : Bool := keyOk da db dc dg (1048576 * spotN da db dc dg)
noncomputable def sixB (x dg : Nat) : Bool := keyB 0 x dg dg && (keyB 0 dg x dg && (keyB x 0 dg dg && (keyB dg 0 x dg && (keyB x dg 0 dg && keyB dg x 0 dg))))
noncomputable def abTab : List (List Nat) := [[], [], [0, 2], [], [0, 2, 4], [], [0, 2, 4, 6], [], [0, 2, 4, 6, 8], [], [0, 2, 4, 6, 8, 10], [], [0, 2, 4, 6, 8, 10, 12], [], [2, 4, 6, 8, 10, 12], [], [2, 4, 6, 8, 10, 12, 14], [], [4, 6, 8, 10, 12, 14], [], [2, 4, 6, 8, 10, 12, 14, 16, 18], [], [2, 6, 8, 10, 12, 14, 16, 20], [], [4, 6, 8, 10, 14, 16, 18, 20], [], [2, 4, 6, 8, 10, 12, 14, 16, 18, 20, 22, 24], [], [6, 8, 12, 16, 20, 22], [], [2, 8, 10, 12, 14, 16, 18, 20, 22, 28], [], [2, 8, 10, 12, 14, 18, 20, 22, 24, 30], [], [6, 8, 10, 12, 14, 20, 22, 24, 26, 28], [], [4, 10, 12, 14, 16, 20, 22, 24, 26, 32], [], [4, 6, 8, 10, 12, 14, 16, 18, 20, 22, 24, 26, 28, 30, 32, 34], [], [4, 6, 14, 16, 24, 26, 34, 36], [], [12, 14, 20, 22, 28, 30], [], [6, 10, 20, 24, 34, 38], [], [8, 14, 20, 26, 32, 38], [], [8, 12, 22, 26, 36, 40], [], [], [], [], [], [], [], [], []]
noncomputable def svTab : List (List Nat) := [[], [], [], [1], [], [1], [], [1], [], [1, 3], [], [1], [], [1, 3, 5], [], [1, 5], [], [1, 3, 5, 7], [], [1, 5], [], [1, 3, 5, 7, 9], [], [1, 9], [], [1, 3, 5, 7, 9], [], [1, 5, 9], [], [1, 3, 5, 7, 9], [], [1, 5, 9, 13], [], [1, 3, 5, 7, 9, 13], [], [1, 9, 13], [], [1, 3, 5, 7, 9, 13, 15], [], [], [], [1, 3, 5, 7, 9, 13, 15], [], [5, 9, 13], [], [3, 5, 7, 9, 13, 17], [], [5, 9, 13, 17], [], [3, 5, 9, 15, 17], [], [], [], [5, 9, 15, 17], [], [9, 17], [], [9, 17]]
theorem six_0 : (abTab.getD 0 []).all (fun x => sixB x 0) = true := rfl
theorem six_1 : (abTab.getD 1 []).all (fun x => sixB x 1) = true := rfl
theorem six_2 : (abTab.getD 2 []).all (fun x => sixB x 2) = true := by decide +kernel
theorem six_3 : (abTab.getD 3 []).all (fun x => sixB x 3) = true := rfl
theorem six_4 : (abTab.getD 4 []).all (fun x => sixB x 4) = true := by decide +kernel
theorem six_5 : (abTab.getD 5 []).all (fun x => sixB x 5) = true := rfl
theorem six_6 : (abTab.getD 6 []).all (fun x => sixB x 6) = true := by decide +kernel
theorem six_7 : (abTab.getD 7 []).all (fun x => sixB x 7) = true := rfl
theorem six_8 : (abTab.getD 8 []).all (fun x => sixB x 8) = true := by decide +kernel
theorem six_9 : (abTab.getD 9 []).all (fun x => sixB x 9) = true := rfl
theorem six_10 : (abTab.getD 10 []).all (fun x => sixB x 10) = true := by decide +kernel
theorem six_11 : (abTab.getD 11 []).all (fun x => sixB x 11) = true := rfl
theorem six_12 : (abTab.getD 12 []).all (fun x => sixB x 12) = true := by decide +kernel
theorem six_13 : (abTab.getD 13 []).all (fun x => sixB x 13) = true := rfl
theorem six_14 : (abTab.getD 14 []).all (fun x => sixB x 14) = true := by decide +kernel
theorem six_15 : (abTab.getD 15 []).all (fun x => sixB x 15) = true := rfl
theorem six_16 : (abTab.getD 16 []).all (fun x => sixB x 16) = true := by decide +kernel
theorem six_17 : (abTab.getD 17 []).all (fun x => sixB x 17) = true := rfl
theorem six_18 : (abTab.getD 18 []).all (fun x => sixB x 18) = true := by decide +kernel
theorem six_19 : (abTab.getD 19 []).all (fun x => sixB x 19) = true := rfl
theorem six_20 : (abTab.getD 20 []).all (fun x => sixB x 20) = true := by decide +kernel
theorem six_21 : (abTab.getD 21 []).all (fun x => sixB x 21) = true := rfl
theorem six_22 : (abTab.getD 22 []).all (fun x => sixB x 22) = true := by decide +kernel
theorem six_23 : (abTab.getD 23 []).all (fun x => sixB x 23) = true := rfl
theorem six_24 : (abTab.getD 24 []).all (fun x => sixB x 24) = true := by decide +kernel
theorem six_25 : (abTab.getD 25 []).all (fun x => sixB x 25) = true := rfl
theorem six_26 : (abTab.getD 26 []).all (fun x => sixB x 26) = true := by decide +kernel
theorem six_27 : (abTab.getD 27 []).all (fun x => sixB x 27) = true := rfl
theorem six_28 : (abTab.getD 28 []).all (fun x => sixB x 28) = true := by decide +kernel
theorem six_29 : (abTab.getD 29 []).all (fun x => sixB x 29) = true := rfl
theorem six_30 : (abTab.getD 30 []).all (fun x => sixB x 30) = true := by decide +kernel
theorem six_31 : (abTab.getD 31 []).all (fun x => sixB x 31) = true := rfl
theorem six_32 : (abTab.getD 32 []).all (fun x => sixB x 32) = true := by decide +kernel
theorem six_33 : (abTab.getD 33 []).all (fun x => sixB x 33) = true := rfl
theorem six_34 : (abTab.getD 34 []).all (fun x => sixB x 34) = true := by decide +kernel
theorem six_35 : (abTab.getD 35 []).all (fun x => sixB x 35) = true := rfl
theorem six_36 : (abTab.getD 36 []).all (fun x => sixB x 36) = true := by decide +kernel
theorem six_37 : (abTab.getD 37 []).all (fun x => sixB x 37) = true := rfl
theorem six_38 : (abTab.getD 38 []).all (fun x => sixB x 38) = true := by decide +kernel
theorem six_39 : (abTab.getD 39 []).all (fun x => sixB x 39) = true := rfl
theorem six_40 : (abTab.getD 40 []).all (fun x => sixB x 40) = true := by decide +kernel
theorem six_41 : (abTab.getD 41 []).all (fun x => sixB x 41) = true := rfl
theorem six_42 : (abTab.getD 42 []).all (fun x => sixB x 42) = true := by decide +kernel
theorem six_43 : (abTab.getD 43 []).all (fun x => sixB x 43) = true := rfl
theorem six_44 : (abTab.getD 44 []).all (fun x => sixB x 44) = true := by decide +kernel
theorem six_45 : (abTab.getD 45 []).all (fun x => sixB x 45) = true := rfl
theorem six_46 : (abTab.getD 46 []).all (fun x => sixB x 46) = true := by decide +kernel
theorem six_47 : (abTab.getD 47 []).all (fun x => sixB x 47) = true := rfl
theorem six_48 : (abTab.getD 48 []).all (fun x => sixB x 48) = true := by decide +kernel
theorem six_49 : (abTab.getD 49 []).all (fun x => sixB x 49) = true := rfl
theorem six_50 : (abTab.getD 50 []).all (fun x => sixB x 50) = true := rfl
theorem six_51 : (abTab.getD 51 []).all (fun x => sixB x 51) = true := rfl
theorem six_52 : (abTab.getD 52 []).all (fun x => sixB x 52) = true := rfl
theorem six_53 : (abTab.getD 53 []).all (fun x => sixB x 53) = true := rfl
theorem six_54 : (abTab.getD 54 []).all (fun x => sixB x 54) = true := rfl
theorem six_55 : (abTab.getD 55 []).all (fun x => sixB x 55) = true := rfl
theorem six_56 : (abTab.getD 56 []).all (fun x => sixB x 56) = true := rfl
theorem six_57 : (abTab.getD 57 []).all (fun x => sixB x 57) = true := rfl
noncomputable def sixAt (dg : Nat) : Prop := (abTab.getD dg []).all (fun x => sixB x dg) = true
theorem six_all : ∀ dg, sixAt dg
  | 0 => six_0
  | 1 => six_1
  | 2 => six_2
  | 3 => six_3
  | 4 => six_4
  | 5 => six_5
  | 6 => six_6
  | 7 => six_7
  | 8 => six_8
  | 9 => six_9
  | 10 => six_10
  | 11 => six_11
  | 12 => six_12
  | 13 => six_13
  | 14 => six_14
  | 15 => six_15
  | 16 => six_16
  | 17 => six_17
  | 18 => six_18
  | 19 => six_19
  | 20 => six_20
  | 21 => six_21
  | 22 => six_22
  | 23 => six_23
  | 24 => six_24
  | 25 => six_25
  | 26 => six_26
  | 27 => six_27
  | 28 => six_28
  | 29 => six_29
  | 30 => six_30
  | 31 => six_31
  | 32 => six_32
  | 33 => six_33
  | 34 => six_34
  | 35 => six_35
  | 36 => six_36
  | 37 => six_37
  | 38 => six_38
  | 39 => six_39
  | 40 => six_40
  | 41 => six_41
  | 42 => six_42
  | 43 => six_43
  | 44 => six_44
  | 45 => six_45
  | 46 => six_46
  | 47 => six_47
  | 48 => six_48
  | 49 => six_49
  | 50 => six_50
  | 51 => six_51
  | 52 => six_52
  | 53 => six_53
  | 54 => six_54
  | 55 => six_55
  | 56 => six_56
  | 57 => six_57
  | n + 58 => rfl
noncomputable def svB (mn mx : Nat) : Bool := svOk0 mn mx && (svOk2 mn mx && svOk2 (64 - mx) (64 - mn))
theorem sv_0 : (svTab.getD 0 []).all (fun x => svB x 0) = true := rfl
theorem sv_1 : (svTab.getD 1 []).all (fun x => svB x 1) = true := rfl
theorem sv_2 : (svTab.getD 2 []).all (fun x => svB x 2) = true := rfl
theorem sv_3 : (svTab.getD 3 []).all (fun x => svB x 3) = true := by decide +kernel
theorem sv_4 : (svTab.getD 4 []).all (fun x => svB x 4) = true := rfl
theorem sv_5 : (svTab.getD 5 []).all (fun x => svB x 5) = true := by decide +kernel
theorem sv_6 : (svTab.getD 6 []).all (fun x => svB x 6) = true := rfl
theorem sv_7 : (svTab.getD 7 []).all (fun x => svB x 7) = true := by decide +kernel
theorem sv_8 : (svTab.getD 8 []).all (fun x => svB x 8) = true := rfl
theorem sv_9 : (svTab.getD 9 []).all (fun x => svB x 9) = true := by decide +kernel
theorem sv_10 : (svTab.getD 10 []).all (fun x => svB x 10) = true := rfl
theorem sv_11 : (svTab.getD 11 []).all (fun x => svB x 11) = true := by decide +kernel
theorem sv_12 : (svTab.getD 12 []).all (fun x => svB x 12) = true := rfl
theorem sv_13 : (svTab.getD 13 []).all (fun x => svB x 13) = true := by decide +kernel
theorem sv_14 : (svTab.getD 14 []).all (fun x => svB x 14) = true := rfl
theorem sv_15 : (svTab.getD 15 []).all (fun x => svB x 15) = true := by decide +kernel
theorem sv_16 : (svTab.getD 16 []).all (fun x => svB x 16) = true := rfl
theorem sv_17 : (svTab.getD 17 []).all (fun x => svB x 17) = true := by decide +kernel
theorem sv_18 : (svTab.getD 18 []).all (fun x => svB x 18) = true := rfl
theorem sv_19 : (svTab.getD 19 []).all (fun x => svB x 19) = true := by decide +kernel
theorem sv_20 : (svTab.getD 20 []).all (fun x => svB x 20) = true := rfl
theorem sv_21 : (svTab.getD 21 []).all (fun x => svB x 21) = true := by decide +kernel
theorem sv_22 : (svTab.getD 22 []).all (fun x => svB x 22) = true := rfl
theorem sv_23 : (svTab.getD 23 []).all (fun x => svB x 23) = true := by decide +kernel
theorem sv_24 : (svTab.getD 24 []).all (fun x => svB x 24) = true := rfl
theorem sv_25 : (svTab.getD 25 []).all (fun x => svB x 25) = true := by decide +kernel
theorem sv_26 : (svTab.getD 26 []).all (fun x => svB x 26) = true := rfl
theorem sv_27 : (svTab.getD 27 []).all (fun x => svB x 27) = true := by decide +kernel
theorem sv_28 : (svTab.getD 28 []).all (fun x => svB x 28) = true := rfl
theorem sv_29 : (svTab.getD 29 []).all (fun x => svB x 29) = true := by decide +kernel
theorem sv_30 : (svTab.getD 30 []).all (fun x => svB x 30) = true := rfl
theorem sv_31 : (svTab.getD 31 []).all (fun x => svB x 31) = true := by decide +kernel
theorem sv_32 : (svTab.getD 32 []).all (fun x => svB x 32) = true := rfl
theorem sv_33 : (svTab.getD 33 []).all (fun x => svB x 33) = true := by decide +kernel
theorem sv_34 : (svTab.getD 34 []).all (fun x => svB x 34) = true := rfl
theorem sv_35 : (svTab.getD 35 []).all (fun x => svB x 35) = true := by decide +kernel
theorem sv_36 : (svTab.getD 36 []).all (fun x => svB x 36) = true := rfl
theorem sv_37 : (svTab.getD 37 []).all (fun x => svB x 37) = true := by decide +kernel
theorem sv_38 : (svTab.getD 38 []).all (fun x => svB x 38) = true := rfl
theorem sv_39 : (svTab.getD 39 []).all (fun x => svB x 39) = true := rfl
theorem sv_40 : (svTab.getD 40 []).all (fun x => svB x 40) = true := rfl
theorem sv_41 : (svTab.getD 41 []).all (fun x => svB x 41) = true := by decide +kernel
theorem sv_42 : (svTab.getD 42 []).all (fun x => svB x 42) = true := rfl
theorem sv_43 : (svTab.getD 43 []).all (fun x => svB x 43) = true := by decide +kernel
theorem sv_44 : (svTab.getD 44 []).all (fun x => svB x 44) = true := rfl
theorem sv_45 : (svTab.getD 45 []).all (fun x => svB x 45) = true := by decide +kernel
theorem sv_46 : (svTab.getD 46 []).all (fun x => svB x 46) = true := rfl
theorem sv_47 : (svTab.getD 47 []).all (fun x => svB x 47) = true := by decide +kernel
theorem sv_48 : (svTab.getD 48 []).all (fun x => svB x 48) = true := rfl
theorem sv_49 : (svTab.getD 49 []).all (fun x => svB x 49) = true := by decide +kernel
theorem sv_50 : (svTab.getD 50 []).all (fun x => svB x 50) = true := rfl
theorem sv_51 : (svTab.getD 51 []).all (fun x => svB x 51) = true := rfl
theorem sv_52 : (svTab.getD 52 []).all (fun x => svB x 52) = true := rfl
theorem sv_53 : (svTab.getD 53 []).all (fun x => svB x 53) = true := by decide +kernel
theorem sv_54 : (svTab.getD 54 []).all (fun x => svB x 54) = true := rfl
theorem sv_55 : (svTab.getD 55 []).all (fun x => svB x 55) = true := by decide +kernel
theorem sv_56 : (svTab.getD 56 []).all (fun x => svB x 56) = true := rfl
theorem sv_57 : (svTab.getD 57 []).all (fun x => svB x 57) = true := by decide +kernel
noncomputable def svAt (mx : Nat) : Prop := (svTab.getD mx []).all (fun x => svB x mx) = true
theorem sv_all : ∀ mx, svAt mx
  | 0 => sv_0
  | 1 => sv_1
  | 2 => sv_2
  | 3 => sv_3
  | 4 => sv_4
  | 5 => sv_5
  | 6 => sv_6
  | 7 => sv_7
  | 8 => sv_8
  | 9 => sv_9
  | 10 => sv_10
  | 11 => sv_11
  | 12 => sv_12
  | 13 => sv_13
  | 14 => sv_14
  | 15 => sv_15
  | 16 => sv_16
  | 17 => sv_17
  | 18 => sv_18
  | 19 => sv_19
  | 20 => sv_20
  | 21 => sv_21
  | 22 => sv_22
  | 23 => sv_23
  | 24 => sv_24
  | 25 => sv_25
  | 26 => sv_26
  | 27 => sv_27
  | 28 => sv_28
  | 29 => sv_29
  | 30 => sv_30
  | 31 => sv_31
  | 32 => sv_32
  | 33 => sv_33
  | 34 => sv_34
  | 35 => sv_35
  | 36 => sv_36
  | 37 => sv_37
  | 38 => sv_38
  | 39 => sv_39
  | 40 => sv_40
  | 41 => sv_41
  | 42 => sv_42
  | 43 => sv_43
  | 44 => sv_44
  | 45 => sv_45
  | 46 => sv_46
  | 47 => sv_47
  | 48 => sv_48
  | 49 => sv_49
  | 50 => sv_50
  | 51 => sv_51
  | 52 => sv_52
  | 53 => sv_53
  | 54 => sv_54
  | 55 => sv_55
  | 56 => sv_56
  | 57 => sv_57
  | n + 58 => rfl
noncomputable def keyFind (da db dc dg : Nat) : Bool := (abTab.getD dg []).any fun x =>
  (Nat.beq da 0 && ((Nat.beq db x && Nat.beq dc dg) || (Nat.beq db dg && Nat.beq dc x))) || ((Nat.beq db 0 && ((Nat.beq da x && Nat.beq dc dg) || (Nat.beq da dg && Nat.beq dc x))) || (Nat.beq dc 0 && ((Nat.beq da x && Nat.beq db dg) || (Nat.beq da dg && Nat.beq db x))))
theorem key_of {da db dc dg : Nat} (h : keyFind da db dc dg = true) : keyB da db dc dg = true := by
  unfold keyFind at h
  rw [List.any_eq_true] at h
  obtain ⟨x, hx, h⟩ := h
  have h6 := six_all dg
  unfold sixAt at h6
  rw [List.all_eq_true] at h6
  have := h6 x hx
  unfold sixB at this
  simp only [Bool.and_eq_true] at this
  obtain ⟨k1, k2, k3, k4, k5, k6⟩ := this
  simp only [Bool.or_eq_true, Bool.and_eq_true, Nat.beq_eq] at h
  rcases h with ⟨rfl, ⟨rfl, rfl⟩ | ⟨rfl, rfl⟩⟩ | ⟨rfl, ⟨rfl, rfl⟩ | ⟨rfl, rfl⟩⟩ | ⟨rfl, ⟨rfl, rfl⟩ | ⟨rfl, rfl⟩⟩ <;> assumption
noncomputable def svFind (mn mx : Nat) : Bool := (svTab.getD mx []).any fun x => Nat.beq mn x
theorem sv_of {mn mx : Nat} (h : svFind mn mx = true) : svB mn mx = true := by
  unfold svFind at h
  rw [List.any_eq_true] at h
  obtain ⟨x, hx, h⟩ := h
  have h6 := sv_all mx
  unfold svAt at h6
  rw [List.all_eq_true] at h6
  rw [Nat.beq_eq] at h
  rw [h]
  exact h6 x hx
noncomputable def lampsB (a b c mn dg : Nat) (k spot : Int) : Bool :=
  decide (lampW (1048576 * (mn : Int)) (1048576 * (dg : Int)) (wayF spot (1048576 * (dg : Int)) 0) = 1048576 * (a : Int)) && (decide (lampW (1048576 * (mn : Int)) (1048576 * (dg : Int)) (wayF spot (1048576 * (dg : Int)) 1) = 1048576 * (b : Int)) && (decide (lampW (1048576 * (mn : Int)) (1048576 * (dg : Int)) (wayF spot (1048576 * (dg : Int)) 2) = 1048576 * (c : Int)) && decide (cornerF spot (1048576 * (dg : Int)) = k)))
noncomputable def tripB (a b c mx mn : Nat) (k : Int) : Bool :=
  (Nat.ble 1 mn && (Nat.blt mn mx && Nat.blt mx 58)) && (keyFind (mx - a) (mx - b) (mx - c) (mx - mn) && (keyFind (a - mn) (b - mn) (c - mn) (mx - mn) && (svFind mn mx &&
  (lampsB a b c mn (mx - mn) k (1048576 * spotN (mx - a) (mx - b) (mx - c) (mx - mn)) && lampsB a b c mn (mx - mn) k (1048576 * spotN (a - mn) (b - mn) (c - mn) (mx - mn) + 3 * (1048576 * ((mx - mn : Nat) : Int)))))))
noncomputable def stepT (x : Nat) (t : Nat × Nat × Nat) : Nat × Nat × Nat := if x = 104 then (t.1 + t.2.1 + t.2.2, t.2.1, t.2.2) else if x = 112 then (t.1, t.1 + t.2.1 + t.2.2, t.2.2) else (t.1, t.2.1, t.1 + t.2.1 + t.2.2)
noncomputable def tripN : List Nat → Nat × Nat × Nat
  | [] => (1, 1, 1)
  | x :: r => stepT x (tripN r)
noncomputable def tripAt (l : List Nat) (k : Int) : Bool := tripB (tripN l).1 (tripN l).2.1 (tripN l).2.2 (mx3 (tripN l).1 (tripN l).2.1 (tripN l).2.2) (mn3 (tripN l).1 (tripN l).2.1 (tripN l).2.2) k
noncomputable def wordsB : Nat → List Nat → Bool
  | 0, _ => true
  | n + 1, r => [104, 112, 97].all fun x => tripAt (x :: r) (idxL x) && wordsB n (x :: r)
theorem words_0 : wordsB 3 [] = true := by decide +kernel
theorem words_hhh : wordsB 3 [104, 104, 104] = true := by decide +kernel
theorem words_hhp : wordsB 3 [104, 104, 112] = true := by decide +kernel
theorem words_hha : wordsB 3 [104, 104, 97] = true := by decide +kernel
theorem words_hph : wordsB 3 [104, 112, 104] = true := by decide +kernel
theorem words_hpp : wordsB 3 [104, 112, 112] = true := by decide +kernel
theorem words_hpa : wordsB 3 [104, 112, 97] = true := by decide +kernel
theorem words_hah : wordsB 3 [104, 97, 104] = true := by decide +kernel
theorem words_hap : wordsB 3 [104, 97, 112] = true := by decide +kernel
theorem words_haa : wordsB 3 [104, 97, 97] = true := by decide +kernel
theorem words_phh : wordsB 3 [112, 104, 104] = true := by decide +kernel
theorem words_php : wordsB 3 [112, 104, 112] = true := by decide +kernel
theorem words_pha : wordsB 3 [112, 104, 97] = true := by decide +kernel
theorem words_pph : wordsB 3 [112, 112, 104] = true := by decide +kernel
theorem words_ppp : wordsB 3 [112, 112, 112] = true := by decide +kernel
theorem words_ppa : wordsB 3 [112, 112, 97] = true := by decide +kernel
theorem words_pah : wordsB 3 [112, 97, 104] = true := by decide +kernel
theorem words_pap : wordsB 3 [112, 97, 112] = true := by decide +kernel
theorem words_paa : wordsB 3 [112, 97, 97] = true := by decide +kernel
theorem words_ahh : wordsB 3 [97, 104, 104] = true := by decide +kernel
theorem words_ahp : wordsB 3 [97, 104, 112] = true := by decide +kernel
theorem words_aha : wordsB 3 [97, 104, 97] = true := by decide +kernel
theorem words_aph : wordsB 3 [97, 112, 104] = true := by decide +kernel
theorem words_app : wordsB 3 [97, 112, 112] = true := by decide +kernel
theorem words_apa : wordsB 3 [97, 112, 97] = true := by decide +kernel
theorem words_aah : wordsB 3 [97, 97, 104] = true := by decide +kernel
theorem words_aap : wordsB 3 [97, 97, 112] = true := by decide +kernel
theorem words_aaa : wordsB 3 [97, 97, 97] = true := by decide +kernel
end
section
open PySem PySem.Float64
section
variable {i j k : Nat} (hi : i < 65) (hj : j < 65) (hk : k < 65) (h : mn3 i j k < mx3 i j k)
include hi hj hk h
theorem hsv_P : hsvF (P i) (P j) (P k) = (hueK (mx3 i j k - i) (mx3 i j k - j) (mx3 i j k - k) (mx3 i j k - mn3 i j k), Float64.div (P (mx3 i j k - mn3 i j k)) (P (mx3 i j k)), P (mx3 i j k)) := by
  unfold hsvF
  rw [grey_P hi hj hk h, hue_P hi hj hk, max3_P hi hj hk, min3_P hi hj hk, sub_P (mx3_lt hi hj hk) (Nat.le_of_lt h)]
  rfl
theorem hls_P : hlsF (P i) (P j) (P k) = (hueK (mx3 i j k - i) (mx3 i j k - j) (mx3 i j k - k) (mx3 i j k - mn3 i j k), lightK (mn3 i j k) (mx3 i j k), shareK (mn3 i j k) (mx3 i j k)) := by
  unfold hlsF shareF lightF lightK shareK lightK
  rw [grey_P hi hj hk h, hue_P hi hj hk, max3_P hi hj hk, min3_P hi hj hk, sub_P (mx3_lt hi hj hk) (Nat.le_of_lt h)]
  rfl
theorem hsvOk_P : hsvOk (P i) (P j) (P k) = true := by
  unfold hsvOk
  rw [max3_P hi hj hk, min3_P hi hj hk, sub_P (mx3_lt hi hj hk) (Nat.le_of_lt h), zero_P_iff _ (mx3_lt hi hj hk) (by lia), zero_P_iff _ (Nat.lt_of_le_of_lt (Nat.sub_le _ _) (mx3_lt hi hj hk)) (by lia)]
  simp
theorem hlsOk_P (hs : (!Float64.isZero (Float64.add (P (mx3 i j k)) (P (mn3 i j k))) && !Float64.isZero (Float64.sub (Float64.sub 4611686018427387904 (P (mx3 i j k))) (P (mn3 i j k)))) = true) : hlsOk (P i) (P j) (P k) = true := by
  unfold hlsOk
  rw [max3_P hi hj hk, min3_P hi hj hk, sub_P (mx3_lt hi hj hk) (Nat.le_of_lt h), hs, zero_P_iff _ (Nat.lt_of_le_of_lt (Nat.sub_le _ _) (mx3_lt hi hj hk)) (by lia)]
  simp
end
theorem flip_lt {i j : Nat} (hi : i < 58) (hj : j < 58) : (64 - i < 64 - j) = (j < i) := propext ⟨fun h => Nat.lt_of_not_le fun hle => Nat.not_lt_of_le (Nat.sub_le_sub_left hle 64) h, fun h => Nat.sub_lt_sub_left (Nat.lt_trans hj (by decide)) h⟩
theorem flip_max {i j : Nat} (hi : i < 58) (hj : j < 58) : (if 64 - i < 64 - j then 64 - j else 64 - i) = 64 - (if j < i then j else i) := by
  simp only [flip_lt hi hj]; split <;> rfl
theorem flip_min {i j : Nat} (hi : i < 58) (hj : j < 58) : (if 64 - j < 64 - i then 64 - j else 64 - i) = 64 - (if i < j then j else i) := by
  simp only [flip_lt hj hi]; split <;> rfl
theorem ite58 {i j : Nat} {c : Prop} [Decidable c] (hi : i < 58) (hj : j < 58) : (if c then j else i) < 58 := by
  split
  · exact hj
  · exact hi
theorem mx3_flip {i j k : Nat} (hi : i < 58) (hj : j < 58) (hk : k < 58) : mx3 (64 - i) (64 - j) (64 - k) = 64 - mn3 i j k := by
  unfold mx3 mn3
  rw [flip_max hi hj]
  exact flip_max (ite58 hi hj) hk
theorem mn3_flip {i j k : Nat} (hi : i < 58) (hj : j < 58) (hk : k < 58) : mn3 (64 - i) (64 - j) (64 - k) = 64 - mx3 i j k := by
  unfold mx3 mn3
  rw [flip_min hi hj]
  exact flip_min (ite58 hi hj) hk
theorem flip_sub {m a : Nat} (hm : m ≤ a) (ha : a < 58) : 64 - m - (64 - a) = a - m := by rw [Nat.sub_right_comm, Nat.sub_sub_self (Nat.le_of_lt (Nat.lt_trans ha (by decide)))]
theorem up65 {a : Nat} (h : a < 58) : a < 65 := Nat.lt_trans h (by decide)
theorem sub65 (a : Nat) : 64 - a < 65 := Nat.lt_of_le_of_lt (Nat.sub_le _ _) (by decide)
theorem sub64 {a : Nat} (n : Nat) (h : a < 58) : a - n < 64 := Nat.lt_of_le_of_lt (Nat.sub_le _ _) (Nat.lt_trans h (by decide))
theorem sp_b {n x : Nat} (h : n < x) (hx : x < 58) : (0 : Int) < 1048576 * ((x - n : Nat) : Int) ∧ (1048576 * ((x - n : Nat) : Int) : Int) ≤ 1073741824 := by constructor <;> lia
theorem two_flip {n x : Nat} (h : n < x) (hx : x < 58) : (1048576 * ((64 - n + (64 - x) : Nat) : Int) - 1048576 * ((x - n : Nat) : Int) : Int) = (1048576 * ((64 - x : Nat) : Int)) * 2 := by lia
theorem two_sum {n x : Nat} (h : n < x) : (1048576 * ((x + n : Nat) : Int) - 1048576 * ((x - n : Nat) : Int) : Int) = (1048576 * ((n : Nat) : Int)) * 2 := by lia
theorem one_diff {n x : Nat} (h : n < x) : (1048576 * (x : Int) - 1048576 * ((x - n : Nat) : Int) : Int) = 1048576 * (n : Int) := by lia
theorem least_flip {n x : Nat} (h : n < x) (hx : x < 58) : (67108864 - 1048576 * ((64 - x : Nat) : Int) - 1048576 * ((x - n : Nat) : Int) : Int) = 1048576 * (n : Int) := by lia
theorem part_0 {kd : Int} (h : ¬ kd.fmod 3 = 1) {t : Nat} (ht : t < 65) : partF kd (unitF (t : Int)) = P t := by
  unfold partF unitF; rw [if_neg h]; exact P_div t ht
theorem part_1 {kd : Int} (h : kd.fmod 3 = 1) {t : Nat} (ht : t < 65) : partF kd (unitF (t : Int)) = P (64 - t) := by
  unfold partF unitF; rw [if_pos h, P_div t ht]; exact P_one t ht
theorem seen_of {a b c : Nat} {k : Int} (h : tripB a b c (mx3 a b c) (mn3 a b c) k = true) (kd : Int) (hkd : 0 ≤ kd) : SeenAt (unitF a) (unitF b) (unitF c) kd k := by
  unfold tripB at h
  simp only [Bool.and_eq_true] at h
  obtain ⟨⟨m0, m1, m2⟩, k1, k2, s1, la1, la2⟩ := h
  have m0 := Nat.le_of_ble_eq_true m0
  have m1 : mn3 a b c < mx3 a b c := Nat.le_of_ble_eq_true m1
  have m2 : mx3 a b c < 58 := Nat.le_of_ble_eq_true m2
  obtain ⟨g1, g2, g3⟩ := mx3_ge a b c
  obtain ⟨l1, l2, l3⟩ := mn3_le a b c
  have ha : a < 58 := Nat.lt_of_le_of_lt g1 m2
  have hb : b < 58 := Nat.lt_of_le_of_lt g2 m2
  have hc : c < 58 := Nat.lt_of_le_of_lt g3 m2
  have kk1 := key_of k1
  have kk2 := key_of k2
  unfold keyB keyOk at kk1 kk2
  have ss := sv_of s1
  unfold svB at ss
  simp only [Bool.and_eq_true] at ss
  obtain ⟨sv0, sv2, sv1⟩ := ss
  have h3 := mod3_in kd
  unfold lampsB at la1 la2
  simp only [Bool.and_eq_true, decide_eq_true_iff] at la1 la2
  have bnd : ∀ n : Nat, n < 200 → (-1099511627776 : Int) ≤ 1048576 * (n : Int) ∧ 1048576 * (n : Int) ≤ 1099511627776 := fun n hn => by lia
  have hl0 : ∀ x ∈ [unitF (a : Int), unitF (b : Int), unitF (c : Int)], 0 ≤ x ∧ x ≤ 1099511627776 := by
    intro x hx
    simp only [List.mem_cons, List.not_mem_nil, or_false] at hx
    rcases hx with rfl | rfl | rfl <;> unfold unitF <;> lia
  have spb : ∀ da db dc dg : Nat, da < 64 → db < 64 → dc < 64 → dg < 64 → (-1099511627776 : Int) ≤ 1048576 * spotN da db dc dg ∧ 1048576 * spotN da db dc dg ≤ 1099511627776 := by
    intro da db dc dg _ _ _ _
    unfold spotN
    split
    · split <;> lia
    · split <;> lia
  by_cases h1 : kd.fmod 3 = 1
  · have pa := part_1 h1 (t := a) (up65 ha)
    have pb := part_1 h1 (t := b) (up65 hb)
    have pc := part_1 h1 (t := c) (up65 hc)
    have hx := mx3_flip ha hb hc
    have hn := mn3_flip ha hb hc
    have hlt : mn3 (64 - a) (64 - b) (64 - c) < mx3 (64 - a) (64 - b) (64 - c) := by rw [hx, hn]; exact Nat.sub_lt_sub_left (Nat.lt_trans (Nat.lt_trans m1 m2) (by decide)) m1
    unfold svOk2 at sv1
    simp only [Bool.and_eq_true] at sv1
    obtain ⟨z12, i1, i2⟩ := sv1
    have hls := hls_P (i := 64 - a) (j := 64 - b) (k := 64 - c) (sub65 _) (sub65 _) (sub65 _) hlt
    have hok := hlsOk_P (i := 64 - a) (j := 64 - b) (k := 64 - c) (sub65 _) (sub65 _) (sub65 _) hlt (by rw [hx, hn]; simp only [Bool.and_eq_true]; exact z12)
    have ed := flip_sub (Nat.le_of_lt m1) m2
    have ea := flip_sub l1 ha
    have eb := flip_sub l2 hb
    have ec := flip_sub l3 hc
    rw [hx, hn, ed, ea, eb, ec] at hls
    rw [ed] at i1
    refine ⟨1048576 * ((mx3 a b c - mn3 a b c : Nat) : Int), 1048576 * ((64 - mn3 a b c + (64 - mx3 a b c) : Nat) : Int), 1048576 * spotN (a - mn3 a b c) (b - mn3 a b c) (c - mn3 a b c) (mx3 a b c - mn3 a b c), ⟨fun e => absurd h1 (by lia), fun _ => ?_, hl0, (sp_b m1 m2).1, (sp_b m1 m2).2, bnd _ (Nat.lt_of_le_of_lt (Nat.add_le_add (Nat.sub_le _ _) (Nat.sub_le _ _)) (by decide)), spb _ _ _ _ (sub64 _ ha) (sub64 _ hb) (sub64 _ hc) (sub64 _ m2)⟩, ?_⟩
    · rw [pa, pb, pc, hls]
      exact ⟨hok, i1, i2, kk2⟩
    · have el : leastF kd (1048576 * ((mx3 a b c - mn3 a b c : Nat) : Int)) (1048576 * ((64 - mn3 a b c + (64 - mx3 a b c) : Nat) : Int)) = 1048576 * (mn3 a b c : Int) := by
        unfold leastF
        rw [if_neg (by lia), if_pos h1]
        rw [two_flip m1 m2, Int.mul_fdiv_cancel _ (by decide)]
        exact least_flip m1 m2
      have es : ∀ x sp : Int, spotF kd sp x = x + 3 * sp := fun x sp => by unfold spotF; rw [if_pos h1]
      rw [el, es]
      exact la2
  · have pa := part_0 h1 (t := a) (up65 ha)
    have pb := part_0 h1 (t := b) (up65 hb)
    have pc := part_0 h1 (t := c) (up65 hc)
    have es : ∀ x sp : Int, spotF kd sp x = x := fun x sp => by unfold spotF; rw [if_neg h1]
    by_cases h0 : kd.fmod 3 = 0
    · have hsv := hsv_P (i := a) (j := b) (k := c) (up65 ha) (up65 hb) (up65 hc) m1
      have hok := hsvOk_P (i := a) (j := b) (k := c) (up65 ha) (up65 hb) (up65 hc) m1
      unfold svOk0 at sv0
      simp only [Bool.and_eq_true] at sv0
      refine ⟨1048576 * ((mx3 a b c - mn3 a b c : Nat) : Int), 1048576 * ((mx3 a b c : Nat) : Int), 1048576 * spotN (mx3 a b c - a) (mx3 a b c - b) (mx3 a b c - c) (mx3 a b c - mn3 a b c), ⟨fun _ => ?_, fun e => absurd h0 e, hl0, (sp_b m1 m2).1, (sp_b m1 m2).2, bnd _ (Nat.lt_trans m2 (by decide)), spb _ _ _ _ (sub64 _ m2) (sub64 _ m2) (sub64 _ m2) (sub64 _ m2)⟩, ?_⟩
      · rw [pa, pb, pc, hsv]
        exact ⟨hok, sv0.1, sv0.2, kk1⟩
      · have el : leastF kd (1048576 * ((mx3 a b c - mn3 a b c : Nat) : Int)) (1048576 * ((mx3 a b c : Nat) : Int)) = 1048576 * (mn3 a b c : Int) := by
          unfold leastF
          rw [if_pos h0]
          exact one_diff m1
        rw [el, es]
        exact la1
    · have hls := hls_P (i := a) (j := b) (k := c) (up65 ha) (up65 hb) (up65 hc) m1
      unfold svOk2 at sv2
      simp only [Bool.and_eq_true] at sv2
      obtain ⟨z12, i1, i2⟩ := sv2
      have hok := hlsOk_P (i := a) (j := b) (k := c) (up65 ha) (up65 hb) (up65 hc) m1 (by simp only [Bool.and_eq_true]; exact z12)
      refine ⟨1048576 * ((mx3 a b c - mn3 a b c : Nat) : Int), 1048576 * ((mx3 a b c + mn3 a b c : Nat) : Int), 1048576 * spotN (mx3 a b c - a) (mx3 a b c - b) (mx3 a b c - c) (mx3 a b c - mn3 a b c), ⟨fun e => absurd e h0, fun _ => ?_, hl0, (sp_b m1 m2).1, (sp_b m1 m2).2, bnd _ (Nat.lt_trans (Nat.add_lt_add m2 (Nat.lt_trans m1 m2)) (by decide)), spb _ _ _ _ (sub64 _ m2) (sub64 _ m2) (sub64 _ m2) (sub64 _ m2)⟩, ?_⟩
      · rw [pa, pb, pc, hls]
        exact ⟨hok, i1, i2, kk1⟩
      · have el : leastF kd (1048576 * ((mx3 a b c - mn3 a b c : Nat) : Int)) (1048576 * ((mx3 a b c + mn3 a b c : Nat) : Int)) = 1048576 * (mn3 a b c : Int) := by
          unfold leastF
          rw [if_neg h0, if_neg h1]
          rw [two_sum m1, Int.mul_fdiv_cancel _ (by decide)]
        rw [el, es]
        exact la1
end
section
open PySem
theorem tripN_is : ∀ ls : List Nat, (∀ c ∈ ls, isL c) → trip ls = (((tripN ls).1 : Int), ((tripN ls).2.1 : Int), ((tripN ls).2.2 : Int))
  | [], _ => rfl
  | x :: r, h => by
    have ih := tripN_is r fun c hc => h c (List.mem_cons_of_mem _ hc)
    unfold trip tripN stepT
    rw [ih]
    rcases h x List.mem_cons_self with rfl | rfl | rfl
    · simp
    · have e : ¬ (112 : Nat) = 104 := by decide
      simp [e]
    · have e : ¬ (97 : Nat) = 104 := by decide
      have e2 : ¬ (97 : Nat) = 112 := by decide
      simp [e, e2]
theorem wordsB_spec : ∀ (n : Nat) (r m : List Nat), wordsB n r = true → m.length ≤ n → (∀ c ∈ m, isL c) → ∀ y t, m.reverse ++ r = y :: t → m ≠ [] → tripAt (y :: t) (idxL y) = true
  | n, r, [], _, _, _, _, _, _, h => absurd rfl h
  | 0, r, x :: m, _, hm, _, _, _, _, _ => absurd hm (by simp)
  | n + 1, r, x :: m, hw, hm, hl, y, t, e, _ => by
    unfold wordsB at hw
    rw [List.all_eq_true] at hw
    have hx : x ∈ [104, 112, 97] := by rcases hl x List.mem_cons_self with rfl | rfl | rfl <;> simp
    have := hw x hx
    rw [Bool.and_eq_true] at this
    rw [List.reverse_cons, List.append_assoc] at e
    cases m with
    | nil =>
      have e' : x :: r = y :: t := e
      injection e' with e1 e2
      rw [← e1, ← e2]
      exact this.1
    | cons z m => exact wordsB_spec n (x :: r) (z :: m) this.2 (by simpa using hm) (fun c hc => hl c (List.mem_cons_of_mem _ hc)) y t e (by simp)
theorem words_three {a b c : Nat} (ha : isL a) (hb : isL b) (hc : isL c) : wordsB 3 [a, b, c] = true := by
  rcases ha with rfl | rfl | rfl <;> rcases hb with rfl | rfl | rfl <;> rcases hc with rfl | rfl | rfl
  · exact words_hhh
  · exact words_hhp
  · exact words_hha
  · exact words_hph
  · exact words_hpp
  · exact words_hpa
  · exact words_hah
  · exact words_hap
  · exact words_haa
  · exact words_phh
  · exact words_php
  · exact words_pha
  · exact words_pph
  · exact words_ppp
  · exact words_ppa
  · exact words_pah
  · exact words_pap
  · exact words_paa
  · exact words_ahh
  · exact words_ahp
  · exact words_aha
  · exact words_aph
  · exact words_app
  · exact words_apa
  · exact words_aah
  · exact words_aap
  · exact words_aaa
theorem trip_at (x : Nat) (r : List Nat) (hr : r.length ≤ 5) (h : ∀ c ∈ x :: r, isL c) : tripAt (x :: r) (idxL x) = true := by
  by_cases h3 : r.length ≤ 2
  · exact wordsB_spec 3 [] (x :: r).reverse words_0 (by simp; lia) (fun c hc => h c (List.mem_reverse.mp hc)) x r (by simp) (by simp)
  · have hlen : (x :: r).length - 3 ≤ (x :: r).length := Nat.sub_le _ _
    have hd : ((x :: r).drop ((x :: r).length - 3)).length = 3 := by rw [List.length_drop, List.length_cons]; lia
    obtain ⟨a, b, c, habc⟩ : ∃ a b c, (x :: r).drop ((x :: r).length - 3) = [a, b, c] := by
      match hq : (x :: r).drop ((x :: r).length - 3), hd with
      | [a, b, c], _ => exact ⟨a, b, c, rfl⟩
    have hmem : ∀ y ∈ [a, b, c], isL y := fun y hy => h y (List.mem_of_mem_drop (by rw [habc]; exact hy))
    refine wordsB_spec 3 [a, b, c] ((x :: r).take ((x :: r).length - 3)).reverse (words_three (hmem a (by simp)) (hmem b (by simp)) (hmem c (by simp))) (by rw [List.length_reverse, List.length_take, List.length_cons]; lia) (fun y hy => h y (List.mem_of_mem_take (List.mem_reverse.mp hy))) x r ?_ ?_
    · rw [List.reverse_reverse, ← habc, List.take_append_drop]
    · intro e
      have := congrArg List.length e
      rw [List.length_reverse, List.length_take, List.length_cons] at this
      simp at this
      lia
theorem seen_law : SeenLaw := fun x r kd hkd hr hx hl => by
  have h : ∀ c ∈ x :: r, isL c := fun c hc => by
    rcases List.mem_cons.mp hc with h | h
    · rw [h]; exact hx
    · exact hl c h
  have ht := trip_at x r hr h
  rw [tripN_is (x :: r) h]
  unfold tripAt at ht
  exact seen_of ht kd hkd
end
section
noncomputable def en0 (P : Params) : DictEntry := DictEntry.mk (PyData.keyHash P (Str.ofString "__name__")) (Value.str (Str.ofString "__name__") 165) (Value.str (Str.ofString "cpy313.stringprep") 187)
noncomputable def en1 (P : Params) : DictEntry := DictEntry.mk (PyData.keyHash P (Str.ofString "__doc__")) (Value.str (Str.ofString "__doc__") 166) Value.none
noncomputable def en2 (P : Params) : DictEntry := DictEntry.mk (PyData.keyHash P (Str.ofString "__package__")) (Value.str (Str.ofString "__package__") 167) Value.none
noncomputable def en3 (P : Params) : DictEntry := DictEntry.mk (PyData.keyHash P (Str.ofString "__loader__")) (Value.str (Str.ofString "__loader__") 168) (Value.builtin "__main__.__loader__#opaque")
noncomputable def en4 (P : Params) : DictEntry := DictEntry.mk (PyData.keyHash P (Str.ofString "__spec__")) (Value.str (Str.ofString "__spec__") 169) Value.none
noncomputable def en5 (P : Params) : DictEntry := DictEntry.mk (PyData.keyHash P (Str.ofString "__annotations__")) (Value.str (Str.ofString "__annotations__") 170) (Value.ref 6)
noncomputable def en6 (P : Params) : DictEntry := DictEntry.mk (PyData.keyHash P (Str.ofString "__builtins__")) (Value.str (Str.ofString "__builtins__") 171) (Value.ref 4)
noncomputable def en7 (P : Params) : DictEntry := DictEntry.mk (PyData.keyHash P (Str.ofString "__file__")) (Value.str (Str.ofString "__file__") 173) (Value.str (Str.ofString "/claim/cut.py") 172)
noncomputable def en8 (P : Params) : DictEntry := DictEntry.mk (PyData.keyHash P (Str.ofString "__cached__")) (Value.str (Str.ofString "__cached__") 174) Value.none
noncomputable def m1 (P : Params) : Obj := Obj.mk (Value.type "dict") none (Data.dict #[en0 P, en1 P, en2 P, en3 P, en4 P, en5 P, en6 P, en7 P, en8 P] 9) #[]
noncomputable def en9 (P : Params) : DictEntry := DictEntry.mk (PyData.keyHash P (Str.ofString "b1_set")) (Value.str (Str.ofString "b1_set") 248) (Value.ref 22)
noncomputable def m2 (P : Params) : Obj := Obj.mk (Value.type "dict") none (Data.dict #[en0 P, en1 P, en2 P, en3 P, en4 P, en5 P, en6 P, en7 P, en8 P, en9 P] 10) #[]
noncomputable def en10 (P : Params) : DictEntry := DictEntry.mk (PyData.keyHash P (Str.ofString "in_table_b1")) (Value.str (Str.ofString "in_table_b1") 255) (Value.ref 32)
noncomputable def m3 (P : Params) : Obj := Obj.mk (Value.type "dict") none (Data.dict #[en0 P, en1 P, en2 P, en3 P, en4 P, en5 P, en6 P, en7 P, en8 P, en9 P, en10 P] 11) #[]
noncomputable def en11 (P : Params) : DictEntry := DictEntry.mk (PyData.keyHash P (Str.ofString "b3_exceptions")) (Value.str (Str.ofString "b3_exceptions") 2206) (Value.ref 33)
noncomputable def m4 (P : Params) : Obj := Obj.mk (Value.type "dict") none (Data.dict #[en0 P, en1 P, en2 P, en3 P, en4 P, en5 P, en6 P, en7 P, en8 P, en9 P, en10 P, en11 P] 12) #[]
noncomputable def en12 (P : Params) : DictEntry := DictEntry.mk (PyData.keyHash P (Str.ofString "map_table_b3")) (Value.str (Str.ofString "map_table_b3") 2214) (Value.ref 78)
noncomputable def m5 (P : Params) : Obj := Obj.mk (Value.type "dict") none (Data.dict #[en0 P, en1 P, en2 P, en3 P, en4 P, en5 P, en6 P, en7 P, en8 P, en9 P, en10 P, en11 P, en12 P] 13) #[]
noncomputable def en13 (P : Params) : DictEntry := DictEntry.mk (PyData.keyHash P (Str.ofString "__name__")) (Value.str (Str.ofString "__name__") 165) (Value.str (Str.ofString "cpy313.colorsys") 2215)
noncomputable def m6 (P : Params) : Obj := Obj.mk (Value.type "dict") none (Data.dict #[en13 P, en1 P, en2 P, en3 P, en4 P, en5 P, en6 P, en7 P, en8 P, en9 P, en10 P, en11 P, en12 P] 13) #[]
noncomputable def en14 (P : Params) : DictEntry := DictEntry.mk (PyData.keyHash P (Str.ofString "rgb_to_hls")) (Value.str (Str.ofString "rgb_to_hls") 2235) (Value.ref 85)
noncomputable def m7 (P : Params) : Obj := Obj.mk (Value.type "dict") none (Data.dict #[en13 P, en1 P, en2 P, en3 P, en4 P, en5 P, en6 P, en7 P, en8 P, en9 P, en10 P, en11 P, en12 P, en14 P] 14) #[]
noncomputable def en15 (P : Params) : DictEntry := DictEntry.mk (PyData.keyHash P (Str.ofString "rgb_to_hsv")) (Value.str (Str.ofString "rgb_to_hsv") 2253) (Value.ref 92)
noncomputable def m8 (P : Params) : Obj := Obj.mk (Value.type "dict") none (Data.dict #[en13 P, en1 P, en2 P, en3 P, en4 P, en5 P, en6 P, en7 P, en8 P, en9 P, en10 P, en11 P, en12 P, en14 P, en15 P] 15) #[]
noncomputable def en16 (P : Params) : DictEntry := DictEntry.mk (PyData.keyHash P (Str.ofString "__name__")) (Value.str (Str.ofString "__name__") 165) (Value.str (Str.ofString "cpy313.netrc") 2254)
noncomputable def m9 (P : Params) : Obj := Obj.mk (Value.type "dict") none (Data.dict #[en16 P, en1 P, en2 P, en3 P, en4 P, en5 P, en6 P, en7 P, en8 P, en9 P, en10 P, en11 P, en12 P, en14 P, en15 P] 15) #[]
noncomputable def en17 (P : Params) : DictEntry := DictEntry.mk (PyData.keyHash P (Str.ofString "_netrclex")) (Value.str (Str.ofString "_netrclex") 2313) (Value.ref 130)
noncomputable def m10 (P : Params) : Obj := Obj.mk (Value.type "dict") none (Data.dict #[en16 P, en1 P, en2 P, en3 P, en4 P, en5 P, en6 P, en7 P, en8 P, en9 P, en10 P, en11 P, en12 P, en14 P, en15 P, en17 P] 16) #[]
noncomputable def en18 (P : Params) : DictEntry := DictEntry.mk (PyData.keyHash P (Str.ofString "__name__")) (Value.str (Str.ofString "__name__") 165) (Value.str (Str.ofString "law_rw0107_01") 2314)
noncomputable def m11 (P : Params) : Obj := Obj.mk (Value.type "dict") none (Data.dict #[en18 P, en1 P, en2 P, en3 P, en4 P, en5 P, en6 P, en7 P, en8 P, en9 P, en10 P, en11 P, en12 P, en14 P, en15 P, en17 P] 16) #[]
noncomputable def en19 (P : Params) : DictEntry := DictEntry.mk (PyData.keyHash P (Str.ofString "_law_lexer")) (Value.str (Str.ofString "_law_lexer") 2324) (Value.ref 141)
noncomputable def m12 (P : Params) : Obj := Obj.mk (Value.type "dict") none (Data.dict #[en18 P, en1 P, en2 P, en3 P, en4 P, en5 P, en6 P, en7 P, en8 P, en9 P, en10 P, en11 P, en12 P, en14 P, en15 P, en17 P, en19 P] 17) #[]
noncomputable def en20 (P : Params) : DictEntry := DictEntry.mk (PyData.keyHash P (Str.ofString "_law_written")) (Value.str (Str.ofString "_law_written") 2330) (Value.ref 146)
noncomputable def m13 (P : Params) : Obj := Obj.mk (Value.type "dict") none (Data.dict #[en18 P, en1 P, en2 P, en3 P, en4 P, en5 P, en6 P, en7 P, en8 P, en9 P, en10 P, en11 P, en12 P, en14 P, en15 P, en17 P, en19 P, en20 P] 18) #[]
noncomputable def en21 (P : Params) : DictEntry := DictEntry.mk (PyData.keyHash P (Str.ofString "_law_prepared")) (Value.str (Str.ofString "_law_prepared") 2336) (Value.ref 151)
noncomputable def m14 (P : Params) : Obj := Obj.mk (Value.type "dict") none (Data.dict #[en18 P, en1 P, en2 P, en3 P, en4 P, en5 P, en6 P, en7 P, en8 P, en9 P, en10 P, en11 P, en12 P, en14 P, en15 P, en17 P, en19 P, en20 P, en21 P] 19) #[]
noncomputable def en22 (P : Params) : DictEntry := DictEntry.mk (PyData.keyHash P (Str.ofString "_law_unseen")) (Value.str (Str.ofString "_law_unseen") 2344) (Value.ref 158)
noncomputable def m15 (P : Params) : Obj := Obj.mk (Value.type "dict") none (Data.dict #[en18 P, en1 P, en2 P, en3 P, en4 P, en5 P, en6 P, en7 P, en8 P, en9 P, en10 P, en11 P, en12 P, en14 P, en15 P, en17 P, en19 P, en20 P, en21 P, en22 P] 20) #[]
noncomputable def en23 (P : Params) : DictEntry := DictEntry.mk (PyData.keyHash P (Str.ofString "_law_stray")) (Value.str (Str.ofString "_law_stray") 2352) (Value.ref 165)
noncomputable def m16 (P : Params) : Obj := Obj.mk (Value.type "dict") none (Data.dict #[en18 P, en1 P, en2 P, en3 P, en4 P, en5 P, en6 P, en7 P, en8 P, en9 P, en10 P, en11 P, en12 P, en14 P, en15 P, en17 P, en19 P, en20 P, en21 P, en22 P, en23 P] 21) #[]
noncomputable def en24 (P : Params) : DictEntry := DictEntry.mk (PyData.keyHash P (Str.ofString "_law_letter")) (Value.str (Str.ofString "_law_letter") 2361) (Value.ref 172)
noncomputable def m17 (P : Params) : Obj := Obj.mk (Value.type "dict") none (Data.dict #[en18 P, en1 P, en2 P, en3 P, en4 P, en5 P, en6 P, en7 P, en8 P, en9 P, en10 P, en11 P, en12 P, en14 P, en15 P, en17 P, en19 P, en20 P, en21 P, en22 P, en23 P, en24 P] 22) #[]
noncomputable def en25 (P : Params) : DictEntry := DictEntry.mk (PyData.keyHash P (Str.ofString "_law_words")) (Value.str (Str.ofString "_law_words") 2367) (Value.ref 177)
noncomputable def m18 (P : Params) : Obj := Obj.mk (Value.type "dict") none (Data.dict #[en18 P, en1 P, en2 P, en3 P, en4 P, en5 P, en6 P, en7 P, en8 P, en9 P, en10 P, en11 P, en12 P, en14 P, en15 P, en17 P, en19 P, en20 P, en21 P, en22 P, en23 P, en24 P, en25 P] 23) #[]
noncomputable def en26 (P : Params) : DictEntry := DictEntry.mk (PyData.keyHash P (Str.ofString "_law_image")) (Value.str (Str.ofString "_law_image") 2378) (Value.ref 184)
noncomputable def m19 (P : Params) : Obj := Obj.mk (Value.type "dict") none (Data.dict #[en18 P, en1 P, en2 P, en3 P, en4 P, en5 P, en6 P, en7 P, en8 P, en9 P, en10 P, en11 P, en12 P, en14 P, en15 P, en17 P, en19 P, en20 P, en21 P, en22 P, en23 P, en24 P, en25 P, en26 P] 24) #[]
noncomputable def en27 (P : Params) : DictEntry := DictEntry.mk (PyData.keyHash P (Str.ofString "_law_closed")) (Value.str (Str.ofString "_law_closed") 2384) (Value.ref 189)
noncomputable def m20 (P : Params) : Obj := Obj.mk (Value.type "dict") none (Data.dict #[en18 P, en1 P, en2 P, en3 P, en4 P, en5 P, en6 P, en7 P, en8 P, en9 P, en10 P, en11 P, en12 P, en14 P, en15 P, en17 P, en19 P, en20 P, en21 P, en22 P, en23 P, en24 P, en25 P, en26 P, en27 P] 25) #[]
noncomputable def en28 (P : Params) : DictEntry := DictEntry.mk (PyData.keyHash P (Str.ofString "_law_seen")) (Value.str (Str.ofString "_law_seen") 2390) (Value.ref 194)
noncomputable def m21 (P : Params) : Obj := Obj.mk (Value.type "dict") none (Data.dict #[en18 P, en1 P, en2 P, en3 P, en4 P, en5 P, en6 P, en7 P, en8 P, en9 P, en10 P, en11 P, en12 P, en14 P, en15 P, en17 P, en19 P, en20 P, en21 P, en22 P, en23 P, en24 P, en25 P, en26 P, en27 P, en28 P] 26) #[]
noncomputable def en29 (P : Params) : DictEntry := DictEntry.mk (PyData.keyHash P (Str.ofString "law")) (Value.str (Str.ofString "law") 2396) (Value.ref 199)
noncomputable def m22 (P : Params) : Obj := Obj.mk (Value.type "dict") none (Data.dict #[en18 P, en1 P, en2 P, en3 P, en4 P, en5 P, en6 P, en7 P, en8 P, en9 P, en10 P, en11 P, en12 P, en14 P, en15 P, en17 P, en19 P, en20 P, en21 P, en22 P, en23 P, en24 P, en25 P, en26 P, en27 P, en28 P, en29 P] 27) #[]
noncomputable def o11 (P : Params) : Obj := Obj.mk (Value.type "tuple") none (Data.seq #[]) #[]
noncomputable def o12_0 (P : Params) : Obj := Obj.mk Value.none none (Data.fields #[]) #[]
noncomputable def o12_3 (P : Params) : Obj := Obj.mk Value.none none (Data.fields #[Value.int 3 0, Value.int 0 0, Value.ref 31]) #[]
noncomputable def o12_5 (P : Params) : Obj := Obj.mk Value.none none (Data.fields #[Value.int 3 0, Value.int 0 0, Value.ref 31, Value.int 6 0, Value.int 0 0, Value.ref 77]) #[]
noncomputable def o12_7 (P : Params) : Obj := Obj.mk Value.none none (Data.fields #[Value.int 3 0, Value.int 0 0, Value.ref 31, Value.int 6 0, Value.int 0 0, Value.ref 77, Value.int 12 0, Value.int 0 0, Value.ref 84]) #[]
noncomputable def o12_8 (P : Params) : Obj := Obj.mk Value.none none (Data.fields #[Value.int 3 0, Value.int 0 0, Value.ref 31, Value.int 6 0, Value.int 0 0, Value.ref 77, Value.int 12 0, Value.int 0 0, Value.ref 84, Value.int 35 0, Value.int 0 0, Value.ref 91]) #[]
noncomputable def o12_10 (P : Params) : Obj := Obj.mk Value.none none (Data.fields #[Value.int 3 0, Value.int 0 0, Value.ref 31, Value.int 6 0, Value.int 0 0, Value.ref 77, Value.int 12 0, Value.int 0 0, Value.ref 84, Value.int 35 0, Value.int 0 0, Value.ref 91, Value.int 55 0, Value.int 0 0, Value.ref 98]) #[]
noncomputable def o12_12 (P : Params) : Obj := Obj.mk Value.none none (Data.fields #[Value.int 3 0, Value.int 0 0, Value.ref 31, Value.int 6 0, Value.int 0 0, Value.ref 77, Value.int 12 0, Value.int 0 0, Value.ref 84, Value.int 35 0, Value.int 0 0, Value.ref 91, Value.int 55 0, Value.int 0 0, Value.ref 98, Value.int 99 0, Value.int 0 0, Value.ref 140]) #[]
noncomputable def o12_13 (P : Params) : Obj := Obj.mk Value.none none (Data.fields #[Value.int 3 0, Value.int 0 0, Value.ref 31, Value.int 6 0, Value.int 0 0, Value.ref 77, Value.int 12 0, Value.int 0 0, Value.ref 84, Value.int 35 0, Value.int 0 0, Value.ref 91, Value.int 55 0, Value.int 0 0, Value.ref 98, Value.int 99 0, Value.int 0 0, Value.ref 140, Value.int 104 0, Value.int 0 0, Value.ref 145]) #[]
noncomputable def o12_14 (P : Params) : Obj := Obj.mk Value.none none (Data.fields #[Value.int 3 0, Value.int 0 0, Value.ref 31, Value.int 6 0, Value.int 0 0, Value.ref 77, Value.int 12 0, Value.int 0 0, Value.ref 84, Value.int 35 0, Value.int 0 0, Value.ref 91, Value.int 55 0, Value.int 0 0, Value.ref 98, Value.int 99 0, Value.int 0 0, Value.ref 140, Value.int 104 0, Value.int 0 0, Value.ref 145, Value.int 109 0, Value.int 0 0, Value.ref 150]) #[]
noncomputable def o12_15 (P : Params) : Obj := Obj.mk Value.none none (Data.fields #[Value.int 3 0, Value.int 0 0, Value.ref 31, Value.int 6 0, Value.int 0 0, Value.ref 77, Value.int 12 0, Value.int 0 0, Value.ref 84, Value.int 35 0, Value.int 0 0, Value.ref 91, Value.int 55 0, Value.int 0 0, Value.ref 98, Value.int 99 0, Value.int 0 0, Value.ref 140, Value.int 104 0, Value.int 0 0, Value.ref 145, Value.int 109 0, Value.int 0 0, Value.ref 150, Value.int 114 0, Value.int 0 0, Value.ref 157]) #[]
noncomputable def o12_16 (P : Params) : Obj := Obj.mk Value.none none (Data.fields #[Value.int 3 0, Value.int 0 0, Value.ref 31, Value.int 6 0, Value.int 0 0, Value.ref 77, Value.int 12 0, Value.int 0 0, Value.ref 84, Value.int 35 0, Value.int 0 0, Value.ref 91, Value.int 55 0, Value.int 0 0, Value.ref 98, Value.int 99 0, Value.int 0 0, Value.ref 140, Value.int 104 0, Value.int 0 0, Value.ref 145, Value.int 109 0, Value.int 0 0, Value.ref 150, Value.int 114 0, Value.int 0 0, Value.ref 157, Value.int 117 0, Value.int 0 0, Value.ref 164]) #[]
noncomputable def o12_17 (P : Params) : Obj := Obj.mk Value.none none (Data.fields #[Value.int 3 0, Value.int 0 0, Value.ref 31, Value.int 6 0, Value.int 0 0, Value.ref 77, Value.int 12 0, Value.int 0 0, Value.ref 84, Value.int 35 0, Value.int 0 0, Value.ref 91, Value.int 55 0, Value.int 0 0, Value.ref 98, Value.int 99 0, Value.int 0 0, Value.ref 140, Value.int 104 0, Value.int 0 0, Value.ref 145, Value.int 109 0, Value.int 0 0, Value.ref 150, Value.int 114 0, Value.int 0 0, Value.ref 157, Value.int 117 0, Value.int 0 0, Value.ref 164, Value.int 120 0, Value.int 0 0, Value.ref 171]) #[]
noncomputable def o12_18 (P : Params) : Obj := Obj.mk Value.none none (Data.fields #[Value.int 3 0, Value.int 0 0, Value.ref 31, Value.int 6 0, Value.int 0 0, Value.ref 77, Value.int 12 0, Value.int 0 0, Value.ref 84, Value.int 35 0, Value.int 0 0, Value.ref 91, Value.int 55 0, Value.int 0 0, Value.ref 98, Value.int 99 0, Value.int 0 0, Value.ref 140, Value.int 104 0, Value.int 0 0, Value.ref 145, Value.int 109 0, Value.int 0 0, Value.ref 150, Value.int 114 0, Value.int 0 0, Value.ref 157, Value.int 117 0, Value.int 0 0, Value.ref 164, Value.int 120 0, Value.int 0 0, Value.ref 171, Value.int 125 0, Value.int 0 0, Value.ref 176]) #[]
noncomputable def o12_19 (P : Params) : Obj := Obj.mk Value.none none (Data.fields #[Value.int 3 0, Value.int 0 0, Value.ref 31, Value.int 6 0, Value.int 0 0, Value.ref 77, Value.int 12 0, Value.int 0 0, Value.ref 84, Value.int 35 0, Value.int 0 0, Value.ref 91, Value.int 55 0, Value.int 0 0, Value.ref 98, Value.int 99 0, Value.int 0 0, Value.ref 140, Value.int 104 0, Value.int 0 0, Value.ref 145, Value.int 109 0, Value.int 0 0, Value.ref 150, Value.int 114 0, Value.int 0 0, Value.ref 157, Value.int 117 0, Value.int 0 0, Value.ref 164, Value.int 120 0, Value.int 0 0, Value.ref 171, Value.int 125 0, Value.int 0 0, Value.ref 176, Value.int 141 0, Value.int 0 0, Value.ref 183]) #[]
noncomputable def o12_20 (P : Params) : Obj := Obj.mk Value.none none (Data.fields #[Value.int 3 0, Value.int 0 0, Value.ref 31, Value.int 6 0, Value.int 0 0, Value.ref 77, Value.int 12 0, Value.int 0 0, Value.ref 84, Value.int 35 0, Value.int 0 0, Value.ref 91, Value.int 55 0, Value.int 0 0, Value.ref 98, Value.int 99 0, Value.int 0 0, Value.ref 140, Value.int 104 0, Value.int 0 0, Value.ref 145, Value.int 109 0, Value.int 0 0, Value.ref 150, Value.int 114 0, Value.int 0 0, Value.ref 157, Value.int 117 0, Value.int 0 0, Value.ref 164, Value.int 120 0, Value.int 0 0, Value.ref 171, Value.int 125 0, Value.int 0 0, Value.ref 176, Value.int 141 0, Value.int 0 0, Value.ref 183, Value.int 151 0, Value.int 0 0, Value.ref 188]) #[]
noncomputable def o12_21 (P : Params) : Obj := Obj.mk Value.none none (Data.fields #[Value.int 3 0, Value.int 0 0, Value.ref 31, Value.int 6 0, Value.int 0 0, Value.ref 77, Value.int 12 0, Value.int 0 0, Value.ref 84, Value.int 35 0, Value.int 0 0, Value.ref 91, Value.int 55 0, Value.int 0 0, Value.ref 98, Value.int 99 0, Value.int 0 0, Value.ref 140, Value.int 104 0, Value.int 0 0, Value.ref 145, Value.int 109 0, Value.int 0 0, Value.ref 150, Value.int 114 0, Value.int 0 0, Value.ref 157, Value.int 117 0, Value.int 0 0, Value.ref 164, Value.int 120 0, Value.int 0 0, Value.ref 171, Value.int 125 0, Value.int 0 0, Value.ref 176, Value.int 141 0, Value.int 0 0, Value.ref 183, Value.int 151 0, Value.int 0 0, Value.ref 188, Value.int 154 0, Value.int 0 0, Value.ref 193]) #[]
noncomputable def o12_22 (P : Params) : Obj := Obj.mk Value.none none (Data.fields #[Value.int 3 0, Value.int 0 0, Value.ref 31, Value.int 6 0, Value.int 0 0, Value.ref 77, Value.int 12 0, Value.int 0 0, Value.ref 84, Value.int 35 0, Value.int 0 0, Value.ref 91, Value.int 55 0, Value.int 0 0, Value.ref 98, Value.int 99 0, Value.int 0 0, Value.ref 140, Value.int 104 0, Value.int 0 0, Value.ref 145, Value.int 109 0, Value.int 0 0, Value.ref 150, Value.int 114 0, Value.int 0 0, Value.ref 157, Value.int 117 0, Value.int 0 0, Value.ref 164, Value.int 120 0, Value.int 0 0, Value.ref 171, Value.int 125 0, Value.int 0 0, Value.ref 176, Value.int 141 0, Value.int 0 0, Value.ref 183, Value.int 151 0, Value.int 0 0, Value.ref 188, Value.int 154 0, Value.int 0 0, Value.ref 193, Value.int 169 0, Value.int 0 0, Value.ref 198]) #[]
noncomputable def o13 (P : Params) : Obj := Obj.mk (Value.type "code") none (Data.fields #[Value.str (Str.ofString "<module>") 182, Value.str (Str.ofString "<module>") 183, Value.str (Str.ofString "/claim/cut.py") 184, Value.int 1 0, Value.int 0 0, Value.int 0 0, Value.int 0 0, Value.int 0 0, Value.ref 11, Value.bool false, Value.int 181 0, Value.ref 12, Value.none, Value.none, Value.none, Value.none, Value.int 185 0, Value.int 1 0, Value.str (Str.ofString "/claim/cut.py") 186]) #[]
noncomputable def o14 (P : Params) : Obj := Obj.mk (Value.type "frame") none Data.plain #[some (Value.ref 13), some (Value.ref 3), some (Value.ref 3), none, some (Value.str (Str.ofString "__main__") 164), none, some (Value.ref 0)]
noncomputable def o15 (P : Params) : Obj := Obj.mk (Value.type "list") none (Data.seq #[Value.int 173 189, Value.int 847 190, Value.int 6150 191, Value.int 6155 192, Value.int 6156 193, Value.int 6157 194, Value.int 8203 195, Value.int 8204 196, Value.int 8205 197, Value.int 8288 198, Value.int 65279 199]) #[]
noncomputable def o16 (P : Params) : Obj := Obj.mk (Value.type "range") none (Data.fields #[Value.int 65024 200, Value.int 65040 201, Value.int 1 202]) #[]
noncomputable def o17 (P : Params) : Obj := Obj.mk (Value.type "list") none (Data.seq #[Value.int 65024 205, Value.int 65025 206, Value.int 65026 207, Value.int 65027 208, Value.int 65028 209, Value.int 65029 210, Value.int 65030 211, Value.int 65031 212, Value.int 65032 213, Value.int 65033 214, Value.int 65034 215, Value.int 65035 216, Value.int 65036 217, Value.int 65037 218, Value.int 65038 219, Value.int 65039 220] 18) #[]
noncomputable def o18 (P : Params) : Obj := Obj.mk (Value.type "range_iterator") none (Data.fields #[Value.int 65040 0, Value.int 0 0, Value.int 1 0]) #[]
noncomputable def o19 (P : Params) : Obj := Obj.mk (Value.type "tuple") none (Data.seq #[]) #[]
noncomputable def o20 (P : Params) : Obj := Obj.mk (Value.type "StopIteration") none (Data.fields #[Value.ref 19, Value.none, Value.none, Value.none, Value.bool false, Value.none]) #[]
noncomputable def o21 (P : Params) : Obj := Obj.mk (Value.type "list") none (Data.seq #[Value.int 173 189, Value.int 847 190, Value.int 6150 191, Value.int 6155 192, Value.int 6156 193, Value.int 6157 194, Value.int 8203 195, Value.int 8204 196, Value.int 8205 197, Value.int 8288 198, Value.int 65279 199, Value.int 65024 205, Value.int 65025 206, Value.int 65026 207, Value.int 65027 208, Value.int 65028 209, Value.int 65029 210, Value.int 65030 211, Value.int 65031 212, Value.int 65032 213, Value.int 65033 214, Value.int 65034 215, Value.int 65035 216, Value.int 65036 217, Value.int 65037 218, Value.int 65038 219, Value.int 65039 220]) #[]
noncomputable def o22 (P : Params) : Obj := Obj.mk (Value.type "set") none (Data.set #[(65024, Value.int 65024 205), (65025, Value.int 65025 206), (65026, Value.int 65026 207), (65027, Value.int 65027 208), (65028, Value.int 65028 209), (65029, Value.int 65029 210), (6150, Value.int 6150 191), (65030, Value.int 65030 211), (65031, Value.int 65031 212), (65032, Value.int 65032 213), (65033, Value.int 65033 214), (6155, Value.int 6155 192), (6156, Value.int 6156 193), (6157, Value.int 6157 194), (8203, Value.int 8203 195), (8204, Value.int 8204 196), (8205, Value.int 8205 197), (65034, Value.int 65034 215), (65035, Value.int 65035 216), (65036, Value.int 65036 217), (65037, Value.int 65037 218), (65038, Value.int 65038 219), (65039, Value.int 65039 220), (173, Value.int 173 189), (847, Value.int 847 190), (8288, Value.int 8288 198), (65279, Value.int 65279 199)] 29 (SetTable.mk 127 #[0, 1, 2, 3, 4, 5, 6, 7, 8, 9, 10, 11, 12, 13, 14, 15, 16, 17, 18, 19, 20, 21, 22, 45, 79, 96, 127] #[] 0 (!Params.followText P "set-order") 2 true)) #[]
noncomputable def o23 (P : Params) : Obj := Obj.mk (Value.type "list_iterator") none (Data.fields #[Value.none, Value.int 27 0]) #[]
noncomputable def o24 (P : Params) : Obj := Obj.mk (Value.type "tuple") none (Data.seq #[]) #[]
noncomputable def o25 (P : Params) : Obj := Obj.mk (Value.type "StopIteration") none (Data.fields #[Value.ref 24, Value.none, Value.none, Value.none, Value.bool false, Value.none]) #[]
noncomputable def o26 (P : Params) : Obj := Obj.mk (Value.type "tuple") none (Data.seq #[]) #[]
noncomputable def o27 (P : Params) : Obj := Obj.mk Value.none none (Data.fields #[]) #[]
noncomputable def o28 (P : Params) : Obj := Obj.mk (Value.type "tuple") none (Data.seq #[Value.str (Str.ofString "code") 252]) #[]
noncomputable def o29 (P : Params) : Obj := Obj.mk (Value.type "tuple") none (Data.seq #[]) #[]
noncomputable def o30 (P : Params) : Obj := Obj.mk (Value.none) none (Data.func (fd 2 0 (Value.none) (Value.none))) #[]
noncomputable def o31 (P : Params) : Obj := Obj.mk (Value.type "code") none (Data.fields #[Value.str (Str.ofString "in_table_b1") 249, Value.str (Str.ofString "in_table_b1") 250, Value.str (Str.ofString "/claim/cut.py") 251, Value.int 3 0, Value.int 1 0, Value.int 0 0, Value.int 0 0, Value.int 3 0, Value.ref 26, Value.bool true, Value.int 181 0, Value.ref 27, Value.none, Value.ref 28, Value.ref 29, Value.ref 30, Value.int 253 0, Value.int 3 0, Value.str (Str.ofString "/claim/cut.py") 254]) #[]
noncomputable def o32 (P : Params) : Obj := Obj.mk (Value.type "function") none (Data.func (fd 2 3 (Value.str (Str.ofString "cpy313.stringprep") 187) (Value.ref 31))) #[]
noncomputable def o72 (P : Params) : Obj := Obj.mk (Value.type "tuple") none (Data.seq #[]) #[]
noncomputable def o73 (P : Params) : Obj := Obj.mk Value.none none (Data.fields #[]) #[]
noncomputable def o74 (P : Params) : Obj := Obj.mk (Value.type "tuple") none (Data.seq #[Value.str (Str.ofString "code") 2210, Value.str (Str.ofString "r") 2211]) #[]
noncomputable def o75 (P : Params) : Obj := Obj.mk (Value.type "tuple") none (Data.seq #[]) #[]
noncomputable def o76 (P : Params) : Obj := Obj.mk (Value.none) none (Data.func (fd 4 0 (Value.none) (Value.none))) #[]
noncomputable def o77 (P : Params) : Obj := Obj.mk (Value.type "code") none (Data.fields #[Value.str (Str.ofString "map_table_b3") 2207, Value.str (Str.ofString "map_table_b3") 2208, Value.str (Str.ofString "/claim/cut.py") 2209, Value.int 6 0, Value.int 1 0, Value.int 0 0, Value.int 0 0, Value.int 3 0, Value.ref 72, Value.bool true, Value.int 181 0, Value.ref 73, Value.none, Value.ref 74, Value.ref 75, Value.ref 76, Value.int 2212 0, Value.int 6 0, Value.str (Str.ofString "/claim/cut.py") 2213]) #[]
noncomputable def o78 (P : Params) : Obj := Obj.mk (Value.type "function") none (Data.func (fd 4 3 (Value.str (Str.ofString "cpy313.stringprep") 187) (Value.ref 77))) #[]
noncomputable def o79 (P : Params) : Obj := Obj.mk (Value.type "tuple") none (Data.seq #[]) #[]
noncomputable def o80 (P : Params) : Obj := Obj.mk Value.none none (Data.fields #[]) #[]
noncomputable def o81 (P : Params) : Obj := Obj.mk (Value.type "tuple") none (Data.seq #[Value.str (Str.ofString "r") 2220, Value.str (Str.ofString "g") 2221, Value.str (Str.ofString "b") 2222, Value.str (Str.ofString "maxc") 2223, Value.str (Str.ofString "minc") 2224, Value.str (Str.ofString "sumc") 2225, Value.str (Str.ofString "rangec") 2226, Value.str (Str.ofString "l") 2227, Value.str (Str.ofString "s") 2228, Value.str (Str.ofString "rc") 2229, Value.str (Str.ofString "gc") 2230, Value.str (Str.ofString "bc") 2231, Value.str (Str.ofString "h") 2232]) #[]
noncomputable def o82 (P : Params) : Obj := Obj.mk (Value.type "tuple") none (Data.seq #[]) #[]
noncomputable def o83 (P : Params) : Obj := Obj.mk (Value.none) none (Data.func (fd 6 0 (Value.none) (Value.none))) #[]
noncomputable def o84 (P : Params) : Obj := Obj.mk (Value.type "code") none (Data.fields #[Value.str (Str.ofString "rgb_to_hls") 2217, Value.str (Str.ofString "rgb_to_hls") 2218, Value.str (Str.ofString "/claim/cut.py") 2219, Value.int 12 0, Value.int 3 0, Value.int 0 0, Value.int 0 0, Value.int 3 0, Value.ref 79, Value.bool true, Value.int 181 0, Value.ref 80, Value.none, Value.ref 81, Value.ref 82, Value.ref 83, Value.int 2233 0, Value.int 12 0, Value.str (Str.ofString "/claim/cut.py") 2234]) #[]
noncomputable def o85 (P : Params) : Obj := Obj.mk (Value.type "function") none (Data.func (fd 6 3 (Value.str (Str.ofString "cpy313.colorsys") 2215) (Value.ref 84))) #[]
noncomputable def o86 (P : Params) : Obj := Obj.mk (Value.type "tuple") none (Data.seq #[]) #[]
noncomputable def o87 (P : Params) : Obj := Obj.mk Value.none none (Data.fields #[]) #[]
noncomputable def o88 (P : Params) : Obj := Obj.mk (Value.type "tuple") none (Data.seq #[Value.str (Str.ofString "r") 2239, Value.str (Str.ofString "g") 2240, Value.str (Str.ofString "b") 2241, Value.str (Str.ofString "maxc") 2242, Value.str (Str.ofString "minc") 2243, Value.str (Str.ofString "rangec") 2244, Value.str (Str.ofString "v") 2245, Value.str (Str.ofString "s") 2246, Value.str (Str.ofString "rc") 2247, Value.str (Str.ofString "gc") 2248, Value.str (Str.ofString "bc") 2249, Value.str (Str.ofString "h") 2250]) #[]
noncomputable def o89 (P : Params) : Obj := Obj.mk (Value.type "tuple") none (Data.seq #[]) #[]
noncomputable def o90 (P : Params) : Obj := Obj.mk (Value.none) none (Data.func (fd 7 0 (Value.none) (Value.none))) #[]
noncomputable def o91 (P : Params) : Obj := Obj.mk (Value.type "code") none (Data.fields #[Value.str (Str.ofString "rgb_to_hsv") 2236, Value.str (Str.ofString "rgb_to_hsv") 2237, Value.str (Str.ofString "/claim/cut.py") 2238, Value.int 35 0, Value.int 3 0, Value.int 0 0, Value.int 0 0, Value.int 3 0, Value.ref 86, Value.bool true, Value.int 181 0, Value.ref 87, Value.none, Value.ref 88, Value.ref 89, Value.ref 90, Value.int 2251 0, Value.int 35 0, Value.str (Str.ofString "/claim/cut.py") 2252]) #[]
noncomputable def o92 (P : Params) : Obj := Obj.mk (Value.type "function") none (Data.func (fd 7 3 (Value.str (Str.ofString "cpy313.colorsys") 2215) (Value.ref 91))) #[]
noncomputable def o93 (P : Params) : Obj := Obj.mk (Value.type "tuple") none (Data.seq #[]) #[]
noncomputable def o94 (P : Params) : Obj := Obj.mk (Value.type "builtin_function_or_method") none (Data.fields #[Value.builtin "type.__prepare__", Value.type "type"]) #[]
noncomputable def o95 (P : Params) : Obj := Obj.mk (Value.type "dict") none (Data.dict #[DictEntry.mk (PyData.keyHash P (Str.ofString "__module__")) (Value.str (Str.ofString "__module__") 2263) (Value.str (Str.ofString "cpy313.netrc") 2254), DictEntry.mk (PyData.keyHash P (Str.ofString "__qualname__")) (Value.str (Str.ofString "__qualname__") 2265) (Value.str (Str.ofString "_netrclex") 2264), DictEntry.mk (PyData.keyHash P (Str.ofString "__firstlineno__")) (Value.str (Str.ofString "__firstlineno__") 2267) (Value.int 55 2266), DictEntry.mk (PyData.keyHash P (Str.ofString "__init__")) (Value.str (Str.ofString "__init__") 2275) (Value.ref 106), DictEntry.mk (PyData.keyHash P (Str.ofString "_read_char")) (Value.str (Str.ofString "_read_char") 2283) (Value.ref 113), DictEntry.mk (PyData.keyHash P (Str.ofString "get_token")) (Value.str (Str.ofString "get_token") 2293) (Value.ref 120), DictEntry.mk (PyData.keyHash P (Str.ofString "push_token")) (Value.str (Str.ofString "push_token") 2301) (Value.ref 127), DictEntry.mk (PyData.keyHash P (Str.ofString "__static_attributes__")) (Value.str (Str.ofString "__static_attributes__") 2306) (Value.ref 128)] 8) #[]
noncomputable def o96 (P : Params) : Obj := Obj.mk (Value.type "tuple") none (Data.seq #[]) #[]
noncomputable def o97 (P : Params) : Obj := Obj.mk Value.none none (Data.fields #[Value.int 57 0, Value.int 4 0, Value.ref 105, Value.int 63 0, Value.int 4 0, Value.ref 112, Value.int 69 0, Value.int 4 0, Value.ref 119, Value.int 96 0, Value.int 4 0, Value.ref 126]) #[]
noncomputable def o98 (P : Params) : Obj := Obj.mk (Value.type "code") none (Data.fields #[Value.str (Str.ofString "_netrclex") 2258, Value.str (Str.ofString "_netrclex") 2259, Value.str (Str.ofString "/claim/cut.py") 2260, Value.int 55 0, Value.int 0 0, Value.int 0 0, Value.int 0 0, Value.int 0 0, Value.ref 96, Value.bool false, Value.int 181 0, Value.ref 97, Value.none, Value.none, Value.none, Value.none, Value.int 2261 0, Value.int 55 0, Value.str (Str.ofString "/claim/cut.py") 2262]) #[]
noncomputable def o99 (P : Params) : Obj := Obj.mk (Value.type "frame") none Data.plain #[some (Value.ref 98), some (Value.ref 3), some (Value.ref 95), none, some (Value.str (Str.ofString "cpy313.netrc") 2254), none, some (Value.ref 0)]
noncomputable def o100 (P : Params) : Obj := Obj.mk (Value.type "tuple") none (Data.seq #[]) #[]
noncomputable def o101 (P : Params) : Obj := Obj.mk Value.none none (Data.fields #[]) #[]
noncomputable def o102 (P : Params) : Obj := Obj.mk (Value.type "tuple") none (Data.seq #[Value.str (Str.ofString "self") 2271, Value.str (Str.ofString "fp") 2272]) #[]
noncomputable def o103 (P : Params) : Obj := Obj.mk (Value.type "tuple") none (Data.seq #[]) #[]
noncomputable def o104 (P : Params) : Obj := Obj.mk (Value.none) none (Data.func (fdm 0 0 (Value.none) (Value.none))) #[]
noncomputable def o105 (P : Params) : Obj := Obj.mk (Value.type "code") none (Data.fields #[Value.str (Str.ofString "__init__") 2268, Value.str (Str.ofString "_netrclex.__init__") 2269, Value.str (Str.ofString "/claim/cut.py") 2270, Value.int 57 0, Value.int 2 0, Value.int 0 0, Value.int 0 0, Value.int 3 0, Value.ref 100, Value.bool true, Value.int 181 0, Value.ref 101, Value.none, Value.ref 102, Value.ref 103, Value.ref 104, Value.int 2273 0, Value.int 57 0, Value.str (Str.ofString "/claim/cut.py") 2274]) #[]
noncomputable def o106 (P : Params) : Obj := Obj.mk (Value.type "function") none (Data.func (fdm 0 3 (Value.str (Str.ofString "cpy313.netrc") 2254) (Value.ref 105))) #[]
noncomputable def o107 (P : Params) : Obj := Obj.mk (Value.type "tuple") none (Data.seq #[]) #[]
noncomputable def o108 (P : Params) : Obj := Obj.mk Value.none none (Data.fields #[]) #[]
noncomputable def o109 (P : Params) : Obj := Obj.mk (Value.type "tuple") none (Data.seq #[Value.str (Str.ofString "self") 2279, Value.str (Str.ofString "ch") 2280]) #[]
noncomputable def o110 (P : Params) : Obj := Obj.mk (Value.type "tuple") none (Data.seq #[]) #[]
noncomputable def o111 (P : Params) : Obj := Obj.mk (Value.none) none (Data.func (fdm 1 0 (Value.none) (Value.none))) #[]
noncomputable def o112 (P : Params) : Obj := Obj.mk (Value.type "code") none (Data.fields #[Value.str (Str.ofString "_read_char") 2276, Value.str (Str.ofString "_netrclex._read_char") 2277, Value.str (Str.ofString "/claim/cut.py") 2278, Value.int 63 0, Value.int 1 0, Value.int 0 0, Value.int 0 0, Value.int 3 0, Value.ref 107, Value.bool true, Value.int 181 0, Value.ref 108, Value.none, Value.ref 109, Value.ref 110, Value.ref 111, Value.int 2281 0, Value.int 63 0, Value.str (Str.ofString "/claim/cut.py") 2282]) #[]
noncomputable def o113 (P : Params) : Obj := Obj.mk (Value.type "function") none (Data.func (fdm 1 3 (Value.str (Str.ofString "cpy313.netrc") 2254) (Value.ref 112))) #[]
noncomputable def o114 (P : Params) : Obj := Obj.mk (Value.type "tuple") none (Data.seq #[]) #[]
noncomputable def o115 (P : Params) : Obj := Obj.mk Value.none none (Data.fields #[]) #[]
noncomputable def o116 (P : Params) : Obj := Obj.mk (Value.type "tuple") none (Data.seq #[Value.str (Str.ofString "self") 2287, Value.str (Str.ofString "token") 2288, Value.str (Str.ofString "fiter") 2289, Value.str (Str.ofString "ch") 2290]) #[]
noncomputable def o117 (P : Params) : Obj := Obj.mk (Value.type "tuple") none (Data.seq #[]) #[]
noncomputable def o118 (P : Params) : Obj := Obj.mk (Value.none) none (Data.func (fdm 2 0 (Value.none) (Value.none))) #[]
noncomputable def o119 (P : Params) : Obj := Obj.mk (Value.type "code") none (Data.fields #[Value.str (Str.ofString "get_token") 2284, Value.str (Str.ofString "_netrclex.get_token") 2285, Value.str (Str.ofString "/claim/cut.py") 2286, Value.int 69 0, Value.int 1 0, Value.int 0 0, Value.int 0 0, Value.int 3 0, Value.ref 114, Value.bool true, Value.int 181 0, Value.ref 115, Value.none, Value.ref 116, Value.ref 117, Value.ref 118, Value.int 2291 0, Value.int 69 0, Value.str (Str.ofString "/claim/cut.py") 2292]) #[]
noncomputable def o120 (P : Params) : Obj := Obj.mk (Value.type "function") none (Data.func (fdm 2 3 (Value.str (Str.ofString "cpy313.netrc") 2254) (Value.ref 119))) #[]
noncomputable def o121 (P : Params) : Obj := Obj.mk (Value.type "tuple") none (Data.seq #[]) #[]
noncomputable def o122 (P : Params) : Obj := Obj.mk Value.none none (Data.fields #[]) #[]
noncomputable def o123 (P : Params) : Obj := Obj.mk (Value.type "tuple") none (Data.seq #[Value.str (Str.ofString "self") 2297, Value.str (Str.ofString "token") 2298]) #[]
noncomputable def o124 (P : Params) : Obj := Obj.mk (Value.type "tuple") none (Data.seq #[]) #[]
noncomputable def o125 (P : Params) : Obj := Obj.mk (Value.none) none (Data.func (fdm 3 0 (Value.none) (Value.none))) #[]
noncomputable def o126 (P : Params) : Obj := Obj.mk (Value.type "code") none (Data.fields #[Value.str (Str.ofString "push_token") 2294, Value.str (Str.ofString "_netrclex.push_token") 2295, Value.str (Str.ofString "/claim/cut.py") 2296, Value.int 96 0, Value.int 2 0, Value.int 0 0, Value.int 0 0, Value.int 3 0, Value.ref 121, Value.bool true, Value.int 181 0, Value.ref 122, Value.none, Value.ref 123, Value.ref 124, Value.ref 125, Value.int 2299 0, Value.int 96 0, Value.str (Str.ofString "/claim/cut.py") 2300]) #[]
noncomputable def o127 (P : Params) : Obj := Obj.mk (Value.type "function") none (Data.func (fdm 3 3 (Value.str (Str.ofString "cpy313.netrc") 2254) (Value.ref 126))) #[]
noncomputable def o128 (P : Params) : Obj := Obj.mk (Value.type "tuple") none (Data.seq #[Value.str (Str.ofString "instream") 2302, Value.str (Str.ofString "lineno") 2303, Value.str (Str.ofString "pushback") 2304, Value.str (Str.ofString "whitespace") 2305]) #[]
noncomputable def o129 (P : Params) : Obj := Obj.mk (Value.type "dict") none (Data.dict #[DictEntry.mk (PyData.keyHash P (Str.ofString "__module__")) (Value.str (Str.ofString "__module__") 2263) (Value.str (Str.ofString "cpy313.netrc") 2254), DictEntry.mk (PyData.keyHash P (Str.ofString "__firstlineno__")) (Value.str (Str.ofString "__firstlineno__") 2267) (Value.int 55 2266), DictEntry.mk (PyData.keyHash P (Str.ofString "__init__")) (Value.str (Str.ofString "__init__") 2275) (Value.ref 106), DictEntry.mk (PyData.keyHash P (Str.ofString "_read_char")) (Value.str (Str.ofString "_read_char") 2283) (Value.ref 113), DictEntry.mk (PyData.keyHash P (Str.ofString "get_token")) (Value.str (Str.ofString "get_token") 2293) (Value.ref 120), DictEntry.mk (PyData.keyHash P (Str.ofString "push_token")) (Value.str (Str.ofString "push_token") 2301) (Value.ref 127), DictEntry.mk (PyData.keyHash P (Str.ofString "__static_attributes__")) (Value.str (Str.ofString "__static_attributes__") 2306) (Value.ref 128), DictEntry.mk (PyData.keyHash P (Str.ofString "__dict__")) (Value.str (Str.ofString "__dict__") 2308) (Value.ref 131), DictEntry.mk (PyData.keyHash P (Str.ofString "__weakref__")) (Value.str (Str.ofString "__weakref__") 2310) (Value.ref 132), DictEntry.mk (PyData.keyHash P (Str.ofString "__doc__")) (Value.str (Str.ofString "__doc__") 2311) Value.none] 4) #[]
noncomputable def o130 (P : Params) : Obj := Obj.mk (Value.type "type") none (Data.cls (ClassData.mk (Str.ofString "_netrclex") [Value.type "object"] [Value.ref 130, Value.type "object"] 129 (Str.ofString "_netrclex") true [] [] false none false)) #[none, none, some (Value.str (Str.ofString "_netrclex") 2256), some (Value.str (Str.ofString "_netrclex") 2264), some (Value.builtin "object.__new__"), some (Value.bool true)]
noncomputable def o131 (P : Params) : Obj := Obj.mk (Value.type "getset_descriptor") none (Data.fields #[Value.str (Str.ofString "__dict__") 2307, Value.ref 130, Value.builtin "function.__dict__", Value.builtin "function.__dict__#set"]) #[]
noncomputable def o132 (P : Params) : Obj := Obj.mk (Value.type "getset_descriptor") none (Data.fields #[Value.str (Str.ofString "__weakref__") 2309, Value.ref 130, Value.builtin "ExceptionGroup.__weakref__", Value.none]) #[]
noncomputable def o133 (P : Params) : Obj := Obj.mk (Value.type "super") none (Data.fields #[Value.ref 130, Value.ref 130, Value.ref 130]) #[]
noncomputable def o134 (P : Params) : Obj := Obj.mk (Value.type "builtin_function_or_method") none (Data.fields #[Value.builtin "object.__init_subclass__", Value.ref 130]) #[]
noncomputable def o135 (P : Params) : Obj := Obj.mk (Value.type "tuple") none (Data.seq #[]) #[]
noncomputable def o136 (P : Params) : Obj := Obj.mk Value.none none (Data.fields #[]) #[]
noncomputable def o137 (P : Params) : Obj := Obj.mk (Value.type "tuple") none (Data.seq #[Value.str (Str.ofString "text") 2319, Value.str (Str.ofString "stream") 2320]) #[]
noncomputable def o138 (P : Params) : Obj := Obj.mk (Value.type "tuple") none (Data.seq #[Value.str (Str.ofString "signs") 2321]) #[]
noncomputable def o139 (P : Params) : Obj := Obj.mk (Value.none) none (Data.func (fd 11 0 (Value.none) (Value.none))) #[]
noncomputable def o140 (P : Params) : Obj := Obj.mk (Value.type "code") none (Data.fields #[Value.str (Str.ofString "_law_lexer") 2316, Value.str (Str.ofString "_law_lexer") 2317, Value.str (Str.ofString "/claim/cut.py") 2318, Value.int 99 0, Value.int 1 0, Value.int 0 0, Value.int 0 0, Value.int 3 0, Value.ref 135, Value.bool true, Value.int 181 0, Value.ref 136, Value.none, Value.ref 137, Value.ref 138, Value.ref 139, Value.int 2322 0, Value.int 99 0, Value.str (Str.ofString "/claim/cut.py") 2323]) #[]
noncomputable def o141 (P : Params) : Obj := Obj.mk (Value.type "function") none (Data.func (fd 11 3 (Value.str (Str.ofString "law_rw0107_01") 2314) (Value.ref 140))) #[]
noncomputable def o142 (P : Params) : Obj := Obj.mk (Value.type "tuple") none (Data.seq #[]) #[]
noncomputable def o143 (P : Params) : Obj := Obj.mk Value.none none (Data.fields #[]) #[]
noncomputable def o144 (P : Params) : Obj := Obj.mk (Value.none) none (Data.func (fd 12 0 (Value.none) (Value.none))) #[]
noncomputable def o145 (P : Params) : Obj := Obj.mk (Value.type "code") none (Data.fields #[Value.str (Str.ofString "_law_written") 2325, Value.str (Str.ofString "_law_written") 2326, Value.str (Str.ofString "/claim/cut.py") 2327, Value.int 104 0, Value.int 2 0, Value.int 0 0, Value.int 0 0, Value.int 3 0, Value.ref 142, Value.bool true, Value.int 181 0, Value.ref 143, Value.none, Value.none, Value.none, Value.ref 144, Value.int 2328 0, Value.int 104 0, Value.str (Str.ofString "/claim/cut.py") 2329]) #[]
noncomputable def o146 (P : Params) : Obj := Obj.mk (Value.type "function") none (Data.func (fd 12 3 (Value.str (Str.ofString "law_rw0107_01") 2314) (Value.ref 145))) #[]
noncomputable def o147 (P : Params) : Obj := Obj.mk (Value.type "tuple") none (Data.seq #[]) #[]
noncomputable def o148 (P : Params) : Obj := Obj.mk Value.none none (Data.fields #[]) #[]
noncomputable def o149 (P : Params) : Obj := Obj.mk (Value.none) none (Data.func (fd 13 0 (Value.none) (Value.none))) #[]
noncomputable def o150 (P : Params) : Obj := Obj.mk (Value.type "code") none (Data.fields #[Value.str (Str.ofString "_law_prepared") 2331, Value.str (Str.ofString "_law_prepared") 2332, Value.str (Str.ofString "/claim/cut.py") 2333, Value.int 109 0, Value.int 1 0, Value.int 0 0, Value.int 0 0, Value.int 3 0, Value.ref 147, Value.bool true, Value.int 181 0, Value.ref 148, Value.none, Value.none, Value.none, Value.ref 149, Value.int 2334 0, Value.int 109 0, Value.str (Str.ofString "/claim/cut.py") 2335]) #[]
noncomputable def o151 (P : Params) : Obj := Obj.mk (Value.type "function") none (Data.func (fd 13 3 (Value.str (Str.ofString "law_rw0107_01") 2314) (Value.ref 150))) #[]
noncomputable def o152 (P : Params) : Obj := Obj.mk (Value.type "tuple") none (Data.seq #[]) #[]
noncomputable def o153 (P : Params) : Obj := Obj.mk Value.none none (Data.fields #[]) #[]
noncomputable def o154 (P : Params) : Obj := Obj.mk (Value.type "tuple") none (Data.seq #[Value.str (Str.ofString "form") 2340, Value.str (Str.ofString "codes") 2341]) #[]
noncomputable def o155 (P : Params) : Obj := Obj.mk (Value.type "tuple") none (Data.seq #[]) #[]
noncomputable def o156 (P : Params) : Obj := Obj.mk (Value.none) none (Data.func (fd 14 0 (Value.none) (Value.none))) #[]
noncomputable def o157 (P : Params) : Obj := Obj.mk (Value.type "code") none (Data.fields #[Value.str (Str.ofString "_law_unseen") 2337, Value.str (Str.ofString "_law_unseen") 2338, Value.str (Str.ofString "/claim/cut.py") 2339, Value.int 114 0, Value.int 1 0, Value.int 0 0, Value.int 0 0, Value.int 3 0, Value.ref 152, Value.bool true, Value.int 181 0, Value.ref 153, Value.none, Value.ref 154, Value.ref 155, Value.ref 156, Value.int 2342 0, Value.int 114 0, Value.str (Str.ofString "/claim/cut.py") 2343]) #[]
noncomputable def o158 (P : Params) : Obj := Obj.mk (Value.type "function") none (Data.func (fd 14 3 (Value.str (Str.ofString "law_rw0107_01") 2314) (Value.ref 157))) #[]
noncomputable def o159 (P : Params) : Obj := Obj.mk (Value.type "tuple") none (Data.seq #[]) #[]
noncomputable def o160 (P : Params) : Obj := Obj.mk Value.none none (Data.fields #[]) #[]
noncomputable def o161 (P : Params) : Obj := Obj.mk (Value.type "tuple") none (Data.seq #[Value.str (Str.ofString "form") 2348, Value.str (Str.ofString "codes") 2349]) #[]
noncomputable def o162 (P : Params) : Obj := Obj.mk (Value.type "tuple") none (Data.seq #[]) #[]
noncomputable def o163 (P : Params) : Obj := Obj.mk (Value.none) none (Data.func (fd 15 0 (Value.none) (Value.none))) #[]
noncomputable def o164 (P : Params) : Obj := Obj.mk (Value.type "code") none (Data.fields #[Value.str (Str.ofString "_law_stray") 2345, Value.str (Str.ofString "_law_stray") 2346, Value.str (Str.ofString "/claim/cut.py") 2347, Value.int 117 0, Value.int 1 0, Value.int 0 0, Value.int 0 0, Value.int 3 0, Value.ref 159, Value.bool true, Value.int 181 0, Value.ref 160, Value.none, Value.ref 161, Value.ref 162, Value.ref 163, Value.int 2350 0, Value.int 117 0, Value.str (Str.ofString "/claim/cut.py") 2351]) #[]
noncomputable def o165 (P : Params) : Obj := Obj.mk (Value.type "function") none (Data.func (fd 15 3 (Value.str (Str.ofString "law_rw0107_01") 2314) (Value.ref 164))) #[]
noncomputable def o166 (P : Params) : Obj := Obj.mk (Value.type "tuple") none (Data.seq #[]) #[]
noncomputable def o167 (P : Params) : Obj := Obj.mk Value.none none (Data.fields #[]) #[]
noncomputable def o168 (P : Params) : Obj := Obj.mk (Value.type "tuple") none (Data.seq #[Value.str (Str.ofString "letter") 2356, Value.str (Str.ofString "form") 2357, Value.str (Str.ofString "way") 2358]) #[]
noncomputable def o169 (P : Params) : Obj := Obj.mk (Value.type "tuple") none (Data.seq #[]) #[]
noncomputable def o170 (P : Params) : Obj := Obj.mk (Value.none) none (Data.func (fd 16 0 (Value.none) (Value.none))) #[]
noncomputable def o171 (P : Params) : Obj := Obj.mk (Value.type "code") none (Data.fields #[Value.str (Str.ofString "_law_letter") 2353, Value.str (Str.ofString "_law_letter") 2354, Value.str (Str.ofString "/claim/cut.py") 2355, Value.int 120 0, Value.int 2 0, Value.int 0 0, Value.int 0 0, Value.int 3 0, Value.ref 166, Value.bool true, Value.int 181 0, Value.ref 167, Value.none, Value.ref 168, Value.ref 169, Value.ref 170, Value.int 2359 0, Value.int 120 0, Value.str (Str.ofString "/claim/cut.py") 2360]) #[]
noncomputable def o172 (P : Params) : Obj := Obj.mk (Value.type "function") none (Data.func (fd 16 3 (Value.str (Str.ofString "law_rw0107_01") 2314) (Value.ref 171))) #[]
noncomputable def o173 (P : Params) : Obj := Obj.mk (Value.type "tuple") none (Data.seq #[]) #[]
noncomputable def o174 (P : Params) : Obj := Obj.mk Value.none none (Data.fields #[]) #[]
noncomputable def o175 (P : Params) : Obj := Obj.mk (Value.none) none (Data.func (fd 17 0 (Value.none) (Value.none))) #[]
noncomputable def o176 (P : Params) : Obj := Obj.mk (Value.type "code") none (Data.fields #[Value.str (Str.ofString "_law_words") 2362, Value.str (Str.ofString "_law_words") 2363, Value.str (Str.ofString "/claim/cut.py") 2364, Value.int 125 0, Value.int 2 0, Value.int 0 0, Value.int 0 0, Value.int 3 0, Value.ref 173, Value.bool true, Value.int 181 0, Value.ref 174, Value.none, Value.none, Value.none, Value.ref 175, Value.int 2365 0, Value.int 125 0, Value.str (Str.ofString "/claim/cut.py") 2366]) #[]
noncomputable def o177 (P : Params) : Obj := Obj.mk (Value.type "function") none (Data.func (fd 17 3 (Value.str (Str.ofString "law_rw0107_01") 2314) (Value.ref 176))) #[]
noncomputable def o178 (P : Params) : Obj := Obj.mk (Value.type "tuple") none (Data.seq #[]) #[]
noncomputable def o179 (P : Params) : Obj := Obj.mk Value.none none (Data.fields #[]) #[]
noncomputable def o180 (P : Params) : Obj := Obj.mk (Value.type "tuple") none (Data.seq #[Value.str (Str.ofString "first") 2371, Value.str (Str.ofString "letter") 2372, Value.str (Str.ofString "form") 2373, Value.str (Str.ofString "both") 2374, Value.str (Str.ofString "signs") 2375]) #[]
noncomputable def o181 (P : Params) : Obj := Obj.mk (Value.type "tuple") none (Data.seq #[]) #[]
noncomputable def o182 (P : Params) : Obj := Obj.mk (Value.none) none (Data.func (fd 18 0 (Value.none) (Value.none))) #[]
noncomputable def o183 (P : Params) : Obj := Obj.mk (Value.type "code") none (Data.fields #[Value.str (Str.ofString "_law_image") 2368, Value.str (Str.ofString "_law_image") 2369, Value.str (Str.ofString "/claim/cut.py") 2370, Value.int 141 0, Value.int 3 0, Value.int 0 0, Value.int 0 0, Value.int 3 0, Value.ref 178, Value.bool true, Value.int 181 0, Value.ref 179, Value.none, Value.ref 180, Value.ref 181, Value.ref 182, Value.int 2376 0, Value.int 141 0, Value.str (Str.ofString "/claim/cut.py") 2377]) #[]
noncomputable def o184 (P : Params) : Obj := Obj.mk (Value.type "function") none (Data.func (fd 18 3 (Value.str (Str.ofString "law_rw0107_01") 2314) (Value.ref 183))) #[]
noncomputable def o185 (P : Params) : Obj := Obj.mk (Value.type "tuple") none (Data.seq #[]) #[]
noncomputable def o186 (P : Params) : Obj := Obj.mk Value.none none (Data.fields #[]) #[]
noncomputable def o187 (P : Params) : Obj := Obj.mk (Value.none) none (Data.func (fd 19 0 (Value.none) (Value.none))) #[]
noncomputable def o188 (P : Params) : Obj := Obj.mk (Value.type "code") none (Data.fields #[Value.str (Str.ofString "_law_closed") 2379, Value.str (Str.ofString "_law_closed") 2380, Value.str (Str.ofString "/claim/cut.py") 2381, Value.int 151 0, Value.int 1 0, Value.int 0 0, Value.int 0 0, Value.int 3 0, Value.ref 185, Value.bool true, Value.int 181 0, Value.ref 186, Value.none, Value.none, Value.none, Value.ref 187, Value.int 2382 0, Value.int 151 0, Value.str (Str.ofString "/claim/cut.py") 2383]) #[]
noncomputable def o189 (P : Params) : Obj := Obj.mk (Value.type "function") none (Data.func (fd 19 3 (Value.str (Str.ofString "law_rw0107_01") 2314) (Value.ref 188))) #[]
noncomputable def o190 (P : Params) : Obj := Obj.mk (Value.type "tuple") none (Data.seq #[]) #[]
noncomputable def o191 (P : Params) : Obj := Obj.mk Value.none none (Data.fields #[]) #[]
noncomputable def o192 (P : Params) : Obj := Obj.mk (Value.none) none (Data.func (fd 20 0 (Value.none) (Value.none))) #[]
noncomputable def o193 (P : Params) : Obj := Obj.mk (Value.type "code") none (Data.fields #[Value.str (Str.ofString "_law_seen") 2385, Value.str (Str.ofString "_law_seen") 2386, Value.str (Str.ofString "/claim/cut.py") 2387, Value.int 154 0, Value.int 2 0, Value.int 0 0, Value.int 0 0, Value.int 3 0, Value.ref 190, Value.bool true, Value.int 181 0, Value.ref 191, Value.none, Value.none, Value.none, Value.ref 192, Value.int 2388 0, Value.int 154 0, Value.str (Str.ofString "/claim/cut.py") 2389]) #[]
noncomputable def o194 (P : Params) : Obj := Obj.mk (Value.type "function") none (Data.func (fd 20 3 (Value.str (Str.ofString "law_rw0107_01") 2314) (Value.ref 193))) #[]
noncomputable def o195 (P : Params) : Obj := Obj.mk (Value.type "tuple") none (Data.seq #[]) #[]
noncomputable def o196 (P : Params) : Obj := Obj.mk Value.none none (Data.fields #[]) #[]
noncomputable def o197 (P : Params) : Obj := Obj.mk (Value.none) none (Data.func (fd 21 0 (Value.none) (Value.none))) #[]
noncomputable def o198 (P : Params) : Obj := Obj.mk (Value.type "code") none (Data.fields #[Value.str (Str.ofString "law") 2391, Value.str (Str.ofString "law") 2392, Value.str (Str.ofString "/claim/cut.py") 2393, Value.int 169 0, Value.int 1 0, Value.int 0 0, Value.int 0 0, Value.int 3 0, Value.ref 195, Value.bool true, Value.int 181 0, Value.ref 196, Value.none, Value.none, Value.none, Value.ref 197, Value.int 2394 0, Value.int 169 0, Value.str (Str.ofString "/claim/cut.py") 2395]) #[]
noncomputable def o199 (P : Params) : Obj := Obj.mk (Value.type "function") none (Data.func (fd 21 3 (Value.str (Str.ofString "law_rw0107_01") 2314) (Value.ref 198))) #[]
noncomputable def subObj (k : Nat) : Obj := Obj.mk (Value.type "dict") none (Data.dict (b3EntriesFrom (256 + 51 * (k + 1)) ((b3Pairs.drop (17 * (k + 1))).take 17)).toArray ((b3Pairs.drop (17 * (k + 1))).take 17).length) #[]
noncomputable def subLast : Obj := Obj.mk (Value.type "dict") none (Data.dict (b3EntriesEnd 2194 (b3Pairs.drop 646)).toArray 4) #[]
noncomputable def T0 (P : Params) : BT := (.node (boot_o_0 P) (.node (boot_o_1 P) (.node (boot_o_3 P) (.node (boot_o_7 P) .nil .nil) (.node (o11 P) .nil .nil)) (.node (boot_o_5 P) (.node (boot_o_9 P) .nil .nil) (.node (o13 P) .nil .nil))) (.node (boot_o_2 P) (.node (boot_o_4 P) (.node (boot_o_8 P) .nil .nil) (.node (o12_0 P) .nil .nil)) (.node (boot_o_6 P) (.node (boot_o_10 P) .nil .nil) (.node (o14 P) .nil .nil))))
noncomputable def T1 (P : Params) : BT := (.node (boot_o_0 P) (.node (boot_o_1 P) (.node (m1 P) (.node (boot_o_7 P) .nil .nil) (.node (o11 P) .nil .nil)) (.node (boot_o_5 P) (.node (boot_o_9 P) .nil .nil) (.node (o13 P) .nil .nil))) (.node (boot_o_2 P) (.node (boot_o_4 P) (.node (boot_o_8 P) .nil .nil) (.node (o12_0 P) .nil .nil)) (.node (boot_o_6 P) (.node (boot_o_10 P) .nil .nil) (.node (o14 P) .nil .nil))))
noncomputable def T2 (P : Params) : BT := (.node (boot_o_0 P) (.node (boot_o_1 P) (.node (m2 P) (.node (boot_o_7 P) (.node (o15 P) .nil .nil) (.node (o23 P) .nil .nil)) (.node (o11 P) (.node (o19 P) .nil .nil) .nil)) (.node (boot_o_5 P) (.node (boot_o_9 P) (.node (o17 P) .nil .nil) (.node (o25 P) .nil .nil)) (.node (o13 P) (.node (o21 P) .nil .nil) .nil))) (.node (boot_o_2 P) (.node (boot_o_4 P) (.node (boot_o_8 P) (.node (o16 P) .nil .nil) (.node (o24 P) .nil .nil)) (.node (o12_0 P) (.node (o20 P) .nil .nil) .nil)) (.node (boot_o_6 P) (.node (boot_o_10 P) (.node (o18 P) .nil .nil) .nil) (.node (o14 P) (.node (o22 P) .nil .nil) .nil))))
noncomputable def T3 (P : Params) : BT := (.node (boot_o_0 P) (.node (boot_o_1 P) (.node (m3 P) (.node (boot_o_7 P) (.node (o15 P) (.node (o31 P) .nil .nil) .nil) (.node (o23 P) .nil .nil)) (.node (o11 P) (.node (o19 P) .nil .nil) (.node (o27 P) .nil .nil))) (.node (boot_o_5 P) (.node (boot_o_9 P) (.node (o17 P) .nil .nil) (.node (o25 P) .nil .nil)) (.node (o13 P) (.node (o21 P) .nil .nil) (.node (o29 P) .nil .nil)))) (.node (boot_o_2 P) (.node (boot_o_4 P) (.node (boot_o_8 P) (.node (o16 P) (.node (o32 P) .nil .nil) .nil) (.node (o24 P) .nil .nil)) (.node (o12_3 P) (.node (o20 P) .nil .nil) (.node (o28 P) .nil .nil))) (.node (boot_o_6 P) (.node (boot_o_10 P) (.node (o18 P) .nil .nil) (.node (o26 P) .nil .nil)) (.node (o14 P) (.node (o22 P) .nil .nil) (.node (o30 P) .nil .nil)))))
noncomputable def T4 (P : Params) : BT := (.node (boot_o_0 P) (.node (boot_o_1 P) (.node (m4 P) (.node (boot_o_7 P) (.node (o15 P) (.node (o31 P) (.node ((subObj 29)) .nil .nil) .nil) (.node ((subObj 13)) .nil .nil)) (.node (o23 P) (.node ((subObj 5)) (.node (subLast) .nil .nil) .nil) (.node ((subObj 21)) .nil .nil))) (.node (o11 P) (.node (o19 P) (.node ((subObj 1)) (.node ((subObj 33)) .nil .nil) .nil) (.node ((subObj 17)) .nil .nil)) (.node (o27 P) (.node ((subObj 9)) .nil .nil) (.node ((subObj 25)) .nil .nil)))) (.node (boot_o_5 P) (.node (boot_o_9 P) (.node (o17 P) (.node (b3Obj) (.node ((subObj 31)) .nil .nil) .nil) (.node ((subObj 15)) .nil .nil)) (.node (o25 P) (.node ((subObj 7)) .nil .nil) (.node ((subObj 23)) .nil .nil))) (.node (o13 P) (.node (o21 P) (.node ((subObj 3)) (.node ((subObj 35)) .nil .nil) .nil) (.node ((subObj 19)) .nil .nil)) (.node (o29 P) (.node ((subObj 11)) .nil .nil) (.node ((subObj 27)) .nil .nil))))) (.node (boot_o_2 P) (.node (boot_o_4 P) (.node (boot_o_8 P) (.node (o16 P) (.node (o32 P) (.node ((subObj 30)) .nil .nil) .nil) (.node ((subObj 14)) .nil .nil)) (.node (o24 P) (.node ((subObj 6)) .nil .nil) (.node ((subObj 22)) .nil .nil))) (.node (o12_3 P) (.node (o20 P) (.node ((subObj 2)) (.node ((subObj 34)) .nil .nil) .nil) (.node ((subObj 18)) .nil .nil)) (.node (o28 P) (.node ((subObj 10)) .nil .nil) (.node ((subObj 26)) .nil .nil)))) (.node (boot_o_6 P) (.node (boot_o_10 P) (.node (o18 P) (.node ((subObj 0)) (.node ((subObj 32)) .nil .nil) .nil) (.node ((subObj 16)) .nil .nil)) (.node (o26 P) (.node ((subObj 8)) .nil .nil) (.node ((subObj 24)) .nil .nil))) (.node (o14 P) (.node (o22 P) (.node ((subObj 4)) (.node ((subObj 36)) .nil .nil) .nil) (.node ((subObj 20)) .nil .nil)) (.node (o30 P) (.node ((subObj 12)) .nil .nil) (.node ((subObj 28)) .nil .nil))))))
noncomputable def T5 (P : Params) : BT := (.node (boot_o_0 P) (.node (boot_o_1 P) (.node (m5 P) (.node (boot_o_7 P) (.node (o15 P) (.node (o31 P) (.node ((subObj 29)) .nil .nil) .nil) (.node ((subObj 13)) .nil .nil)) (.node (o23 P) (.node ((subObj 5)) (.node (subLast) .nil .nil) .nil) (.node ((subObj 21)) .nil .nil))) (.node (o11 P) (.node (o19 P) (.node ((subObj 1)) (.node ((subObj 33)) .nil .nil) .nil) (.node ((subObj 17)) .nil .nil)) (.node (o27 P) (.node ((subObj 9)) (.node (o75 P) .nil .nil) .nil) (.node ((subObj 25)) .nil .nil)))) (.node (boot_o_5 P) (.node (boot_o_9 P) (.node (o17 P) (.node (b3Obj) (.node ((subObj 31)) .nil .nil) .nil) (.node ((subObj 15)) .nil .nil)) (.node (o25 P) (.node ((subObj 7)) (.node (o73 P) .nil .nil) .nil) (.node ((subObj 23)) .nil .nil))) (.node (o13 P) (.node (o21 P) (.node ((subObj 3)) (.node ((subObj 35)) .nil .nil) .nil) (.node ((subObj 19)) .nil .nil)) (.node (o29 P) (.node ((subObj 11)) (.node (o77 P) .nil .nil) .nil) (.node ((subObj 27)) .nil .nil))))) (.node (boot_o_2 P) (.node (boot_o_4 P) (.node (boot_o_8 P) (.node (o16 P) (.node (o32 P) (.node ((subObj 30)) .nil .nil) .nil) (.node ((subObj 14)) .nil .nil)) (.node (o24 P) (.node ((subObj 6)) (.node (o72 P) .nil .nil) .nil) (.node ((subObj 22)) .nil .nil))) (.node (o12_5 P) (.node (o20 P) (.node ((subObj 2)) (.node ((subObj 34)) .nil .nil) .nil) (.node ((subObj 18)) .nil .nil)) (.node (o28 P) (.node ((subObj 10)) (.node (o76 P) .nil .nil) .nil) (.node ((subObj 26)) .nil .nil)))) (.node (boot_o_6 P) (.node (boot_o_10 P) (.node (o18 P) (.node ((subObj 0)) (.node ((subObj 32)) .nil .nil) .nil) (.node ((subObj 16)) .nil .nil)) (.node (o26 P) (.node ((subObj 8)) (.node (o74 P) .nil .nil) .nil) (.node ((subObj 24)) .nil .nil))) (.node (o14 P) (.node (o22 P) (.node ((subObj 4)) (.node ((subObj 36)) .nil .nil) .nil) (.node ((subObj 20)) .nil .nil)) (.node (o30 P) (.node ((subObj 12)) (.node (o78 P) .nil .nil) .nil) (.node ((subObj 28)) .nil .nil))))))
noncomputable def T6 (P : Params) : BT := (.node (boot_o_0 P) (.node (boot_o_1 P) (.node (m6 P) (.node (boot_o_7 P) (.node (o15 P) (.node (o31 P) (.node ((subObj 29)) .nil .nil) .nil) (.node ((subObj 13)) .nil .nil)) (.node (o23 P) (.node ((subObj 5)) (.node (subLast) .nil .nil) .nil) (.node ((subObj 21)) .nil .nil))) (.node (o11 P) (.node (o19 P) (.node ((subObj 1)) (.node ((subObj 33)) .nil .nil) .nil) (.node ((subObj 17)) .nil .nil)) (.node (o27 P) (.node ((subObj 9)) (.node (o75 P) .nil .nil) .nil) (.node ((subObj 25)) .nil .nil)))) (.node (boot_o_5 P) (.node (boot_o_9 P) (.node (o17 P) (.node (b3Obj) (.node ((subObj 31)) .nil .nil) .nil) (.node ((subObj 15)) .nil .nil)) (.node (o25 P) (.node ((subObj 7)) (.node (o73 P) .nil .nil) .nil) (.node ((subObj 23)) .nil .nil))) (.node (o13 P) (.node (o21 P) (.node ((subObj 3)) (.node ((subObj 35)) .nil .nil) .nil) (.node ((subObj 19)) .nil .nil)) (.node (o29 P) (.node ((subObj 11)) (.node (o77 P) .nil .nil) .nil) (.node ((subObj 27)) .nil .nil))))) (.node (boot_o_2 P) (.node (boot_o_4 P) (.node (boot_o_8 P) (.node (o16 P) (.node (o32 P) (.node ((subObj 30)) .nil .nil) .nil) (.node ((subObj 14)) .nil .nil)) (.node (o24 P) (.node ((subObj 6)) (.node (o72 P) .nil .nil) .nil) (.node ((subObj 22)) .nil .nil))) (.node (o12_5 P) (.node (o20 P) (.node ((subObj 2)) (.node ((subObj 34)) .nil .nil) .nil) (.node ((subObj 18)) .nil .nil)) (.node (o28 P) (.node ((subObj 10)) (.node (o76 P) .nil .nil) .nil) (.node ((subObj 26)) .nil .nil)))) (.node (boot_o_6 P) (.node (boot_o_10 P) (.node (o18 P) (.node ((subObj 0)) (.node ((subObj 32)) .nil .nil) .nil) (.node ((subObj 16)) .nil .nil)) (.node (o26 P) (.node ((subObj 8)) (.node (o74 P) .nil .nil) .nil) (.node ((subObj 24)) .nil .nil))) (.node (o14 P) (.node (o22 P) (.node ((subObj 4)) (.node ((subObj 36)) .nil .nil) .nil) (.node ((subObj 20)) .nil .nil)) (.node (o30 P) (.node ((subObj 12)) (.node (o78 P) .nil .nil) .nil) (.node ((subObj 28)) .nil .nil))))))
noncomputable def T7 (P : Params) : BT := (.node (boot_o_0 P) (.node (boot_o_1 P) (.node (m7 P) (.node (boot_o_7 P) (.node (o15 P) (.node (o31 P) (.node ((subObj 29)) .nil .nil) .nil) (.node ((subObj 13)) (.node (o79 P) .nil .nil) .nil)) (.node (o23 P) (.node ((subObj 5)) (.node (subLast) .nil .nil) .nil) (.node ((subObj 21)) .nil .nil))) (.node (o11 P) (.node (o19 P) (.node ((subObj 1)) (.node ((subObj 33)) .nil .nil) .nil) (.node ((subObj 17)) (.node (o83 P) .nil .nil) .nil)) (.node (o27 P) (.node ((subObj 9)) (.node (o75 P) .nil .nil) .nil) (.node ((subObj 25)) .nil .nil)))) (.node (boot_o_5 P) (.node (boot_o_9 P) (.node (o17 P) (.node (b3Obj) (.node ((subObj 31)) .nil .nil) .nil) (.node ((subObj 15)) (.node (o81 P) .nil .nil) .nil)) (.node (o25 P) (.node ((subObj 7)) (.node (o73 P) .nil .nil) .nil) (.node ((subObj 23)) .nil .nil))) (.node (o13 P) (.node (o21 P) (.node ((subObj 3)) (.node ((subObj 35)) .nil .nil) .nil) (.node ((subObj 19)) (.node (o85 P) .nil .nil) .nil)) (.node (o29 P) (.node ((subObj 11)) (.node (o77 P) .nil .nil) .nil) (.node ((subObj 27)) .nil .nil))))) (.node (boot_o_2 P) (.node (boot_o_4 P) (.node (boot_o_8 P) (.node (o16 P) (.node (o32 P) (.node ((subObj 30)) .nil .nil) .nil) (.node ((subObj 14)) (.node (o80 P) .nil .nil) .nil)) (.node (o24 P) (.node ((subObj 6)) (.node (o72 P) .nil .nil) .nil) (.node ((subObj 22)) .nil .nil))) (.node (o12_7 P) (.node (o20 P) (.node ((subObj 2)) (.node ((subObj 34)) .nil .nil) .nil) (.node ((subObj 18)) (.node (o84 P) .nil .nil) .nil)) (.node (o28 P) (.node ((subObj 10)) (.node (o76 P) .nil .nil) .nil) (.node ((subObj 26)) .nil .nil)))) (.node (boot_o_6 P) (.node (boot_o_10 P) (.node (o18 P) (.node ((subObj 0)) (.node ((subObj 32)) .nil .nil) .nil) (.node ((subObj 16)) (.node (o82 P) .nil .nil) .nil)) (.node (o26 P) (.node ((subObj 8)) (.node (o74 P) .nil .nil) .nil) (.node ((subObj 24)) .nil .nil))) (.node (o14 P) (.node (o22 P) (.node ((subObj 4)) (.node ((subObj 36)) .nil .nil) .nil) (.node ((subObj 20)) .nil .nil)) (.node (o30 P) (.node ((subObj 12)) (.node (o78 P) .nil .nil) .nil) (.node ((subObj 28)) .nil .nil))))))
noncomputable def T8 (P : Params) : BT := (.node (boot_o_0 P) (.node (boot_o_1 P) (.node (m8 P) (.node (boot_o_7 P) (.node (o15 P) (.node (o31 P) (.node ((subObj 29)) .nil .nil) .nil) (.node ((subObj 13)) (.node (o79 P) .nil .nil) .nil)) (.node (o23 P) (.node ((subObj 5)) (.node (subLast) .nil .nil) .nil) (.node ((subObj 21)) (.node (o87 P) .nil .nil) .nil))) (.node (o11 P) (.node (o19 P) (.node ((subObj 1)) (.node ((subObj 33)) .nil .nil) .nil) (.node ((subObj 17)) (.node (o83 P) .nil .nil) .nil)) (.node (o27 P) (.node ((subObj 9)) (.node (o75 P) .nil .nil) .nil) (.node ((subObj 25)) (.node (o91 P) .nil .nil) .nil)))) (.node (boot_o_5 P) (.node (boot_o_9 P) (.node (o17 P) (.node (b3Obj) (.node ((subObj 31)) .nil .nil) .nil) (.node ((subObj 15)) (.node (o81 P) .nil .nil) .nil)) (.node (o25 P) (.node ((subObj 7)) (.node (o73 P) .nil .nil) .nil) (.node ((subObj 23)) (.node (o89 P) .nil .nil) .nil))) (.node (o13 P) (.node (o21 P) (.node ((subObj 3)) (.node ((subObj 35)) .nil .nil) .nil) (.node ((subObj 19)) (.node (o85 P) .nil .nil) .nil)) (.node (o29 P) (.node ((subObj 11)) (.node (o77 P) .nil .nil) .nil) (.node ((subObj 27)) .nil .nil))))) (.node (boot_o_2 P) (.node (boot_o_4 P) (.node (boot_o_8 P) (.node (o16 P) (.node (o32 P) (.node ((subObj 30)) .nil .nil) .nil) (.node ((subObj 14)) (.node (o80 P) .nil .nil) .nil)) (.node (o24 P) (.node ((subObj 6)) (.node (o72 P) .nil .nil) .nil) (.node ((subObj 22)) (.node (o88 P) .nil .nil) .nil))) (.node (o12_8 P) (.node (o20 P) (.node ((subObj 2)) (.node ((subObj 34)) .nil .nil) .nil) (.node ((subObj 18)) (.node (o84 P) .nil .nil) .nil)) (.node (o28 P) (.node ((subObj 10)) (.node (o76 P) .nil .nil) .nil) (.node ((subObj 26)) (.node (o92 P) .nil .nil) .nil)))) (.node (boot_o_6 P) (.node (boot_o_10 P) (.node (o18 P) (.node ((subObj 0)) (.node ((subObj 32)) .nil .nil) .nil) (.node ((subObj 16)) (.node (o82 P) .nil .nil) .nil)) (.node (o26 P) (.node ((subObj 8)) (.node (o74 P) .nil .nil) .nil) (.node ((subObj 24)) (.node (o90 P) .nil .nil) .nil))) (.node (o14 P) (.node (o22 P) (.node ((subObj 4)) (.node ((subObj 36)) .nil .nil) .nil) (.node ((subObj 20)) (.node (o86 P) .nil .nil) .nil)) (.node (o30 P) (.node ((subObj 12)) (.node (o78 P) .nil .nil) .nil) (.node ((subObj 28)) .nil .nil))))))
noncomputable def T9 (P : Params) : BT := (.node (boot_o_0 P) (.node (boot_o_1 P) (.node (m9 P) (.node (boot_o_7 P) (.node (o15 P) (.node (o31 P) (.node ((subObj 29)) .nil .nil) .nil) (.node ((subObj 13)) (.node (o79 P) .nil .nil) .nil)) (.node (o23 P) (.node ((subObj 5)) (.node (subLast) .nil .nil) .nil) (.node ((subObj 21)) (.node (o87 P) .nil .nil) .nil))) (.node (o11 P) (.node (o19 P) (.node ((subObj 1)) (.node ((subObj 33)) .nil .nil) .nil) (.node ((subObj 17)) (.node (o83 P) .nil .nil) .nil)) (.node (o27 P) (.node ((subObj 9)) (.node (o75 P) .nil .nil) .nil) (.node ((subObj 25)) (.node (o91 P) .nil .nil) .nil)))) (.node (boot_o_5 P) (.node (boot_o_9 P) (.node (o17 P) (.node (b3Obj) (.node ((subObj 31)) .nil .nil) .nil) (.node ((subObj 15)) (.node (o81 P) .nil .nil) .nil)) (.node (o25 P) (.node ((subObj 7)) (.node (o73 P) .nil .nil) .nil) (.node ((subObj 23)) (.node (o89 P) .nil .nil) .nil))) (.node (o13 P) (.node (o21 P) (.node ((subObj 3)) (.node ((subObj 35)) .nil .nil) .nil) (.node ((subObj 19)) (.node (o85 P) .nil .nil) .nil)) (.node (o29 P) (.node ((subObj 11)) (.node (o77 P) .nil .nil) .nil) (.node ((subObj 27)) .nil .nil))))) (.node (boot_o_2 P) (.node (boot_o_4 P) (.node (boot_o_8 P) (.node (o16 P) (.node (o32 P) (.node ((subObj 30)) .nil .nil) .nil) (.node ((subObj 14)) (.node (o80 P) .nil .nil) .nil)) (.node (o24 P) (.node ((subObj 6)) (.node (o72 P) .nil .nil) .nil) (.node ((subObj 22)) (.node (o88 P) .nil .nil) .nil))) (.node (o12_8 P) (.node (o20 P) (.node ((subObj 2)) (.node ((subObj 34)) .nil .nil) .nil) (.node ((subObj 18)) (.node (o84 P) .nil .nil) .nil)) (.node (o28 P) (.node ((subObj 10)) (.node (o76 P) .nil .nil) .nil) (.node ((subObj 26)) (.node (o92 P) .nil .nil) .nil)))) (.node (boot_o_6 P) (.node (boot_o_10 P) (.node (o18 P) (.node ((subObj 0)) (.node ((subObj 32)) .nil .nil) .nil) (.node ((subObj 16)) (.node (o82 P) .nil .nil) .nil)) (.node (o26 P) (.node ((subObj 8)) (.node (o74 P) .nil .nil) .nil) (.node ((subObj 24)) (.node (o90 P) .nil .nil) .nil))) (.node (o14 P) (.node (o22 P) (.node ((subObj 4)) (.node ((subObj 36)) .nil .nil) .nil) (.node ((subObj 20)) (.node (o86 P) .nil .nil) .nil)) (.node (o30 P) (.node ((subObj 12)) (.node (o78 P) .nil .nil) .nil) (.node ((subObj 28)) .nil .nil))))))
noncomputable def T10 (P : Params) : BT := (.node (boot_o_0 P) (.node (boot_o_1 P) (.node (m10 P) (.node (boot_o_7 P) (.node (o15 P) (.node (o31 P) (.node ((subObj 29)) (.node (o127 P) .nil .nil) .nil) (.node (o95 P) .nil .nil)) (.node ((subObj 13)) (.node (o79 P) .nil .nil) (.node (o111 P) .nil .nil))) (.node (o23 P) (.node ((subObj 5)) (.node (subLast) .nil .nil) (.node (o103 P) .nil .nil)) (.node ((subObj 21)) (.node (o87 P) .nil .nil) (.node (o119 P) .nil .nil)))) (.node (o11 P) (.node (o19 P) (.node ((subObj 1)) (.node ((subObj 33)) (.node (o131 P) .nil .nil) .nil) (.node (o99 P) .nil .nil)) (.node ((subObj 17)) (.node (o83 P) .nil .nil) (.node (o115 P) .nil .nil))) (.node (o27 P) (.node ((subObj 9)) (.node (o75 P) .nil .nil) (.node (o107 P) .nil .nil)) (.node ((subObj 25)) (.node (o91 P) .nil .nil) (.node (o123 P) .nil .nil))))) (.node (boot_o_5 P) (.node (boot_o_9 P) (.node (o17 P) (.node (b3Obj) (.node ((subObj 31)) (.node (o129 P) .nil .nil) .nil) (.node (o97 P) .nil .nil)) (.node ((subObj 15)) (.node (o81 P) .nil .nil) (.node (o113 P) .nil .nil))) (.node (o25 P) (.node ((subObj 7)) (.node (o73 P) .nil .nil) (.node (o105 P) .nil .nil)) (.node ((subObj 23)) (.node (o89 P) .nil .nil) (.node (o121 P) .nil .nil)))) (.node (o13 P) (.node (o21 P) (.node ((subObj 3)) (.node ((subObj 35)) (.node (o133 P) .nil .nil) .nil) (.node (o101 P) .nil .nil)) (.node ((subObj 19)) (.node (o85 P) .nil .nil) (.node (o117 P) .nil .nil))) (.node (o29 P) (.node ((subObj 11)) (.node (o77 P) .nil .nil) (.node (o109 P) .nil .nil)) (.node ((subObj 27)) (.node (o93 P) .nil .nil) (.node (o125 P) .nil .nil)))))) (.node (boot_o_2 P) (.node (boot_o_4 P) (.node (boot_o_8 P) (.node (o16 P) (.node (o32 P) (.node ((subObj 30)) (.node (o128 P) .nil .nil) .nil) (.node (o96 P) .nil .nil)) (.node ((subObj 14)) (.node (o80 P) .nil .nil) (.node (o112 P) .nil .nil))) (.node (o24 P) (.node ((subObj 6)) (.node (o72 P) .nil .nil) (.node (o104 P) .nil .nil)) (.node ((subObj 22)) (.node (o88 P) .nil .nil) (.node (o120 P) .nil .nil)))) (.node (o12_10 P) (.node (o20 P) (.node ((subObj 2)) (.node ((subObj 34)) (.node (o132 P) .nil .nil) .nil) (.node (o100 P) .nil .nil)) (.node ((subObj 18)) (.node (o84 P) .nil .nil) (.node (o116 P) .nil .nil))) (.node (o28 P) (.node ((subObj 10)) (.node (o76 P) .nil .nil) (.node (o108 P) .nil .nil)) (.node ((subObj 26)) (.node (o92 P) .nil .nil) (.node (o124 P) .nil .nil))))) (.node (boot_o_6 P) (.node (boot_o_10 P) (.node (o18 P) (.node ((subObj 0)) (.node ((subObj 32)) (.node (o130 P) .nil .nil) .nil) (.node (o98 P) .nil .nil)) (.node ((subObj 16)) (.node (o82 P) .nil .nil) (.node (o114 P) .nil .nil))) (.node (o26 P) (.node ((subObj 8)) (.node (o74 P) .nil .nil) (.node (o106 P) .nil .nil)) (.node ((subObj 24)) (.node (o90 P) .nil .nil) (.node (o122 P) .nil .nil)))) (.node (o14 P) (.node (o22 P) (.node ((subObj 4)) (.node ((subObj 36)) (.node (o134 P) .nil .nil) .nil) (.node (o102 P) .nil .nil)) (.node ((subObj 20)) (.node (o86 P) .nil .nil) (.node (o118 P) .nil .nil))) (.node (o30 P) (.node ((subObj 12)) (.node (o78 P) .nil .nil) (.node (o110 P) .nil .nil)) (.node ((subObj 28)) (.node (o94 P) .nil .nil) (.node (o126 P) .nil .nil)))))))
noncomputable def T11 (P : Params) : BT := (.node (boot_o_0 P) (.node (boot_o_1 P) (.node (m11 P) (.node (boot_o_7 P) (.node (o15 P) (.node (o31 P) (.node ((subObj 29)) (.node (o127 P) .nil .nil) .nil) (.node (o95 P) .nil .nil)) (.node ((subObj 13)) (.node (o79 P) .nil .nil) (.node (o111 P) .nil .nil))) (.node (o23 P) (.node ((subObj 5)) (.node (subLast) .nil .nil) (.node (o103 P) .nil .nil)) (.node ((subObj 21)) (.node (o87 P) .nil .nil) (.node (o119 P) .nil .nil)))) (.node (o11 P) (.node (o19 P) (.node ((subObj 1)) (.node ((subObj 33)) (.node (o131 P) .nil .nil) .nil) (.node (o99 P) .nil .nil)) (.node ((subObj 17)) (.node (o83 P) .nil .nil) (.node (o115 P) .nil .nil))) (.node (o27 P) (.node ((subObj 9)) (.node (o75 P) .nil .nil) (.node (o107 P) .nil .nil)) (.node ((subObj 25)) (.node (o91 P) .nil .nil) (.node (o123 P) .nil .nil))))) (.node (boot_o_5 P) (.node (boot_o_9 P) (.node (o17 P) (.node (b3Obj) (.node ((subObj 31)) (.node (o129 P) .nil .nil) .nil) (.node (o97 P) .nil .nil)) (.node ((subObj 15)) (.node (o81 P) .nil .nil) (.node (o113 P) .nil .nil))) (.node (o25 P) (.node ((subObj 7)) (.node (o73 P) .nil .nil) (.node (o105 P) .nil .nil)) (.node ((subObj 23)) (.node (o89 P) .nil .nil) (.node (o121 P) .nil .nil)))) (.node (o13 P) (.node (o21 P) (.node ((subObj 3)) (.node ((subObj 35)) (.node (o133 P) .nil .nil) .nil) (.node (o101 P) .nil .nil)) (.node ((subObj 19)) (.node (o85 P) .nil .nil) (.node (o117 P) .nil .nil))) (.node (o29 P) (.node ((subObj 11)) (.node (o77 P) .nil .nil) (.node (o109 P) .nil .nil)) (.node ((subObj 27)) (.node (o93 P) .nil .nil) (.node (o125 P) .nil .nil)))))) (.node (boot_o_2 P) (.node (boot_o_4 P) (.node (boot_o_8 P) (.node (o16 P) (.node (o32 P) (.node ((subObj 30)) (.node (o128 P) .nil .nil) .nil) (.node (o96 P) .nil .nil)) (.node ((subObj 14)) (.node (o80 P) .nil .nil) (.node (o112 P) .nil .nil))) (.node (o24 P) (.node ((subObj 6)) (.node (o72 P) .nil .nil) (.node (o104 P) .nil .nil)) (.node ((subObj 22)) (.node (o88 P) .nil .nil) (.node (o120 P) .nil .nil)))) (.node (o12_10 P) (.node (o20 P) (.node ((subObj 2)) (.node ((subObj 34)) (.node (o132 P) .nil .nil) .nil) (.node (o100 P) .nil .nil)) (.node ((subObj 18)) (.node (o84 P) .nil .nil) (.node (o116 P) .nil .nil))) (.node (o28 P) (.node ((subObj 10)) (.node (o76 P) .nil .nil) (.node (o108 P) .nil .nil)) (.node ((subObj 26)) (.node (o92 P) .nil .nil) (.node (o124 P) .nil .nil))))) (.node (boot_o_6 P) (.node (boot_o_10 P) (.node (o18 P) (.node ((subObj 0)) (.node ((subObj 32)) (.node (o130 P) .nil .nil) .nil) (.node (o98 P) .nil .nil)) (.node ((subObj 16)) (.node (o82 P) .nil .nil) (.node (o114 P) .nil .nil))) (.node (o26 P) (.node ((subObj 8)) (.node (o74 P) .nil .nil) (.node (o106 P) .nil .nil)) (.node ((subObj 24)) (.node (o90 P) .nil .nil) (.node (o122 P) .nil .nil)))) (.node (o14 P) (.node (o22 P) (.node ((subObj 4)) (.node ((subObj 36)) (.node (o134 P) .nil .nil) .nil) (.node (o102 P) .nil .nil)) (.node ((subObj 20)) (.node (o86 P) .nil .nil) (.node (o118 P) .nil .nil))) (.node (o30 P) (.node ((subObj 12)) (.node (o78 P) .nil .nil) (.node (o110 P) .nil .nil)) (.node ((subObj 28)) (.node (o94 P) .nil .nil) (.node (o126 P) .nil .nil)))))))
noncomputable def T12 (P : Params) : BT := (.node (boot_o_0 P) (.node (boot_o_1 P) (.node (m12 P) (.node (boot_o_7 P) (.node (o15 P) (.node (o31 P) (.node ((subObj 29)) (.node (o127 P) .nil .nil) .nil) (.node (o95 P) .nil .nil)) (.node ((subObj 13)) (.node (o79 P) .nil .nil) (.node (o111 P) .nil .nil))) (.node (o23 P) (.node ((subObj 5)) (.node (subLast) (.node (o135 P) .nil .nil) .nil) (.node (o103 P) .nil .nil)) (.node ((subObj 21)) (.node (o87 P) .nil .nil) (.node (o119 P) .nil .nil)))) (.node (o11 P) (.node (o19 P) (.node ((subObj 1)) (.node ((subObj 33)) (.node (o131 P) .nil .nil) .nil) (.node (o99 P) .nil .nil)) (.node ((subObj 17)) (.node (o83 P) .nil .nil) (.node (o115 P) .nil .nil))) (.node (o27 P) (.node ((subObj 9)) (.node (o75 P) (.node (o139 P) .nil .nil) .nil) (.node (o107 P) .nil .nil)) (.node ((subObj 25)) (.node (o91 P) .nil .nil) (.node (o123 P) .nil .nil))))) (.node (boot_o_5 P) (.node (boot_o_9 P) (.node (o17 P) (.node (b3Obj) (.node ((subObj 31)) (.node (o129 P) .nil .nil) .nil) (.node (o97 P) .nil .nil)) (.node ((subObj 15)) (.node (o81 P) .nil .nil) (.node (o113 P) .nil .nil))) (.node (o25 P) (.node ((subObj 7)) (.node (o73 P) (.node (o137 P) .nil .nil) .nil) (.node (o105 P) .nil .nil)) (.node ((subObj 23)) (.node (o89 P) .nil .nil) (.node (o121 P) .nil .nil)))) (.node (o13 P) (.node (o21 P) (.node ((subObj 3)) (.node ((subObj 35)) (.node (o133 P) .nil .nil) .nil) (.node (o101 P) .nil .nil)) (.node ((subObj 19)) (.node (o85 P) .nil .nil) (.node (o117 P) .nil .nil))) (.node (o29 P) (.node ((subObj 11)) (.node (o77 P) (.node (o141 P) .nil .nil) .nil) (.node (o109 P) .nil .nil)) (.node ((subObj 27)) (.node (o93 P) .nil .nil) (.node (o125 P) .nil .nil)))))) (.node (boot_o_2 P) (.node (boot_o_4 P) (.node (boot_o_8 P) (.node (o16 P) (.node (o32 P) (.node ((subObj 30)) (.node (o128 P) .nil .nil) .nil) (.node (o96 P) .nil .nil)) (.node ((subObj 14)) (.node (o80 P) .nil .nil) (.node (o112 P) .nil .nil))) (.node (o24 P) (.node ((subObj 6)) (.node (o72 P) (.node (o136 P) .nil .nil) .nil) (.node (o104 P) .nil .nil)) (.node ((subObj 22)) (.node (o88 P) .nil .nil) (.node (o120 P) .nil .nil)))) (.node (o12_12 P) (.node (o20 P) (.node ((subObj 2)) (.node ((subObj 34)) (.node (o132 P) .nil .nil) .nil) (.node (o100 P) .nil .nil)) (.node ((subObj 18)) (.node (o84 P) .nil .nil) (.node (o116 P) .nil .nil))) (.node (o28 P) (.node ((subObj 10)) (.node (o76 P) (.node (o140 P) .nil .nil) .nil) (.node (o108 P) .nil .nil)) (.node ((subObj 26)) (.node (o92 P) .nil .nil) (.node (o124 P) .nil .nil))))) (.node (boot_o_6 P) (.node (boot_o_10 P) (.node (o18 P) (.node ((subObj 0)) (.node ((subObj 32)) (.node (o130 P) .nil .nil) .nil) (.node (o98 P) .nil .nil)) (.node ((subObj 16)) (.node (o82 P) .nil .nil) (.node (o114 P) .nil .nil))) (.node (o26 P) (.node ((subObj 8)) (.node (o74 P) (.node (o138 P) .nil .nil) .nil) (.node (o106 P) .nil .nil)) (.node ((subObj 24)) (.node (o90 P) .nil .nil) (.node (o122 P) .nil .nil)))) (.node (o14 P) (.node (o22 P) (.node ((subObj 4)) (.node ((subObj 36)) (.node (o134 P) .nil .nil) .nil) (.node (o102 P) .nil .nil)) (.node ((subObj 20)) (.node (o86 P) .nil .nil) (.node (o118 P) .nil .nil))) (.node (o30 P) (.node ((subObj 12)) (.node (o78 P) .nil .nil) (.node (o110 P) .nil .nil)) (.node ((subObj 28)) (.node (o94 P) .nil .nil) (.node (o126 P) .nil .nil)))))))
noncomputable def T13 (P : Params) : BT := (.node (boot_o_0 P) (.node (boot_o_1 P) (.node (m13 P) (.node (boot_o_7 P) (.node (o15 P) (.node (o31 P) (.node ((subObj 29)) (.node (o127 P) .nil .nil) .nil) (.node (o95 P) .nil .nil)) (.node ((subObj 13)) (.node (o79 P) (.node (o143 P) .nil .nil) .nil) (.node (o111 P) .nil .nil))) (.node (o23 P) (.node ((subObj 5)) (.node (subLast) (.node (o135 P) .nil .nil) .nil) (.node (o103 P) .nil .nil)) (.node ((subObj 21)) (.node (o87 P) .nil .nil) (.node (o119 P) .nil .nil)))) (.node (o11 P) (.node (o19 P) (.node ((subObj 1)) (.node ((subObj 33)) (.node (o131 P) .nil .nil) .nil) (.node (o99 P) .nil .nil)) (.node ((subObj 17)) (.node (o83 P) .nil .nil) (.node (o115 P) .nil .nil))) (.node (o27 P) (.node ((subObj 9)) (.node (o75 P) (.node (o139 P) .nil .nil) .nil) (.node (o107 P) .nil .nil)) (.node ((subObj 25)) (.node (o91 P) .nil .nil) (.node (o123 P) .nil .nil))))) (.node (boot_o_5 P) (.node (boot_o_9 P) (.node (o17 P) (.node (b3Obj) (.node ((subObj 31)) (.node (o129 P) .nil .nil) .nil) (.node (o97 P) .nil .nil)) (.node ((subObj 15)) (.node (o81 P) (.node (o145 P) .nil .nil) .nil) (.node (o113 P) .nil .nil))) (.node (o25 P) (.node ((subObj 7)) (.node (o73 P) (.node (o137 P) .nil .nil) .nil) (.node (o105 P) .nil .nil)) (.node ((subObj 23)) (.node (o89 P) .nil .nil) (.node (o121 P) .nil .nil)))) (.node (o13 P) (.node (o21 P) (.node ((subObj 3)) (.node ((subObj 35)) (.node (o133 P) .nil .nil) .nil) (.node (o101 P) .nil .nil)) (.node ((subObj 19)) (.node (o85 P) .nil .nil) (.node (o117 P) .nil .nil))) (.node (o29 P) (.node ((subObj 11)) (.node (o77 P) (.node (o141 P) .nil .nil) .nil) (.node (o109 P) .nil .nil)) (.node ((subObj 27)) (.node (o93 P) .nil .nil) (.node (o125 P) .nil .nil)))))) (.node (boot_o_2 P) (.node (boot_o_4 P) (.node (boot_o_8 P) (.node (o16 P) (.node (o32 P) (.node ((subObj 30)) (.node (o128 P) .nil .nil) .nil) (.node (o96 P) .nil .nil)) (.node ((subObj 14)) (.node (o80 P) (.node (o144 P) .nil .nil) .nil) (.node (o112 P) .nil .nil))) (.node (o24 P) (.node ((subObj 6)) (.node (o72 P) (.node (o136 P) .nil .nil) .nil) (.node (o104 P) .nil .nil)) (.node ((subObj 22)) (.node (o88 P) .nil .nil) (.node (o120 P) .nil .nil)))) (.node (o12_13 P) (.node (o20 P) (.node ((subObj 2)) (.node ((subObj 34)) (.node (o132 P) .nil .nil) .nil) (.node (o100 P) .nil .nil)) (.node ((subObj 18)) (.node (o84 P) .nil .nil) (.node (o116 P) .nil .nil))) (.node (o28 P) (.node ((subObj 10)) (.node (o76 P) (.node (o140 P) .nil .nil) .nil) (.node (o108 P) .nil .nil)) (.node ((subObj 26)) (.node (o92 P) .nil .nil) (.node (o124 P) .nil .nil))))) (.node (boot_o_6 P) (.node (boot_o_10 P) (.node (o18 P) (.node ((subObj 0)) (.node ((subObj 32)) (.node (o130 P) .nil .nil) .nil) (.node (o98 P) .nil .nil)) (.node ((subObj 16)) (.node (o82 P) (.node (o146 P) .nil .nil) .nil) (.node (o114 P) .nil .nil))) (.node (o26 P) (.node ((subObj 8)) (.node (o74 P) (.node (o138 P) .nil .nil) .nil) (.node (o106 P) .nil .nil)) (.node ((subObj 24)) (.node (o90 P) .nil .nil) (.node (o122 P) .nil .nil)))) (.node (o14 P) (.node (o22 P) (.node ((subObj 4)) (.node ((subObj 36)) (.node (o134 P) .nil .nil) .nil) (.node (o102 P) .nil .nil)) (.node ((subObj 20)) (.node (o86 P) .nil .nil) (.node (o118 P) .nil .nil))) (.node (o30 P) (.node ((subObj 12)) (.node (o78 P) (.node (o142 P) .nil .nil) .nil) (.node (o110 P) .nil .nil)) (.node ((subObj 28)) (.node (o94 P) .nil .nil) (.node (o126 P) .nil .nil)))))))
noncomputable def T14 (P : Params) : BT := (.node (boot_o_0 P) (.node (boot_o_1 P) (.node (m14 P) (.node (boot_o_7 P) (.node (o15 P) (.node (o31 P) (.node ((subObj 29)) (.node (o127 P) .nil .nil) .nil) (.node (o95 P) .nil .nil)) (.node ((subObj 13)) (.node (o79 P) (.node (o143 P) .nil .nil) .nil) (.node (o111 P) .nil .nil))) (.node (o23 P) (.node ((subObj 5)) (.node (subLast) (.node (o135 P) .nil .nil) .nil) (.node (o103 P) .nil .nil)) (.node ((subObj 21)) (.node (o87 P) (.node (o151 P) .nil .nil) .nil) (.node (o119 P) .nil .nil)))) (.node (o11 P) (.node (o19 P) (.node ((subObj 1)) (.node ((subObj 33)) (.node (o131 P) .nil .nil) .nil) (.node (o99 P) .nil .nil)) (.node ((subObj 17)) (.node (o83 P) (.node (o147 P) .nil .nil) .nil) (.node (o115 P) .nil .nil))) (.node (o27 P) (.node ((subObj 9)) (.node (o75 P) (.node (o139 P) .nil .nil) .nil) (.node (o107 P) .nil .nil)) (.node ((subObj 25)) (.node (o91 P) .nil .nil) (.node (o123 P) .nil .nil))))) (.node (boot_o_5 P) (.node (boot_o_9 P) (.node (o17 P) (.node (b3Obj) (.node ((subObj 31)) (.node (o129 P) .nil .nil) .nil) (.node (o97 P) .nil .nil)) (.node ((subObj 15)) (.node (o81 P) (.node (o145 P) .nil .nil) .nil) (.node (o113 P) .nil .nil))) (.node (o25 P) (.node ((subObj 7)) (.node (o73 P) (.node (o137 P) .nil .nil) .nil) (.node (o105 P) .nil .nil)) (.node ((subObj 23)) (.node (o89 P) .nil .nil) (.node (o121 P) .nil .nil)))) (.node (o13 P) (.node (o21 P) (.node ((subObj 3)) (.node ((subObj 35)) (.node (o133 P) .nil .nil) .nil) (.node (o101 P) .nil .nil)) (.node ((subObj 19)) (.node (o85 P) (.node (o149 P) .nil .nil) .nil) (.node (o117 P) .nil .nil))) (.node (o29 P) (.node ((subObj 11)) (.node (o77 P) (.node (o141 P) .nil .nil) .nil) (.node (o109 P) .nil .nil)) (.node ((subObj 27)) (.node (o93 P) .nil .nil) (.node (o125 P) .nil .nil)))))) (.node (boot_o_2 P) (.node (boot_o_4 P) (.node (boot_o_8 P) (.node (o16 P) (.node (o32 P) (.node ((subObj 30)) (.node (o128 P) .nil .nil) .nil) (.node (o96 P) .nil .nil)) (.node ((subObj 14)) (.node (o80 P) (.node (o144 P) .nil .nil) .nil) (.node (o112 P) .nil .nil))) (.node (o24 P) (.node ((subObj 6)) (.node (o72 P) (.node (o136 P) .nil .nil) .nil) (.node (o104 P) .nil .nil)) (.node ((subObj 22)) (.node (o88 P) .nil .nil) (.node (o120 P) .nil .nil)))) (.node (o12_14 P) (.node (o20 P) (.node ((subObj 2)) (.node ((subObj 34)) (.node (o132 P) .nil .nil) .nil) (.node (o100 P) .nil .nil)) (.node ((subObj 18)) (.node (o84 P) (.node (o148 P) .nil .nil) .nil) (.node (o116 P) .nil .nil))) (.node (o28 P) (.node ((subObj 10)) (.node (o76 P) (.node (o140 P) .nil .nil) .nil) (.node (o108 P) .nil .nil)) (.node ((subObj 26)) (.node (o92 P) .nil .nil) (.node (o124 P) .nil .nil))))) (.node (boot_o_6 P) (.node (boot_o_10 P) (.node (o18 P) (.node ((subObj 0)) (.node ((subObj 32)) (.node (o130 P) .nil .nil) .nil) (.node (o98 P) .nil .nil)) (.node ((subObj 16)) (.node (o82 P) (.node (o146 P) .nil .nil) .nil) (.node (o114 P) .nil .nil))) (.node (o26 P) (.node ((subObj 8)) (.node (o74 P) (.node (o138 P) .nil .nil) .nil) (.node (o106 P) .nil .nil)) (.node ((subObj 24)) (.node (o90 P) .nil .nil) (.node (o122 P) .nil .nil)))) (.node (o14 P) (.node (o22 P) (.node ((subObj 4)) (.node ((subObj 36)) (.node (o134 P) .nil .nil) .nil) (.node (o102 P) .nil .nil)) (.node ((subObj 20)) (.node (o86 P) (.node (o150 P) .nil .nil) .nil) (.node (o118 P) .nil .nil))) (.node (o30 P) (.node ((subObj 12)) (.node (o78 P) (.node (o142 P) .nil .nil) .nil) (.node (o110 P) .nil .nil)) (.node ((subObj 28)) (.node (o94 P) .nil .nil) (.node (o126 P) .nil .nil)))))))
noncomputable def T15 (P : Params) : BT := (.node (boot_o_0 P) (.node (boot_o_1 P) (.node (m15 P) (.node (boot_o_7 P) (.node (o15 P) (.node (o31 P) (.node ((subObj 29)) (.node (o127 P) .nil .nil) .nil) (.node (o95 P) .nil .nil)) (.node ((subObj 13)) (.node (o79 P) (.node (o143 P) .nil .nil) .nil) (.node (o111 P) .nil .nil))) (.node (o23 P) (.node ((subObj 5)) (.node (subLast) (.node (o135 P) .nil .nil) .nil) (.node (o103 P) .nil .nil)) (.node ((subObj 21)) (.node (o87 P) (.node (o151 P) .nil .nil) .nil) (.node (o119 P) .nil .nil)))) (.node (o11 P) (.node (o19 P) (.node ((subObj 1)) (.node ((subObj 33)) (.node (o131 P) .nil .nil) .nil) (.node (o99 P) .nil .nil)) (.node ((subObj 17)) (.node (o83 P) (.node (o147 P) .nil .nil) .nil) (.node (o115 P) .nil .nil))) (.node (o27 P) (.node ((subObj 9)) (.node (o75 P) (.node (o139 P) .nil .nil) .nil) (.node (o107 P) .nil .nil)) (.node ((subObj 25)) (.node (o91 P) (.node (o155 P) .nil .nil) .nil) (.node (o123 P) .nil .nil))))) (.node (boot_o_5 P) (.node (boot_o_9 P) (.node (o17 P) (.node (b3Obj) (.node ((subObj 31)) (.node (o129 P) .nil .nil) .nil) (.node (o97 P) .nil .nil)) (.node ((subObj 15)) (.node (o81 P) (.node (o145 P) .nil .nil) .nil) (.node (o113 P) .nil .nil))) (.node (o25 P) (.node ((subObj 7)) (.node (o73 P) (.node (o137 P) .nil .nil) .nil) (.node (o105 P) .nil .nil)) (.node ((subObj 23)) (.node (o89 P) (.node (o153 P) .nil .nil) .nil) (.node (o121 P) .nil .nil)))) (.node (o13 P) (.node (o21 P) (.node ((subObj 3)) (.node ((subObj 35)) (.node (o133 P) .nil .nil) .nil) (.node (o101 P) .nil .nil)) (.node ((subObj 19)) (.node (o85 P) (.node (o149 P) .nil .nil) .nil) (.node (o117 P) .nil .nil))) (.node (o29 P) (.node ((subObj 11)) (.node (o77 P) (.node (o141 P) .nil .nil) .nil) (.node (o109 P) .nil .nil)) (.node ((subObj 27)) (.node (o93 P) (.node (o157 P) .nil .nil) .nil) (.node (o125 P) .nil .nil)))))) (.node (boot_o_2 P) (.node (boot_o_4 P) (.node (boot_o_8 P) (.node (o16 P) (.node (o32 P) (.node ((subObj 30)) (.node (o128 P) .nil .nil) .nil) (.node (o96 P) .nil .nil)) (.node ((subObj 14)) (.node (o80 P) (.node (o144 P) .nil .nil) .nil) (.node (o112 P) .nil .nil))) (.node (o24 P) (.node ((subObj 6)) (.node (o72 P) (.node (o136 P) .nil .nil) .nil) (.node (o104 P) .nil .nil)) (.node ((subObj 22)) (.node (o88 P) (.node (o152 P) .nil .nil) .nil) (.node (o120 P) .nil .nil)))) (.node (o12_15 P) (.node (o20 P) (.node ((subObj 2)) (.node ((subObj 34)) (.node (o132 P) .nil .nil) .nil) (.node (o100 P) .nil .nil)) (.node ((subObj 18)) (.node (o84 P) (.node (o148 P) .nil .nil) .nil) (.node (o116 P) .nil .nil))) (.node (o28 P) (.node ((subObj 10)) (.node (o76 P) (.node (o140 P) .nil .nil) .nil) (.node (o108 P) .nil .nil)) (.node ((subObj 26)) (.node (o92 P) (.node (o156 P) .nil .nil) .nil) (.node (o124 P) .nil .nil))))) (.node (boot_o_6 P) (.node (boot_o_10 P) (.node (o18 P) (.node ((subObj 0)) (.node ((subObj 32)) (.node (o130 P) .nil .nil) .nil) (.node (o98 P) .nil .nil)) (.node ((subObj 16)) (.node (o82 P) (.node (o146 P) .nil .nil) .nil) (.node (o114 P) .nil .nil))) (.node (o26 P) (.node ((subObj 8)) (.node (o74 P) (.node (o138 P) .nil .nil) .nil) (.node (o106 P) .nil .nil)) (.node ((subObj 24)) (.node (o90 P) (.node (o154 P) .nil .nil) .nil) (.node (o122 P) .nil .nil)))) (.node (o14 P) (.node (o22 P) (.node ((subObj 4)) (.node ((subObj 36)) (.node (o134 P) .nil .nil) .nil) (.node (o102 P) .nil .nil)) (.node ((subObj 20)) (.node (o86 P) (.node (o150 P) .nil .nil) .nil) (.node (o118 P) .nil .nil))) (.node (o30 P) (.node ((subObj 12)) (.node (o78 P) (.node (o142 P) .nil .nil) .nil) (.node (o110 P) .nil .nil)) (.node ((subObj 28)) (.node (o94 P) (.node (o158 P) .nil .nil) .nil) (.node (o126 P) .nil .nil)))))))
noncomputable def T16 (P : Params) : BT := (.node (boot_o_0 P) (.node (boot_o_1 P) (.node (m16 P) (.node (boot_o_7 P) (.node (o15 P) (.node (o31 P) (.node ((subObj 29)) (.node (o127 P) .nil .nil) .nil) (.node (o95 P) (.node (o159 P) .nil .nil) .nil)) (.node ((subObj 13)) (.node (o79 P) (.node (o143 P) .nil .nil) .nil) (.node (o111 P) .nil .nil))) (.node (o23 P) (.node ((subObj 5)) (.node (subLast) (.node (o135 P) .nil .nil) .nil) (.node (o103 P) .nil .nil)) (.node ((subObj 21)) (.node (o87 P) (.node (o151 P) .nil .nil) .nil) (.node (o119 P) .nil .nil)))) (.node (o11 P) (.node (o19 P) (.node ((subObj 1)) (.node ((subObj 33)) (.node (o131 P) .nil .nil) .nil) (.node (o99 P) (.node (o163 P) .nil .nil) .nil)) (.node ((subObj 17)) (.node (o83 P) (.node (o147 P) .nil .nil) .nil) (.node (o115 P) .nil .nil))) (.node (o27 P) (.node ((subObj 9)) (.node (o75 P) (.node (o139 P) .nil .nil) .nil) (.node (o107 P) .nil .nil)) (.node ((subObj 25)) (.node (o91 P) (.node (o155 P) .nil .nil) .nil) (.node (o123 P) .nil .nil))))) (.node (boot_o_5 P) (.node (boot_o_9 P) (.node (o17 P) (.node (b3Obj) (.node ((subObj 31)) (.node (o129 P) .nil .nil) .nil) (.node (o97 P) (.node (o161 P) .nil .nil) .nil)) (.node ((subObj 15)) (.node (o81 P) (.node (o145 P) .nil .nil) .nil) (.node (o113 P) .nil .nil))) (.node (o25 P) (.node ((subObj 7)) (.node (o73 P) (.node (o137 P) .nil .nil) .nil) (.node (o105 P) .nil .nil)) (.node ((subObj 23)) (.node (o89 P) (.node (o153 P) .nil .nil) .nil) (.node (o121 P) .nil .nil)))) (.node (o13 P) (.node (o21 P) (.node ((subObj 3)) (.node ((subObj 35)) (.node (o133 P) .nil .nil) .nil) (.node (o101 P) (.node (o165 P) .nil .nil) .nil)) (.node ((subObj 19)) (.node (o85 P) (.node (o149 P) .nil .nil) .nil) (.node (o117 P) .nil .nil))) (.node (o29 P) (.node ((subObj 11)) (.node (o77 P) (.node (o141 P) .nil .nil) .nil) (.node (o109 P) .nil .nil)) (.node ((subObj 27)) (.node (o93 P) (.node (o157 P) .nil .nil) .nil) (.node (o125 P) .nil .nil)))))) (.node (boot_o_2 P) (.node (boot_o_4 P) (.node (boot_o_8 P) (.node (o16 P) (.node (o32 P) (.node ((subObj 30)) (.node (o128 P) .nil .nil) .nil) (.node (o96 P) (.node (o160 P) .nil .nil) .nil)) (.node ((subObj 14)) (.node (o80 P) (.node (o144 P) .nil .nil) .nil) (.node (o112 P) .nil .nil))) (.node (o24 P) (.node ((subObj 6)) (.node (o72 P) (.node (o136 P) .nil .nil) .nil) (.node (o104 P) .nil .nil)) (.node ((subObj 22)) (.node (o88 P) (.node (o152 P) .nil .nil) .nil) (.node (o120 P) .nil .nil)))) (.node (o12_16 P) (.node (o20 P) (.node ((subObj 2)) (.node ((subObj 34)) (.node (o132 P) .nil .nil) .nil) (.node (o100 P) (.node (o164 P) .nil .nil) .nil)) (.node ((subObj 18)) (.node (o84 P) (.node (o148 P) .nil .nil) .nil) (.node (o116 P) .nil .nil))) (.node (o28 P) (.node ((subObj 10)) (.node (o76 P) (.node (o140 P) .nil .nil) .nil) (.node (o108 P) .nil .nil)) (.node ((subObj 26)) (.node (o92 P) (.node (o156 P) .nil .nil) .nil) (.node (o124 P) .nil .nil))))) (.node (boot_o_6 P) (.node (boot_o_10 P) (.node (o18 P) (.node ((subObj 0)) (.node ((subObj 32)) (.node (o130 P) .nil .nil) .nil) (.node (o98 P) (.node (o162 P) .nil .nil) .nil)) (.node ((subObj 16)) (.node (o82 P) (.node (o146 P) .nil .nil) .nil) (.node (o114 P) .nil .nil))) (.node (o26 P) (.node ((subObj 8)) (.node (o74 P) (.node (o138 P) .nil .nil) .nil) (.node (o106 P) .nil .nil)) (.node ((subObj 24)) (.node (o90 P) (.node (o154 P) .nil .nil) .nil) (.node (o122 P) .nil .nil)))) (.node (o14 P) (.node (o22 P) (.node ((subObj 4)) (.node ((subObj 36)) (.node (o134 P) .nil .nil) .nil) (.node (o102 P) .nil .nil)) (.node ((subObj 20)) (.node (o86 P) (.node (o150 P) .nil .nil) .nil) (.node (o118 P) .nil .nil))) (.node (o30 P) (.node ((subObj 12)) (.node (o78 P) (.node (o142 P) .nil .nil) .nil) (.node (o110 P) .nil .nil)) (.node ((subObj 28)) (.node (o94 P) (.node (o158 P) .nil .nil) .nil) (.node (o126 P) .nil .nil)))))))
noncomputable def T17 (P : Params) : BT := (.node (boot_o_0 P) (.node (boot_o_1 P) (.node (m17 P) (.node (boot_o_7 P) (.node (o15 P) (.node (o31 P) (.node ((subObj 29)) (.node (o127 P) .nil .nil) .nil) (.node (o95 P) (.node (o159 P) .nil .nil) .nil)) (.node ((subObj 13)) (.node (o79 P) (.node (o143 P) .nil .nil) .nil) (.node (o111 P) .nil .nil))) (.node (o23 P) (.node ((subObj 5)) (.node (subLast) (.node (o135 P) .nil .nil) .nil) (.node (o103 P) (.node (o167 P) .nil .nil) .nil)) (.node ((subObj 21)) (.node (o87 P) (.node (o151 P) .nil .nil) .nil) (.node (o119 P) .nil .nil)))) (.node (o11 P) (.node (o19 P) (.node ((subObj 1)) (.node ((subObj 33)) (.node (o131 P) .nil .nil) .nil) (.node (o99 P) (.node (o163 P) .nil .nil) .nil)) (.node ((subObj 17)) (.node (o83 P) (.node (o147 P) .nil .nil) .nil) (.node (o115 P) .nil .nil))) (.node (o27 P) (.node ((subObj 9)) (.node (o75 P) (.node (o139 P) .nil .nil) .nil) (.node (o107 P) (.node (o171 P) .nil .nil) .nil)) (.node ((subObj 25)) (.node (o91 P) (.node (o155 P) .nil .nil) .nil) (.node (o123 P) .nil .nil))))) (.node (boot_o_5 P) (.node (boot_o_9 P) (.node (o17 P) (.node (b3Obj) (.node ((subObj 31)) (.node (o129 P) .nil .nil) .nil) (.node (o97 P) (.node (o161 P) .nil .nil) .nil)) (.node ((subObj 15)) (.node (o81 P) (.node (o145 P) .nil .nil) .nil) (.node (o113 P) .nil .nil))) (.node (o25 P) (.node ((subObj 7)) (.node (o73 P) (.node (o137 P) .nil .nil) .nil) (.node (o105 P) (.node (o169 P) .nil .nil) .nil)) (.node ((subObj 23)) (.node (o89 P) (.node (o153 P) .nil .nil) .nil) (.node (o121 P) .nil .nil)))) (.node (o13 P) (.node (o21 P) (.node ((subObj 3)) (.node ((subObj 35)) (.node (o133 P) .nil .nil) .nil) (.node (o101 P) (.node (o165 P) .nil .nil) .nil)) (.node ((subObj 19)) (.node (o85 P) (.node (o149 P) .nil .nil) .nil) (.node (o117 P) .nil .nil))) (.node (o29 P) (.node ((subObj 11)) (.node (o77 P) (.node (o141 P) .nil .nil) .nil) (.node (o109 P) .nil .nil)) (.node ((subObj 27)) (.node (o93 P) (.node (o157 P) .nil .nil) .nil) (.node (o125 P) .nil .nil)))))) (.node (boot_o_2 P) (.node (boot_o_4 P) (.node (boot_o_8 P) (.node (o16 P) (.node (o32 P) (.node ((subObj 30)) (.node (o128 P) .nil .nil) .nil) (.node (o96 P) (.node (o160 P) .nil .nil) .nil)) (.node ((subObj 14)) (.node (o80 P) (.node (o144 P) .nil .nil) .nil) (.node (o112 P) .nil .nil))) (.node (o24 P) (.node ((subObj 6)) (.node (o72 P) (.node (o136 P) .nil .nil) .nil) (.node (o104 P) (.node (o168 P) .nil .nil) .nil)) (.node ((subObj 22)) (.node (o88 P) (.node (o152 P) .nil .nil) .nil) (.node (o120 P) .nil .nil)))) (.node (o12_17 P) (.node (o20 P) (.node ((subObj 2)) (.node ((subObj 34)) (.node (o132 P) .nil .nil) .nil) (.node (o100 P) (.node (o164 P) .nil .nil) .nil)) (.node ((subObj 18)) (.node (o84 P) (.node (o148 P) .nil .nil) .nil) (.node (o116 P) .nil .nil))) (.node (o28 P) (.node ((subObj 10)) (.node (o76 P) (.node (o140 P) .nil .nil) .nil) (.node (o108 P) (.node (o172 P) .nil .nil) .nil)) (.node ((subObj 26)) (.node (o92 P) (.node (o156 P) .nil .nil) .nil) (.node (o124 P) .nil .nil))))) (.node (boot_o_6 P) (.node (boot_o_10 P) (.node (o18 P) (.node ((subObj 0)) (.node ((subObj 32)) (.node (o130 P) .nil .nil) .nil) (.node (o98 P) (.node (o162 P) .nil .nil) .nil)) (.node ((subObj 16)) (.node (o82 P) (.node (o146 P) .nil .nil) .nil) (.node (o114 P) .nil .nil))) (.node (o26 P) (.node ((subObj 8)) (.node (o74 P) (.node (o138 P) .nil .nil) .nil) (.node (o106 P) (.node (o170 P) .nil .nil) .nil)) (.node ((subObj 24)) (.node (o90 P) (.node (o154 P) .nil .nil) .nil) (.node (o122 P) .nil .nil)))) (.node (o14 P) (.node (o22 P) (.node ((subObj 4)) (.node ((subObj 36)) (.node (o134 P) .nil .nil) .nil) (.node (o102 P) (.node (o166 P) .nil .nil) .nil)) (.node ((subObj 20)) (.node (o86 P) (.node (o150 P) .nil .nil) .nil) (.node (o118 P) .nil .nil))) (.node (o30 P) (.node ((subObj 12)) (.node (o78 P) (.node (o142 P) .nil .nil) .nil) (.node (o110 P) .nil .nil)) (.node ((subObj 28)) (.node (o94 P) (.node (o158 P) .nil .nil) .nil) (.node (o126 P) .nil .nil)))))))
noncomputable def T18 (P : Params) : BT := (.node (boot_o_0 P) (.node (boot_o_1 P) (.node (m18 P) (.node (boot_o_7 P) (.node (o15 P) (.node (o31 P) (.node ((subObj 29)) (.node (o127 P) .nil .nil) .nil) (.node (o95 P) (.node (o159 P) .nil .nil) .nil)) (.node ((subObj 13)) (.node (o79 P) (.node (o143 P) .nil .nil) .nil) (.node (o111 P) (.node (o175 P) .nil .nil) .nil))) (.node (o23 P) (.node ((subObj 5)) (.node (subLast) (.node (o135 P) .nil .nil) .nil) (.node (o103 P) (.node (o167 P) .nil .nil) .nil)) (.node ((subObj 21)) (.node (o87 P) (.node (o151 P) .nil .nil) .nil) (.node (o119 P) .nil .nil)))) (.node (o11 P) (.node (o19 P) (.node ((subObj 1)) (.node ((subObj 33)) (.node (o131 P) .nil .nil) .nil) (.node (o99 P) (.node (o163 P) .nil .nil) .nil)) (.node ((subObj 17)) (.node (o83 P) (.node (o147 P) .nil .nil) .nil) (.node (o115 P) .nil .nil))) (.node (o27 P) (.node ((subObj 9)) (.node (o75 P) (.node (o139 P) .nil .nil) .nil) (.node (o107 P) (.node (o171 P) .nil .nil) .nil)) (.node ((subObj 25)) (.node (o91 P) (.node (o155 P) .nil .nil) .nil) (.node (o123 P) .nil .nil))))) (.node (boot_o_5 P) (.node (boot_o_9 P) (.node (o17 P) (.node (b3Obj) (.node ((subObj 31)) (.node (o129 P) .nil .nil) .nil) (.node (o97 P) (.node (o161 P) .nil .nil) .nil)) (.node ((subObj 15)) (.node (o81 P) (.node (o145 P) .nil .nil) .nil) (.node (o113 P) (.node (o177 P) .nil .nil) .nil))) (.node (o25 P) (.node ((subObj 7)) (.node (o73 P) (.node (o137 P) .nil .nil) .nil) (.node (o105 P) (.node (o169 P) .nil .nil) .nil)) (.node ((subObj 23)) (.node (o89 P) (.node (o153 P) .nil .nil) .nil) (.node (o121 P) .nil .nil)))) (.node (o13 P) (.node (o21 P) (.node ((subObj 3)) (.node ((subObj 35)) (.node (o133 P) .nil .nil) .nil) (.node (o101 P) (.node (o165 P) .nil .nil) .nil)) (.node ((subObj 19)) (.node (o85 P) (.node (o149 P) .nil .nil) .nil) (.node (o117 P) .nil .nil))) (.node (o29 P) (.node ((subObj 11)) (.node (o77 P) (.node (o141 P) .nil .nil) .nil) (.node (o109 P) (.node (o173 P) .nil .nil) .nil)) (.node ((subObj 27)) (.node (o93 P) (.node (o157 P) .nil .nil) .nil) (.node (o125 P) .nil .nil)))))) (.node (boot_o_2 P) (.node (boot_o_4 P) (.node (boot_o_8 P) (.node (o16 P) (.node (o32 P) (.node ((subObj 30)) (.node (o128 P) .nil .nil) .nil) (.node (o96 P) (.node (o160 P) .nil .nil) .nil)) (.node ((subObj 14)) (.node (o80 P) (.node (o144 P) .nil .nil) .nil) (.node (o112 P) (.node (o176 P) .nil .nil) .nil))) (.node (o24 P) (.node ((subObj 6)) (.node (o72 P) (.node (o136 P) .nil .nil) .nil) (.node (o104 P) (.node (o168 P) .nil .nil) .nil)) (.node ((subObj 22)) (.node (o88 P) (.node (o152 P) .nil .nil) .nil) (.node (o120 P) .nil .nil)))) (.node (o12_18 P) (.node (o20 P) (.node ((subObj 2)) (.node ((subObj 34)) (.node (o132 P) .nil .nil) .nil) (.node (o100 P) (.node (o164 P) .nil .nil) .nil)) (.node ((subObj 18)) (.node (o84 P) (.node (o148 P) .nil .nil) .nil) (.node (o116 P) .nil .nil))) (.node (o28 P) (.node ((subObj 10)) (.node (o76 P) (.node (o140 P) .nil .nil) .nil) (.node (o108 P) (.node (o172 P) .nil .nil) .nil)) (.node ((subObj 26)) (.node (o92 P) (.node (o156 P) .nil .nil) .nil) (.node (o124 P) .nil .nil))))) (.node (boot_o_6 P) (.node (boot_o_10 P) (.node (o18 P) (.node ((subObj 0)) (.node ((subObj 32)) (.node (o130 P) .nil .nil) .nil) (.node (o98 P) (.node (o162 P) .nil .nil) .nil)) (.node ((subObj 16)) (.node (o82 P) (.node (o146 P) .nil .nil) .nil) (.node (o114 P) .nil .nil))) (.node (o26 P) (.node ((subObj 8)) (.node (o74 P) (.node (o138 P) .nil .nil) .nil) (.node (o106 P) (.node (o170 P) .nil .nil) .nil)) (.node ((subObj 24)) (.node (o90 P) (.node (o154 P) .nil .nil) .nil) (.node (o122 P) .nil .nil)))) (.node (o14 P) (.node (o22 P) (.node ((subObj 4)) (.node ((subObj 36)) (.node (o134 P) .nil .nil) .nil) (.node (o102 P) (.node (o166 P) .nil .nil) .nil)) (.node ((subObj 20)) (.node (o86 P) (.node (o150 P) .nil .nil) .nil) (.node (o118 P) .nil .nil))) (.node (o30 P) (.node ((subObj 12)) (.node (o78 P) (.node (o142 P) .nil .nil) .nil) (.node (o110 P) (.node (o174 P) .nil .nil) .nil)) (.node ((subObj 28)) (.node (o94 P) (.node (o158 P) .nil .nil) .nil) (.node (o126 P) .nil .nil)))))))
noncomputable def T19 (P : Params) : BT := (.node (boot_o_0 P) (.node (boot_o_1 P) (.node (m19 P) (.node (boot_o_7 P) (.node (o15 P) (.node (o31 P) (.node ((subObj 29)) (.node (o127 P) .nil .nil) .nil) (.node (o95 P) (.node (o159 P) .nil .nil) .nil)) (.node ((subObj 13)) (.node (o79 P) (.node (o143 P) .nil .nil) .nil) (.node (o111 P) (.node (o175 P) .nil .nil) .nil))) (.node (o23 P) (.node ((subObj 5)) (.node (subLast) (.node (o135 P) .nil .nil) .nil) (.node (o103 P) (.node (o167 P) .nil .nil) .nil)) (.node ((subObj 21)) (.node (o87 P) (.node (o151 P) .nil .nil) .nil) (.node (o119 P) (.node (o183 P) .nil .nil) .nil)))) (.node (o11 P) (.node (o19 P) (.node ((subObj 1)) (.node ((subObj 33)) (.node (o131 P) .nil .nil) .nil) (.node (o99 P) (.node (o163 P) .nil .nil) .nil)) (.node ((subObj 17)) (.node (o83 P) (.node (o147 P) .nil .nil) .nil) (.node (o115 P) (.node (o179 P) .nil .nil) .nil))) (.node (o27 P) (.node ((subObj 9)) (.node (o75 P) (.node (o139 P) .nil .nil) .nil) (.node (o107 P) (.node (o171 P) .nil .nil) .nil)) (.node ((subObj 25)) (.node (o91 P) (.node (o155 P) .nil .nil) .nil) (.node (o123 P) .nil .nil))))) (.node (boot_o_5 P) (.node (boot_o_9 P) (.node (o17 P) (.node (b3Obj) (.node ((subObj 31)) (.node (o129 P) .nil .nil) .nil) (.node (o97 P) (.node (o161 P) .nil .nil) .nil)) (.node ((subObj 15)) (.node (o81 P) (.node (o145 P) .nil .nil) .nil) (.node (o113 P) (.node (o177 P) .nil .nil) .nil))) (.node (o25 P) (.node ((subObj 7)) (.node (o73 P) (.node (o137 P) .nil .nil) .nil) (.node (o105 P) (.node (o169 P) .nil .nil) .nil)) (.node ((subObj 23)) (.node (o89 P) (.node (o153 P) .nil .nil) .nil) (.node (o121 P) .nil .nil)))) (.node (o13 P) (.node (o21 P) (.node ((subObj 3)) (.node ((subObj 35)) (.node (o133 P) .nil .nil) .nil) (.node (o101 P) (.node (o165 P) .nil .nil) .nil)) (.node ((subObj 19)) (.node (o85 P) (.node (o149 P) .nil .nil) .nil) (.node (o117 P) (.node (o181 P) .nil .nil) .nil))) (.node (o29 P) (.node ((subObj 11)) (.node (o77 P) (.node (o141 P) .nil .nil) .nil) (.node (o109 P) (.node (o173 P) .nil .nil) .nil)) (.node ((subObj 27)) (.node (o93 P) (.node (o157 P) .nil .nil) .nil) (.node (o125 P) .nil .nil)))))) (.node (boot_o_2 P) (.node (boot_o_4 P) (.node (boot_o_8 P) (.node (o16 P) (.node (o32 P) (.node ((subObj 30)) (.node (o128 P) .nil .nil) .nil) (.node (o96 P) (.node (o160 P) .nil .nil) .nil)) (.node ((subObj 14)) (.node (o80 P) (.node (o144 P) .nil .nil) .nil) (.node (o112 P) (.node (o176 P) .nil .nil) .nil))) (.node (o24 P) (.node ((subObj 6)) (.node (o72 P) (.node (o136 P) .nil .nil) .nil) (.node (o104 P) (.node (o168 P) .nil .nil) .nil)) (.node ((subObj 22)) (.node (o88 P) (.node (o152 P) .nil .nil) .nil) (.node (o120 P) (.node (o184 P) .nil .nil) .nil)))) (.node (o12_19 P) (.node (o20 P) (.node ((subObj 2)) (.node ((subObj 34)) (.node (o132 P) .nil .nil) .nil) (.node (o100 P) (.node (o164 P) .nil .nil) .nil)) (.node ((subObj 18)) (.node (o84 P) (.node (o148 P) .nil .nil) .nil) (.node (o116 P) (.node (o180 P) .nil .nil) .nil))) (.node (o28 P) (.node ((subObj 10)) (.node (o76 P) (.node (o140 P) .nil .nil) .nil) (.node (o108 P) (.node (o172 P) .nil .nil) .nil)) (.node ((subObj 26)) (.node (o92 P) (.node (o156 P) .nil .nil) .nil) (.node (o124 P) .nil .nil))))) (.node (boot_o_6 P) (.node (boot_o_10 P) (.node (o18 P) (.node ((subObj 0)) (.node ((subObj 32)) (.node (o130 P) .nil .nil) .nil) (.node (o98 P) (.node (o162 P) .nil .nil) .nil)) (.node ((subObj 16)) (.node (o82 P) (.node (o146 P) .nil .nil) .nil) (.node (o114 P) (.node (o178 P) .nil .nil) .nil))) (.node (o26 P) (.node ((subObj 8)) (.node (o74 P) (.node (o138 P) .nil .nil) .nil) (.node (o106 P) (.node (o170 P) .nil .nil) .nil)) (.node ((subObj 24)) (.node (o90 P) (.node (o154 P) .nil .nil) .nil) (.node (o122 P) .nil .nil)))) (.node (o14 P) (.node (o22 P) (.node ((subObj 4)) (.node ((subObj 36)) (.node (o134 P) .nil .nil) .nil) (.node (o102 P) (.node (o166 P) .nil .nil) .nil)) (.node ((subObj 20)) (.node (o86 P) (.node (o150 P) .nil .nil) .nil) (.node (o118 P) (.node (o182 P) .nil .nil) .nil))) (.node (o30 P) (.node ((subObj 12)) (.node (o78 P) (.node (o142 P) .nil .nil) .nil) (.node (o110 P) (.node (o174 P) .nil .nil) .nil)) (.node ((subObj 28)) (.node (o94 P) (.node (o158 P) .nil .nil) .nil) (.node (o126 P) .nil .nil)))))))
noncomputable def T20 (P : Params) : BT := (.node (boot_o_0 P) (.node (boot_o_1 P) (.node (m20 P) (.node (boot_o_7 P) (.node (o15 P) (.node (o31 P) (.node ((subObj 29)) (.node (o127 P) .nil .nil) .nil) (.node (o95 P) (.node (o159 P) .nil .nil) .nil)) (.node ((subObj 13)) (.node (o79 P) (.node (o143 P) .nil .nil) .nil) (.node (o111 P) (.node (o175 P) .nil .nil) .nil))) (.node (o23 P) (.node ((subObj 5)) (.node (subLast) (.node (o135 P) .nil .nil) .nil) (.node (o103 P) (.node (o167 P) .nil .nil) .nil)) (.node ((subObj 21)) (.node (o87 P) (.node (o151 P) .nil .nil) .nil) (.node (o119 P) (.node (o183 P) .nil .nil) .nil)))) (.node (o11 P) (.node (o19 P) (.node ((subObj 1)) (.node ((subObj 33)) (.node (o131 P) .nil .nil) .nil) (.node (o99 P) (.node (o163 P) .nil .nil) .nil)) (.node ((subObj 17)) (.node (o83 P) (.node (o147 P) .nil .nil) .nil) (.node (o115 P) (.node (o179 P) .nil .nil) .nil))) (.node (o27 P) (.node ((subObj 9)) (.node (o75 P) (.node (o139 P) .nil .nil) .nil) (.node (o107 P) (.node (o171 P) .nil .nil) .nil)) (.node ((subObj 25)) (.node (o91 P) (.node (o155 P) .nil .nil) .nil) (.node (o123 P) (.node (o187 P) .nil .nil) .nil))))) (.node (boot_o_5 P) (.node (boot_o_9 P) (.node (o17 P) (.node (b3Obj) (.node ((subObj 31)) (.node (o129 P) .nil .nil) .nil) (.node (o97 P) (.node (o161 P) .nil .nil) .nil)) (.node ((subObj 15)) (.node (o81 P) (.node (o145 P) .nil .nil) .nil) (.node (o113 P) (.node (o177 P) .nil .nil) .nil))) (.node (o25 P) (.node ((subObj 7)) (.node (o73 P) (.node (o137 P) .nil .nil) .nil) (.node (o105 P) (.node (o169 P) .nil .nil) .nil)) (.node ((subObj 23)) (.node (o89 P) (.node (o153 P) .nil .nil) .nil) (.node (o121 P) (.node (o185 P) .nil .nil) .nil)))) (.node (o13 P) (.node (o21 P) (.node ((subObj 3)) (.node ((subObj 35)) (.node (o133 P) .nil .nil) .nil) (.node (o101 P) (.node (o165 P) .nil .nil) .nil)) (.node ((subObj 19)) (.node (o85 P) (.node (o149 P) .nil .nil) .nil) (.node (o117 P) (.node (o181 P) .nil .nil) .nil))) (.node (o29 P) (.node ((subObj 11)) (.node (o77 P) (.node (o141 P) .nil .nil) .nil) (.node (o109 P) (.node (o173 P) .nil .nil) .nil)) (.node ((subObj 27)) (.node (o93 P) (.node (o157 P) .nil .nil) .nil) (.node (o125 P) (.node (o189 P) .nil .nil) .nil)))))) (.node (boot_o_2 P) (.node (boot_o_4 P) (.node (boot_o_8 P) (.node (o16 P) (.node (o32 P) (.node ((subObj 30)) (.node (o128 P) .nil .nil) .nil) (.node (o96 P) (.node (o160 P) .nil .nil) .nil)) (.node ((subObj 14)) (.node (o80 P) (.node (o144 P) .nil .nil) .nil) (.node (o112 P) (.node (o176 P) .nil .nil) .nil))) (.node (o24 P) (.node ((subObj 6)) (.node (o72 P) (.node (o136 P) .nil .nil) .nil) (.node (o104 P) (.node (o168 P) .nil .nil) .nil)) (.node ((subObj 22)) (.node (o88 P) (.node (o152 P) .nil .nil) .nil) (.node (o120 P) (.node (o184 P) .nil .nil) .nil)))) (.node (o12_20 P) (.node (o20 P) (.node ((subObj 2)) (.node ((subObj 34)) (.node (o132 P) .nil .nil) .nil) (.node (o100 P) (.node (o164 P) .nil .nil) .nil)) (.node ((subObj 18)) (.node (o84 P) (.node (o148 P) .nil .nil) .nil) (.node (o116 P) (.node (o180 P) .nil .nil) .nil))) (.node (o28 P) (.node ((subObj 10)) (.node (o76 P) (.node (o140 P) .nil .nil) .nil) (.node (o108 P) (.node (o172 P) .nil .nil) .nil)) (.node ((subObj 26)) (.node (o92 P) (.node (o156 P) .nil .nil) .nil) (.node (o124 P) (.node (o188 P) .nil .nil) .nil))))) (.node (boot_o_6 P) (.node (boot_o_10 P) (.node (o18 P) (.node ((subObj 0)) (.node ((subObj 32)) (.node (o130 P) .nil .nil) .nil) (.node (o98 P) (.node (o162 P) .nil .nil) .nil)) (.node ((subObj 16)) (.node (o82 P) (.node (o146 P) .nil .nil) .nil) (.node (o114 P) (.node (o178 P) .nil .nil) .nil))) (.node (o26 P) (.node ((subObj 8)) (.node (o74 P) (.node (o138 P) .nil .nil) .nil) (.node (o106 P) (.node (o170 P) .nil .nil) .nil)) (.node ((subObj 24)) (.node (o90 P) (.node (o154 P) .nil .nil) .nil) (.node (o122 P) (.node (o186 P) .nil .nil) .nil)))) (.node (o14 P) (.node (o22 P) (.node ((subObj 4)) (.node ((subObj 36)) (.node (o134 P) .nil .nil) .nil) (.node (o102 P) (.node (o166 P) .nil .nil) .nil)) (.node ((subObj 20)) (.node (o86 P) (.node (o150 P) .nil .nil) .nil) (.node (o118 P) (.node (o182 P) .nil .nil) .nil))) (.node (o30 P) (.node ((subObj 12)) (.node (o78 P) (.node (o142 P) .nil .nil) .nil) (.node (o110 P) (.node (o174 P) .nil .nil) .nil)) (.node ((subObj 28)) (.node (o94 P) (.node (o158 P) .nil .nil) .nil) (.node (o126 P) .nil .nil)))))))
noncomputable def T21 (P : Params) : BT := (.node (boot_o_0 P) (.node (boot_o_1 P) (.node (m21 P) (.node (boot_o_7 P) (.node (o15 P) (.node (o31 P) (.node ((subObj 29)) (.node (o127 P) .nil .nil) (.node (o191 P) .nil .nil)) (.node (o95 P) (.node (o159 P) .nil .nil) .nil)) (.node ((subObj 13)) (.node (o79 P) (.node (o143 P) .nil .nil) .nil) (.node (o111 P) (.node (o175 P) .nil .nil) .nil))) (.node (o23 P) (.node ((subObj 5)) (.node (subLast) (.node (o135 P) .nil .nil) .nil) (.node (o103 P) (.node (o167 P) .nil .nil) .nil)) (.node ((subObj 21)) (.node (o87 P) (.node (o151 P) .nil .nil) .nil) (.node (o119 P) (.node (o183 P) .nil .nil) .nil)))) (.node (o11 P) (.node (o19 P) (.node ((subObj 1)) (.node ((subObj 33)) (.node (o131 P) .nil .nil) .nil) (.node (o99 P) (.node (o163 P) .nil .nil) .nil)) (.node ((subObj 17)) (.node (o83 P) (.node (o147 P) .nil .nil) .nil) (.node (o115 P) (.node (o179 P) .nil .nil) .nil))) (.node (o27 P) (.node ((subObj 9)) (.node (o75 P) (.node (o139 P) .nil .nil) .nil) (.node (o107 P) (.node (o171 P) .nil .nil) .nil)) (.node ((subObj 25)) (.node (o91 P) (.node (o155 P) .nil .nil) .nil) (.node (o123 P) (.node (o187 P) .nil .nil) .nil))))) (.node (boot_o_5 P) (.node (boot_o_9 P) (.node (o17 P) (.node (b3Obj) (.node ((subObj 31)) (.node (o129 P) .nil .nil) (.node (o193 P) .nil .nil)) (.node (o97 P) (.node (o161 P) .nil .nil) .nil)) (.node ((subObj 15)) (.node (o81 P) (.node (o145 P) .nil .nil) .nil) (.node (o113 P) (.node (o177 P) .nil .nil) .nil))) (.node (o25 P) (.node ((subObj 7)) (.node (o73 P) (.node (o137 P) .nil .nil) .nil) (.node (o105 P) (.node (o169 P) .nil .nil) .nil)) (.node ((subObj 23)) (.node (o89 P) (.node (o153 P) .nil .nil) .nil) (.node (o121 P) (.node (o185 P) .nil .nil) .nil)))) (.node (o13 P) (.node (o21 P) (.node ((subObj 3)) (.node ((subObj 35)) (.node (o133 P) .nil .nil) .nil) (.node (o101 P) (.node (o165 P) .nil .nil) .nil)) (.node ((subObj 19)) (.node (o85 P) (.node (o149 P) .nil .nil) .nil) (.node (o117 P) (.node (o181 P) .nil .nil) .nil))) (.node (o29 P) (.node ((subObj 11)) (.node (o77 P) (.node (o141 P) .nil .nil) .nil) (.node (o109 P) (.node (o173 P) .nil .nil) .nil)) (.node ((subObj 27)) (.node (o93 P) (.node (o157 P) .nil .nil) .nil) (.node (o125 P) (.node (o189 P) .nil .nil) .nil)))))) (.node (boot_o_2 P) (.node (boot_o_4 P) (.node (boot_o_8 P) (.node (o16 P) (.node (o32 P) (.node ((subObj 30)) (.node (o128 P) .nil .nil) (.node (o192 P) .nil .nil)) (.node (o96 P) (.node (o160 P) .nil .nil) .nil)) (.node ((subObj 14)) (.node (o80 P) (.node (o144 P) .nil .nil) .nil) (.node (o112 P) (.node (o176 P) .nil .nil) .nil))) (.node (o24 P) (.node ((subObj 6)) (.node (o72 P) (.node (o136 P) .nil .nil) .nil) (.node (o104 P) (.node (o168 P) .nil .nil) .nil)) (.node ((subObj 22)) (.node (o88 P) (.node (o152 P) .nil .nil) .nil) (.node (o120 P) (.node (o184 P) .nil .nil) .nil)))) (.node (o12_21 P) (.node (o20 P) (.node ((subObj 2)) (.node ((subObj 34)) (.node (o132 P) .nil .nil) .nil) (.node (o100 P) (.node (o164 P) .nil .nil) .nil)) (.node ((subObj 18)) (.node (o84 P) (.node (o148 P) .nil .nil) .nil) (.node (o116 P) (.node (o180 P) .nil .nil) .nil))) (.node (o28 P) (.node ((subObj 10)) (.node (o76 P) (.node (o140 P) .nil .nil) .nil) (.node (o108 P) (.node (o172 P) .nil .nil) .nil)) (.node ((subObj 26)) (.node (o92 P) (.node (o156 P) .nil .nil) .nil) (.node (o124 P) (.node (o188 P) .nil .nil) .nil))))) (.node (boot_o_6 P) (.node (boot_o_10 P) (.node (o18 P) (.node ((subObj 0)) (.node ((subObj 32)) (.node (o130 P) .nil .nil) (.node (o194 P) .nil .nil)) (.node (o98 P) (.node (o162 P) .nil .nil) .nil)) (.node ((subObj 16)) (.node (o82 P) (.node (o146 P) .nil .nil) .nil) (.node (o114 P) (.node (o178 P) .nil .nil) .nil))) (.node (o26 P) (.node ((subObj 8)) (.node (o74 P) (.node (o138 P) .nil .nil) .nil) (.node (o106 P) (.node (o170 P) .nil .nil) .nil)) (.node ((subObj 24)) (.node (o90 P) (.node (o154 P) .nil .nil) .nil) (.node (o122 P) (.node (o186 P) .nil .nil) .nil)))) (.node (o14 P) (.node (o22 P) (.node ((subObj 4)) (.node ((subObj 36)) (.node (o134 P) .nil .nil) .nil) (.node (o102 P) (.node (o166 P) .nil .nil) .nil)) (.node ((subObj 20)) (.node (o86 P) (.node (o150 P) .nil .nil) .nil) (.node (o118 P) (.node (o182 P) .nil .nil) .nil))) (.node (o30 P) (.node ((subObj 12)) (.node (o78 P) (.node (o142 P) .nil .nil) .nil) (.node (o110 P) (.node (o174 P) .nil .nil) .nil)) (.node ((subObj 28)) (.node (o94 P) (.node (o158 P) .nil .nil) .nil) (.node (o126 P) (.node (o190 P) .nil .nil) .nil)))))))
noncomputable def T22 (P : Params) : BT := (.node (boot_o_0 P) (.node (boot_o_1 P) (.node (m22 P) (.node (boot_o_7 P) (.node (o15 P) (.node (o31 P) (.node ((subObj 29)) (.node (o127 P) .nil .nil) (.node (o191 P) .nil .nil)) (.node (o95 P) (.node (o159 P) .nil .nil) .nil)) (.node ((subObj 13)) (.node (o79 P) (.node (o143 P) .nil .nil) .nil) (.node (o111 P) (.node (o175 P) .nil .nil) .nil))) (.node (o23 P) (.node ((subObj 5)) (.node (subLast) (.node (o135 P) .nil .nil) (.node (o199 P) .nil .nil)) (.node (o103 P) (.node (o167 P) .nil .nil) .nil)) (.node ((subObj 21)) (.node (o87 P) (.node (o151 P) .nil .nil) .nil) (.node (o119 P) (.node (o183 P) .nil .nil) .nil)))) (.node (o11 P) (.node (o19 P) (.node ((subObj 1)) (.node ((subObj 33)) (.node (o131 P) .nil .nil) (.node (o195 P) .nil .nil)) (.node (o99 P) (.node (o163 P) .nil .nil) .nil)) (.node ((subObj 17)) (.node (o83 P) (.node (o147 P) .nil .nil) .nil) (.node (o115 P) (.node (o179 P) .nil .nil) .nil))) (.node (o27 P) (.node ((subObj 9)) (.node (o75 P) (.node (o139 P) .nil .nil) .nil) (.node (o107 P) (.node (o171 P) .nil .nil) .nil)) (.node ((subObj 25)) (.node (o91 P) (.node (o155 P) .nil .nil) .nil) (.node (o123 P) (.node (o187 P) .nil .nil) .nil))))) (.node (boot_o_5 P) (.node (boot_o_9 P) (.node (o17 P) (.node (b3Obj) (.node ((subObj 31)) (.node (o129 P) .nil .nil) (.node (o193 P) .nil .nil)) (.node (o97 P) (.node (o161 P) .nil .nil) .nil)) (.node ((subObj 15)) (.node (o81 P) (.node (o145 P) .nil .nil) .nil) (.node (o113 P) (.node (o177 P) .nil .nil) .nil))) (.node (o25 P) (.node ((subObj 7)) (.node (o73 P) (.node (o137 P) .nil .nil) .nil) (.node (o105 P) (.node (o169 P) .nil .nil) .nil)) (.node ((subObj 23)) (.node (o89 P) (.node (o153 P) .nil .nil) .nil) (.node (o121 P) (.node (o185 P) .nil .nil) .nil)))) (.node (o13 P) (.node (o21 P) (.node ((subObj 3)) (.node ((subObj 35)) (.node (o133 P) .nil .nil) (.node (o197 P) .nil .nil)) (.node (o101 P) (.node (o165 P) .nil .nil) .nil)) (.node ((subObj 19)) (.node (o85 P) (.node (o149 P) .nil .nil) .nil) (.node (o117 P) (.node (o181 P) .nil .nil) .nil))) (.node (o29 P) (.node ((subObj 11)) (.node (o77 P) (.node (o141 P) .nil .nil) .nil) (.node (o109 P) (.node (o173 P) .nil .nil) .nil)) (.node ((subObj 27)) (.node (o93 P) (.node (o157 P) .nil .nil) .nil) (.node (o125 P) (.node (o189 P) .nil .nil) .nil)))))) (.node (boot_o_2 P) (.node (boot_o_4 P) (.node (boot_o_8 P) (.node (o16 P) (.node (o32 P) (.node ((subObj 30)) (.node (o128 P) .nil .nil) (.node (o192 P) .nil .nil)) (.node (o96 P) (.node (o160 P) .nil .nil) .nil)) (.node ((subObj 14)) (.node (o80 P) (.node (o144 P) .nil .nil) .nil) (.node (o112 P) (.node (o176 P) .nil .nil) .nil))) (.node (o24 P) (.node ((subObj 6)) (.node (o72 P) (.node (o136 P) .nil .nil) .nil) (.node (o104 P) (.node (o168 P) .nil .nil) .nil)) (.node ((subObj 22)) (.node (o88 P) (.node (o152 P) .nil .nil) .nil) (.node (o120 P) (.node (o184 P) .nil .nil) .nil)))) (.node (o12_22 P) (.node (o20 P) (.node ((subObj 2)) (.node ((subObj 34)) (.node (o132 P) .nil .nil) (.node (o196 P) .nil .nil)) (.node (o100 P) (.node (o164 P) .nil .nil) .nil)) (.node ((subObj 18)) (.node (o84 P) (.node (o148 P) .nil .nil) .nil) (.node (o116 P) (.node (o180 P) .nil .nil) .nil))) (.node (o28 P) (.node ((subObj 10)) (.node (o76 P) (.node (o140 P) .nil .nil) .nil) (.node (o108 P) (.node (o172 P) .nil .nil) .nil)) (.node ((subObj 26)) (.node (o92 P) (.node (o156 P) .nil .nil) .nil) (.node (o124 P) (.node (o188 P) .nil .nil) .nil))))) (.node (boot_o_6 P) (.node (boot_o_10 P) (.node (o18 P) (.node ((subObj 0)) (.node ((subObj 32)) (.node (o130 P) .nil .nil) (.node (o194 P) .nil .nil)) (.node (o98 P) (.node (o162 P) .nil .nil) .nil)) (.node ((subObj 16)) (.node (o82 P) (.node (o146 P) .nil .nil) .nil) (.node (o114 P) (.node (o178 P) .nil .nil) .nil))) (.node (o26 P) (.node ((subObj 8)) (.node (o74 P) (.node (o138 P) .nil .nil) .nil) (.node (o106 P) (.node (o170 P) .nil .nil) .nil)) (.node ((subObj 24)) (.node (o90 P) (.node (o154 P) .nil .nil) .nil) (.node (o122 P) (.node (o186 P) .nil .nil) .nil)))) (.node (o14 P) (.node (o22 P) (.node ((subObj 4)) (.node ((subObj 36)) (.node (o134 P) .nil .nil) (.node (o198 P) .nil .nil)) (.node (o102 P) (.node (o166 P) .nil .nil) .nil)) (.node ((subObj 20)) (.node (o86 P) (.node (o150 P) .nil .nil) .nil) (.node (o118 P) (.node (o182 P) .nil .nil) .nil))) (.node (o30 P) (.node ((subObj 12)) (.node (o78 P) (.node (o142 P) .nil .nil) .nil) (.node (o110 P) (.node (o174 P) .nil .nil) .nil)) (.node ((subObj 28)) (.node (o94 P) (.node (o158 P) .nil .nil) .nil) (.node (o126 P) (.node (o190 P) .nil .nil) .nil)))))))
noncomputable def lif : Life := Life.mk [] [] [] 0 [] [] false #[] [] 0 false false false 0 [2000, 10, 10] false 0 true [] [] 0 false
noncomputable def S (T : Params → BT) (n tk : Nat) (w : World) (os : OsState) : SharedT := ⟨T w.params, n, lif, Array.mk [], boot_drawn, tk, os⟩
noncomputable def Hf (P : Params) : Heap := Heap.mk (Array.mk [boot_o_0 P, boot_o_1 P, boot_o_2 P, m22 P, boot_o_4 P, boot_o_5 P, boot_o_6 P, boot_o_7 P, boot_o_8 P, boot_o_9 P, boot_o_10 P, o11 P, o12_22 P, o13 P, o14 P, o15 P, o16 P, o17 P, o18 P, o19 P, o20 P, o21 P, o22 P, o23 P, o24 P, o25 P, o26 P, o27 P, o28 P, o29 P, o30 P, o31 P, o32 P, b3Obj, (subObj 0), (subObj 1), (subObj 2), (subObj 3), (subObj 4), (subObj 5), (subObj 6), (subObj 7), (subObj 8), (subObj 9), (subObj 10), (subObj 11), (subObj 12), (subObj 13), (subObj 14), (subObj 15), (subObj 16), (subObj 17), (subObj 18), (subObj 19), (subObj 20), (subObj 21), (subObj 22), (subObj 23), (subObj 24), (subObj 25), (subObj 26), (subObj 27), (subObj 28), (subObj 29), (subObj 30), (subObj 31), (subObj 32), (subObj 33), (subObj 34), (subObj 35), (subObj 36), subLast, o72 P, o73 P, o74 P, o75 P, o76 P, o77 P, o78 P, o79 P, o80 P, o81 P, o82 P, o83 P, o84 P, o85 P, o86 P, o87 P, o88 P, o89 P, o90 P, o91 P, o92 P, o93 P, o94 P, o95 P, o96 P, o97 P, o98 P, o99 P, o100 P, o101 P, o102 P, o103 P, o104 P, o105 P, o106 P, o107 P, o108 P, o109 P, o110 P, o111 P, o112 P, o113 P, o114 P, o115 P, o116 P, o117 P, o118 P, o119 P, o120 P, o121 P, o122 P, o123 P, o124 P, o125 P, o126 P, o127 P, o128 P, o129 P, o130 P, o131 P, o132 P, o133 P, o134 P, o135 P, o136 P, o137 P, o138 P, o139 P, o140 P, o141 P, o142 P, o143 P, o144 P, o145 P, o146 P, o147 P, o148 P, o149 P, o150 P, o151 P, o152 P, o153 P, o154 P, o155 P, o156 P, o157 P, o158 P, o159 P, o160 P, o161 P, o162 P, o163 P, o164 P, o165 P, o166 P, o167 P, o168 P, o169 P, o170 P, o171 P, o172 P, o173 P, o174 P, o175 P, o176 P, o177 P, o178 P, o179 P, o180 P, o181 P, o182 P, o183 P, o184 P, o185 P, o186 P, o187 P, o188 P, o189 P, o190 P, o191 P, o192 P, o193 P, o194 P, o195 P, o196 P, o197 P, o198 P, o199 P]) lif
noncomputable def topEnv : Env := { scope := PySem.Challenge.pw_rw0107_01.main.scope, locals := mainNs, globals := mainNs, cells := [], code := .ref 13, frame := some 14 }
noncomputable def topBody : List Stmt := PySem.Challenge.pw_rw0107_01.main.body
noncomputable abbrev S0 (w : World) (os : OsState) : SharedT := S T0 (nat_lit 15) (nat_lit 187) w os
noncomputable abbrev p0 : Pos := ⟨0, 0, 0, 0⟩
noncomputable abbrev S1 (w : World) (os : OsState) : SharedT := S T1 (nat_lit 15) (nat_lit 189) w os
noncomputable abbrev p1 : Pos := ⟨1, 0, 1, 8⟩
noncomputable abbrev S2 (w : World) (os : OsState) : SharedT := S T2 (nat_lit 26) (nat_lit 249) w os
noncomputable abbrev p2 : Pos := ⟨2, 0, 2, 6⟩
noncomputable abbrev S3 (w : World) (os : OsState) : SharedT := S T3 (nat_lit 33) (nat_lit 256) w os
noncomputable abbrev p3 : Pos := ⟨3, 0, 4, 30⟩
noncomputable abbrev S4 (w : World) (os : OsState) : SharedT := S T4 (nat_lit 72) (nat_lit 2207) w os
noncomputable abbrev p4 : Pos := ⟨5, 0, 5, 13⟩
noncomputable abbrev S5 (w : World) (os : OsState) : SharedT := S T5 (nat_lit 79) (nat_lit 2215) w os
noncomputable abbrev p5 : Pos := ⟨6, 0, 10, 23⟩
noncomputable abbrev S6 (w : World) (os : OsState) : SharedT := S T6 (nat_lit 79) (nat_lit 2217) w os
noncomputable abbrev p6 : Pos := ⟨11, 0, 11, 8⟩
noncomputable abbrev S7 (w : World) (os : OsState) : SharedT := S T7 (nat_lit 86) (nat_lit 2236) w os
noncomputable abbrev p7 : Pos := ⟨12, 0, 34, 20⟩
noncomputable abbrev S8 (w : World) (os : OsState) : SharedT := S T8 (nat_lit 93) (nat_lit 2254) w os
noncomputable abbrev p8 : Pos := ⟨35, 0, 53, 20⟩
noncomputable abbrev S9 (w : World) (os : OsState) : SharedT := S T9 (nat_lit 93) (nat_lit 2256) w os
noncomputable abbrev p9 : Pos := ⟨54, 0, 54, 8⟩
noncomputable abbrev S10 (w : World) (os : OsState) : SharedT := S T10 (nat_lit 135) (nat_lit 2314) w os
noncomputable abbrev p10 : Pos := ⟨55, 0, 97, 35⟩
noncomputable abbrev S11 (w : World) (os : OsState) : SharedT := S T11 (nat_lit 135) (nat_lit 2316) w os
noncomputable abbrev p11 : Pos := ⟨98, 0, 98, 8⟩
noncomputable abbrev S12 (w : World) (os : OsState) : SharedT := S T12 (nat_lit 142) (nat_lit 2325) w os
noncomputable abbrev p12 : Pos := ⟨99, 0, 103, 28⟩
noncomputable abbrev S13 (w : World) (os : OsState) : SharedT := S T13 (nat_lit 147) (nat_lit 2331) w os
noncomputable abbrev p13 : Pos := ⟨104, 0, 108, 58⟩
noncomputable abbrev S14 (w : World) (os : OsState) : SharedT := S T14 (nat_lit 152) (nat_lit 2337) w os
noncomputable abbrev p14 : Pos := ⟨109, 0, 113, 90⟩
noncomputable abbrev S15 (w : World) (os : OsState) : SharedT := S T15 (nat_lit 159) (nat_lit 2345) w os
noncomputable abbrev p15 : Pos := ⟨114, 0, 116, 62⟩
noncomputable abbrev S16 (w : World) (os : OsState) : SharedT := S T16 (nat_lit 166) (nat_lit 2353) w os
noncomputable abbrev p16 : Pos := ⟨117, 0, 119, 89⟩
noncomputable abbrev S17 (w : World) (os : OsState) : SharedT := S T17 (nat_lit 173) (nat_lit 2362) w os
noncomputable abbrev p17 : Pos := ⟨120, 0, 124, 91⟩
noncomputable abbrev S18 (w : World) (os : OsState) : SharedT := S T18 (nat_lit 178) (nat_lit 2368) w os
noncomputable abbrev p18 : Pos := ⟨125, 0, 140, 22⟩
noncomputable abbrev S19 (w : World) (os : OsState) : SharedT := S T19 (nat_lit 185) (nat_lit 2379) w os
noncomputable abbrev p19 : Pos := ⟨141, 0, 150, 25⟩
noncomputable abbrev S20 (w : World) (os : OsState) : SharedT := S T20 (nat_lit 190) (nat_lit 2385) w os
noncomputable abbrev p20 : Pos := ⟨151, 0, 153, 36⟩
noncomputable abbrev S21 (w : World) (os : OsState) : SharedT := S T21 (nat_lit 195) (nat_lit 2391) w os
noncomputable abbrev p21 : Pos := ⟨154, 0, 168, 114⟩
noncomputable abbrev S22 (w : World) (os : OsState) : SharedT := S T22 (nat_lit 200) (nat_lit 2397) w os
noncomputable abbrev p22 : Pos := ⟨169, 0, 201, 26⟩
end
section
noncomputable abbrev tP : Program := PySem.Challenge.pw_rw0107_01
noncomputable abbrev cE : Code := .body (behindTheImports tP) topEnv
noncomputable abbrev topB : List Frame := [topFrame ⟨0, 0, 0, 0⟩]
noncomputable abbrev cut (i j : Nat) : List Stmt := (topBody.drop i).take j
noncomputable def annV : Option Value := some (.ref 6)
theorem fastRun : segRunT treeTable = PySem.W.Fast.tw10110043849684766642 PySem.W.Fast.tw14364793385576792824 := by rw [PySem.W.Fast.te10110043849684766642, PySem.W.Fast.te14364793385576792824]
set_option maxHeartbeats 0
theorem g9 (w : World) : (fun os => PySem.W.Fast.tw10110043849684766642 PySem.W.Fast.tw14364793385576792824 tP w 11 annV 1 130 (S4 w os) (piecesOf (cut 4 5) topEnv cE p4 topB)) = fun os => some (.next, S9 w os, cE, p9) := by
  kernel_rfl
theorem g10 (w : World) : (fun os => PySem.W.Fast.tw10110043849684766642 PySem.W.Fast.tw14364793385576792824 tP w 11 annV 1 324 (S9 w os) (piecesOf (cut 9 1) topEnv cE p9 topB)) = fun os => some (.next, S10 w os, cE, p10) := by
  kernel_rfl
theorem g16 (w : World) : (fun os => PySem.W.Fast.tw10110043849684766642 PySem.W.Fast.tw14364793385576792824 tP w 11 annV 1 153 (S10 w os) (piecesOf (cut 10 6) topEnv cE p10 topB)) = fun os => some (.next, S16 w os, cE, p16) := by
  kernel_rfl
theorem g22 (w : World) : (fun os => PySem.W.Fast.tw10110043849684766642 PySem.W.Fast.tw14364793385576792824 tP w 11 annV 1 169 (S16 w os) (piecesOf (cut 16 6) topEnv cE p16 topB)) = fun os => some (.next, S22 w os, cE, p22) := by
  kernel_rfl
end
section
set_option maxHeartbeats 0
theorem g0 (w : World) : (fun os => topGo treeTable tP w 11 annV 12 (Shared.mk (boot_heap w.params) (Array.mk []) boot_drawn boot_toks os) (topStub tP)) = fun os => some ((S0 w os).abs, (⟨denote treeTable cE, cE, p0, topB⟩ : Thread)) := by
  kernel_rfl
theorem g00 (w : World) : (fun os => segRun treeTable tP w 11 annV 1 1 (S0 w os).abs (blockOf (behindTheImports tP) topEnv cE p0 topB)) = fun os => some (.next, (S0 w os).abs, cE, p0) := by
  kernel_rfl
theorem g3 (w : World) : (fun os => PySem.W.Fast.tw10110043849684766642 PySem.W.Fast.tw14364793385576792824 tP w 11 annV 1 30 (S2 w os) (piecesOf (cut 2 1) topEnv cE p2 topB)) = fun os => some (.next, S3 w os, cE, p3) := by
  kernel_rfl
theorem g1 (w : World) : (fun os => PySem.W.Fast.tw10110043849684766642 PySem.W.Fast.tw14364793385576792824 tP w 11 annV 1 10 (S0 w os) (piecesOf (cut 0 1) topEnv cE p0 topB)) = fun os => some (.next, S1 w os, cE, p1) := by
  kernel_rfl
theorem g2a (w : World) : (fun os => PySem.W.Fast.tw10110043849684766642 PySem.W.Fast.tw14364793385576792824 tP (w.withFollow "special-get-raises" false) 11 annV 1 999 (S1 (w.withFollow "special-get-raises" false) os) (piecesOf (cut 1 1) topEnv cE p1 topB)) = fun os => some (.next, S2 (w.withFollow "special-get-raises" false) os, cE, p2) := by
  kernel_rfl
theorem g2b (w : World) : (fun os => PySem.W.Fast.tw10110043849684766642 PySem.W.Fast.tw14364793385576792824 tP (w.withFollow "special-get-raises" true) 11 annV 1 999 (S1 (w.withFollow "special-get-raises" true) os) (piecesOf (cut 1 1) topEnv cE p1 topB)) = fun os => some (.next, S2 (w.withFollow "special-get-raises" true) os, cE, p2) := by
  kernel_rfl
end
section
/-- a tree of the top's runs n steps and comes to a -/
noncomputable def RunP {α : Type} (w : World) (n : Nat) (x : Sem α) (s : Shared) (q : Pos) (a : α) (s' : Shared) (q' : Pos) : Prop :=
  ∀ (K : α → Sem Fin) (H : Value → Sem Fin) (gd : Bool → Bool) (lv : List Value → List Value) (N : Nat),
    segRun treeTable tP w 11 annV 1 (N + n) s ⟨x.wrap K H gd lv, cE, q, topB⟩ = segRun treeTable tP w 11 annV 1 N s' ⟨K a, cE, q', topB⟩
section
variable {α β : Type} {w : World} {n m N : Nat} {s s₁ s' : Shared} {q q₁ q' : Pos} {a : α} {b : β}
theorem seg1 {t t₂ : Thread} (he : endAt 1 t = none) (hk : stepOk 11 annV t = true) (hs : step (denote treeTable) tP w s t = .go s' t₂) :
    segRun treeTable tP w 11 annV 1 (N + 1) s t = segRun treeTable tP w 11 annV 1 N s' t₂ := by
  conv => lhs; unfold segRun
  rw [he, hk, hs]
theorem RunP.pure : RunP w 0 (Sem.pure a) s q a s q := fun _ _ _ _ _ => rfl
theorem RunP.bind {x : Sem α} {f : α → Sem β} (h : RunP w n x s q a s₁ q₁) (k : RunP w m (f a) s₁ q₁ b s' q') : RunP w (m + n) (x >>= f) s q b s' q' := by
  intro K H gd lv N
  rw [Sem.bind_eq_wrap', Sem.wrap_wrap, ← Nat.add_assoc]
  exact (h _ _ _ _ _).trans (k _ _ _ _ _)
theorem RunP.keep {x : Sem α} {vs : List Value} (h : RunP w n x s q a s' q') : RunP w n (x.keep vs) s q a s' q' := by
  intro K H gd lv N
  rw [Sem.keep_eq_wrap, Sem.wrap_wrap]
  exact h _ _ _ _ _
theorem RunP.holding {x : Sem α} {vs : List Value} (h : RunP w n x s q a s' q') : RunP w n (holding vs x) s q a s' q' := by
  unfold PySem.holding
  split
  · exact h
  · exact h.keep
theorem RunP.onRaise {x : Sem α} {f : Value → Sem Unit} (h : RunP w n x s q a s' q') : RunP w n (x.onRaise f) s q a s' q' := by
  intro K H gd lv N
  rw [Sem.onRaise_eq_wrap, Sem.wrap_wrap]
  exact h _ _ _ _ _
theorem RunP.load {ad : Addr} {p : Option Value} {k : Obj → Sem α} {o : Obj} (h : s.heap.get? ad = some o) (hk : RunP w n (k o) s q a s' q') : RunP w (n + 1) (.load ad p k) s q a s' q' := by
  intro K H gd lv N
  refine Eq.trans ?_ (hk K H gd lv N)
  obtain ⟨heap, gens, drawn, toks, os⟩ := s
  exact seg1 rfl rfl (by simp only [Sem.wrap, step, h])
theorem RunP.update {ad : Addr} {p : Option Value} {f : Obj → Obj} {k : Unit → Sem α} {o : Obj} (h : s.heap.get? ad = some o) (ha : Nat.ble 11 ad = true)
    (hk : RunP w n (k ()) { s with heap := s.heap.update ad f } q a s' q') : RunP w (n + 1) (.update ad p f k) s q a s' q' := by
  intro K H gd lv N
  refine Eq.trans ?_ (hk K H gd lv N)
  obtain ⟨heap, gens, drawn, toks, os⟩ := s
  refine seg1 rfl ?_ (by simp only [Sem.wrap, step, h, Option.isSome_some, if_true])
  show (true && (Nat.ble 11 ad || _ || _ || _)) = true
  rw [ha]; rfl
theorem RunP.updateMain {p : Option Value} {f : Obj → Obj} {k : Unit → Sem α} {o : Obj} (h : s.heap.get? 3 = some o)
    (hk : RunP w n (k ()) { s with heap := s.heap.update 3 f } q a s' q') : RunP w (n + 1) (.update 3 p f k) s q a s' q' := by
  intro K H gd lv N
  refine Eq.trans ?_ (hk K H gd lv N)
  obtain ⟨heap, gens, drawn, toks, os⟩ := s
  exact seg1 rfl rfl (by simp only [Sem.wrap, step, h, Option.isSome_some, if_true])
theorem RunP.alloc {o : Obj} {k : Addr → Sem α} (hk : RunP w n (k s.heap.objs.size) { s with heap := s.heap.push o } q a s' q') : RunP w (n + 1) (.alloc o k) s q a s' q' := by
  intro K H gd lv N
  refine Eq.trans ?_ (hk K H gd lv N)
  obtain ⟨heap, gens, drawn, toks, os⟩ := s
  exact seg1 rfl rfl rfl
theorem RunP.fresh {k : Tok → Sem α} (hk : RunP w n (k s.toks) { s with toks := s.toks + 1 } q a s' q') : RunP w (n + 1) (.fresh k) s q a s' q' := by
  intro K H gd lv N
  refine Eq.trans ?_ (hk K H gd lv N)
  obtain ⟨heap, gens, drawn, toks, os⟩ := s
  exact seg1 rfl rfl rfl
theorem RunP.rule {t : String} {k : Unit → Sem α} (hk : RunP w n (k ()) s q a s' q') : RunP w (n + 1) (.rule t k) s q a s' q' := by
  intro K H gd lv N
  refine Eq.trans ?_ (hk K H gd lv N)
  obtain ⟨heap, gens, drawn, toks, os⟩ := s
  exact seg1 rfl rfl rfl
theorem RunP.at {p : Pos} {k : Unit → Sem α} (hk : RunP w n (k ()) s p a s' q') : RunP w (n + 1) (.at p k) s q a s' q' := by
  intro K H gd lv N
  refine Eq.trans ?_ (hk K H gd lv N)
  obtain ⟨heap, gens, drawn, toks, os⟩ := s
  exact seg1 rfl rfl rfl
theorem RunP.point {l : List Value} {k : Unit → Sem α} (hk : RunP w n (k ()) s q a s' q') : RunP w (n + 1) (.point l k) s q a s' q' := by
  intro K H gd lv N
  refine Eq.trans ?_ (hk K H gd lv N)
  obtain ⟨heap, gens, drawn, toks, os⟩ := s
  exact seg1 rfl rfl rfl
theorem RunP.ask {k : Setting → Sem α} (hk : RunP w n (k ⟨tP, w.params⟩) s q a s' q') : RunP w (n + 1) (.ask k) s q a s' q' := by
  intro K H gd lv N
  refine Eq.trans ?_ (hk K H gd lv N)
  obtain ⟨heap, gens, drawn, toks, os⟩ := s
  exact seg1 rfl rfl rfl
end
/-! the hash of an int -/
noncomputable def hashK (x : Int) : Int :=
  let h : Int := x.natAbs % (2 ^ 61 - 1 : Nat)
  let h := if x < 0 then -h else h
  if h == -1 then -2 else h
theorem hash_step_of (w : World) (k : Int) (t : Tok) (b : Bool) : ∀ (s : Shared) (q : Pos) (K : Int → Sem Fin) (H : Value → Sem Fin) (gd : Bool → Bool) (lv : List Value → List Value) (N : Nat),
    segRun treeTable tP (w.withFollow "special-get-raises" b) 11 annV 1 (N + 5) s ⟨(pyHash (.int k t)).wrap K H gd lv, cE, q, topB⟩
      = segRun treeTable tP (w.withFollow "special-get-raises" b) 11 annV 1 N { s with toks := s.toks + 1 } ⟨(pyHashByItsType.reduced (hashK k)).wrap K H gd lv, cE, q, topB⟩ := by
  cases b
  · intro s q K H gd lv N
    kernel_rfl
  · intro s q K H gd lv N
    kernel_rfl
end
section
theorem hash_step (w : World) (k : Int) (t : Tok) : ∀ (s : Shared) (q : Pos) (K : Int → Sem Fin) (H : Value → Sem Fin) (gd : Bool → Bool) (lv : List Value → List Value) (N : Nat),
    segRun treeTable tP w 11 annV 1 (N + 5) s ⟨(pyHash (.int k t)).wrap K H gd lv, cE, q, topB⟩
      = segRun treeTable tP w 11 annV 1 N { s with toks := s.toks + 1 } ⟨(pyHashByItsType.reduced (hashK k)).wrap K H gd lv, cE, q, topB⟩ :=
  byRow2 "special-get-raises" (P := fun w => ∀ (s : Shared) (q : Pos) (K : Int → Sem Fin) (H : Value → Sem Fin) (gd : Bool → Bool) (lv : List Value → List Value) (N : Nat),
    segRun treeTable tP w 11 annV 1 (N + 5) s ⟨(pyHash (.int k t)).wrap K H gd lv, cE, q, topB⟩
      = segRun treeTable tP w 11 annV 1 N { s with toks := s.toks + 1 } ⟨(pyHashByItsType.reduced (hashK k)).wrap K H gd lv, cE, q, topB⟩)
    (fun w => hash_step_of w k t false) (fun w => hash_step_of w k t true) w
noncomputable abbrev dictO (es : Array DictEntry) (n : Nat) : Obj := { cls := .type "dict", data := .dict es n }
/-- what the tree does behind its first load -/
noncomputable def behind {α : Type} (x : Sem α) (o : Obj) : Sem α := match x with | .load _ _ k => k o | _ => .unsupported ""
section
variable {α β : Type} {w : World} {n m N : Nat} {s s₁ s' : Shared} {q q₁ q' : Pos} {a : α} {b : β}
theorem run_hash {k : Int} {t : Tok} (hk : hashK k = k) (h0 : 0 ≤ k) (h1 : k < 2000000) : RunP w 5 (pyHash (.int k t)) s q k { s with toks := s.toks + 1 } q := by
  intro K H gd lv N
  rw [hash_step, hk]
  have e : pyHashByItsType.reduced k = Sem.pure k := by
    unfold pyHashByItsType.reduced
    rw [if_pos (by simp only [Bool.and_eq_true, decide_eq_true_eq]; lia), if_neg (by simp only [beq_iff_eq]; lia)]
    rfl
  rw [e]
  rfl
theorem run_entries {d : Addr} {p : Option Value} {es : Array DictEntry} {ep : Nat} (h : s.heap.get? d = some (dictO es ep)) : RunP w 1 (dictEntries d p) s q es s q :=
  RunP.load (k := behind (dictEntries d p)) h (RunP.pure (a := es))
theorem run_epoch {d : Addr} {p : Option Value} {es : Array DictEntry} {ep : Nat} (h : s.heap.get? d = some (dictO es ep)) : RunP w 1 (dictEpoch d p) s q ep s q :=
  RunP.load (k := behind (dictEpoch d p)) h (RunP.pure (a := ep))
theorem run_find {d : Addr} {k : Int} {t : Tok} {es : Array DictEntry} {ep : Nat} (h : s.heap.get? d = some (dictO es ep)) (hp : placesWithHash es.size (fun i => Option.map (fun x => x.hash) es[i]?) k = []) :
    RunP w 1 (dictFind d (.int k t) k) s q none s q := by
  unfold dictFind
  refine RunP.holding ?_
  refine RunP.bind (n := 1) (m := 0) (run_entries h) ?_
  dsimp only
  rw [hp]
  exact RunP.pure
theorem run_push {d : Addr} {p : Option Value} {f : Array DictEntry → Array DictEntry} {es : Array DictEntry} {ep : Nat} {h' : Heap} (h : s.heap.get? d = some (dictO es ep)) (hd : Nat.ble 11 d = true)
    (hu : s.heap.update d (Obj.mapDictKeys f) = h') (h2 : h'.get? d = some (dictO (f es) (ep + 1))) (hsz : (f es).size ≤ sizeLine) :
    RunP w 3 (updateDictKeys d f p) s q () { s with heap := h' } q := by
  unfold updateDictKeys
  refine RunP.bind (n := 1) (m := 2) (RunP.load h RunP.pure) ?_
  dsimp only
  refine RunP.bind (n := 1) (m := 1) (RunP.update h hd (by rw [hu]; exact RunP.pure)) ?_
  unfold lookBehind
  refine RunP.bind (n := 1) (m := 0) (RunP.load h2 RunP.pure) ?_
  have : (dictO (f es) (ep + 1)).data.pastItsLine = none := if_neg (by lia)
  rw [this]
  exact RunP.pure
theorem run_set {d : Addr} {k : Int} {t : Tok} {v : Value} {es : Array DictEntry} {ep : Nat} {h' : Heap} (hk : hashK k = k) (h0 : 0 ≤ k) (h1 : k < 2000000)
    (h : s.heap.get? d = some (dictO es ep)) (hd : Nat.ble 11 d = true) (hp : placesWithHash es.size (fun i => Option.map (fun x => x.hash) es[i]?) k = [])
    (hu : s.heap.update d (Obj.mapDictKeys (·.push ⟨k, .int k t, v⟩)) = h') (h2 : h'.get? d = some (dictO (es.push ⟨k, .int k t, v⟩) (ep + 1))) (hsz : es.size < 1000000) :
    RunP w 10 (dictSet d (.int k t) v) s q () { s with heap := h', toks := s.toks + 1 } q := by
  unfold dictSet
  refine RunP.holding ?_
  refine RunP.bind (n := 5) (m := 5) (run_hash hk h0 h1) ?_
  unfold dictSetHashed
  refine RunP.holding ?_
  refine RunP.bind (n := 1) (m := 4) (run_find h hp) ?_
  dsimp only
  refine RunP.bind (n := 1) (m := 3) (RunP.rule RunP.pure) ?_
  exact run_push (f := (·.push ⟨k, .int k t, v⟩)) h hd hu h2 (by rw [sizeLine_eq]; simp only [Array.size_push]; lia)
theorem run_put {d : Addr} {k : Int} {t : Tok} {v : Value} {es : Array DictEntry} {ep : Nat} {h' : Heap}
    (h : s.heap.get? d = some (dictO es ep)) (hd : Nat.ble 11 d = true) (hp : placesWithHash es.size (fun i => Option.map (fun x => x.hash) es[i]?) k = [])
    (hu : s.heap.update d (Obj.mapDictKeys (·.push ⟨k, .int k t, v⟩)) = h') (h2 : h'.get? d = some (dictO (es.push ⟨k, .int k t, v⟩) (ep + 1))) (hsz : es.size < 1000000) :
    RunP w 4 (dictPut d k (.int k t) v) s q () { s with heap := h' } q := by
  unfold dictPut
  refine RunP.bind (n := 1) (m := 3) (run_find h hp) ?_
  dsimp only
  exact run_push (f := (·.push ⟨k, .int k t, v⟩)) h hd hu h2 (by rw [sizeLine_eq]; simp only [Array.size_push]; lia)
end
end
section
theorem RunP.bind0 {α β : Type} {w : World} {n : Nat} {s s₁ : Shared} {q q₁ : Pos} {a : α} {b : β} {x : Sem α} {f : α → Sem β} (h : RunP w n x s q a s₁ q₁) (k : f a = Sem.pure b) : RunP w n (x >>= f) s q b s₁ q₁ := by
  have : RunP w (0 + n) (x >>= f) s q b s₁ q₁ := RunP.bind h (by rw [k]; exact RunP.pure)
  rwa [Nat.zero_add] at this
noncomputable def valC (p : Pos) (x : Str) : Sem Value := do let v ← mkText x; standAt p; pure v
noncomputable def pairC (p : Pos) (x : Int × Str) : Sem Value × Sem Value := (mkInt x.1, valC p x.2)
theorem places_none {l : List DictEntry} {k : Int} (h : k ∉ l.map (·.hash)) : placesWithHash l.toArray.size (fun i => Option.map (fun x => x.hash) l.toArray[i]?) k = [] := by
  unfold placesWithHash
  rw [List.filter_eq_nil_iff]
  intro i hi
  simp only [List.size_toArray, List.mem_range] at hi
  simp only [List.getElem?_toArray, beq_iff_eq]
  rw [List.getElem?_eq_getElem hi]
  intro e
  apply h
  injection e with e
  exact List.mem_map.mpr ⟨_, List.getElem_mem hi, e⟩
noncomputable def KeysOk (es : List DictEntry) (L : List (Int × Str)) : Prop := (es.map (·.hash) ++ L.map (·.1)).Nodup ∧ ∀ x ∈ L, hashK x.1 = x.1 ∧ 0 ≤ x.1 ∧ x.1 < 2000000
theorem KeysOk.head {es : List DictEntry} {x : Int × Str} {L : List (Int × Str)} (h : KeysOk es (x :: L)) : x.1 ∉ es.map (·.hash) := fun hm =>
  (List.nodup_append.mp h.1).2.2 _ hm _ (List.mem_map.mpr ⟨x, List.mem_cons_self, rfl⟩) rfl
theorem KeysOk.tail {es : List DictEntry} {x : Int × Str} {L : List (Int × Str)} {a b : Value} (h : KeysOk es (x :: L)) : KeysOk (es ++ [⟨x.1, a, b⟩]) L := by
  refine ⟨?_, fun y hy => h.2 y (List.mem_cons_of_mem _ hy)⟩
  have := h.1
  rw [List.map_cons] at this
  rw [List.map_append, List.map_cons, List.map_nil, List.append_assoc]
  exact this
section
variable {w : World}
/-- the loop of a long display's chunk -/
theorem run_pairs (Hf : Obj → Heap) (ad : Addr) (hd : Nat.ble 11 ad = true) (hg : ∀ es n, (Hf (dictO es n)).get? ad = some (dictO es n)) (hu : ∀ es n f, (Hf (dictO es n)).update ad (Obj.mapDictKeys f) = Hf (dictO (f es) (n + 1)))
    (qd : Pos) (g : Array GenState) (dr : Drawn) (os : OsState) : ∀ (L : List (Int × Str)) (l : List DictEntry) (n tk : Nat), KeysOk l L → l.length + L.length < 100000 →
    RunP w (13 * L.length) (forIn (L.map (pairC qd)) PUnit.unit fun x __s =>
                match x with
                | (k, v) => do
                  let kv ← k
                  let vv ← holding [kv] v
                  holding [kv, vv] (dictSet ad kv vv)
                  pure (ForInStep.yield PUnit.unit)) ⟨Hf (dictO l.toArray n), g, dr, tk, os⟩ qd PUnit.unit ⟨Hf (dictO (l ++ b3EntriesFrom tk L).toArray (n + L.length)), g, dr, tk + 3 * L.length, os⟩ qd := by
  intro L
  induction L with
  | nil =>
    intro l n tk _ _
    rw [List.map_nil, List.forIn_nil, show l ++ b3EntriesFrom tk [] = l from List.append_nil l]
    exact RunP.pure
  | cons x L ih =>
    intro l n tk hk hsz
    obtain ⟨k, t⟩ := x
    obtain ⟨h1, h2, h3⟩ := hk.2 _ List.mem_cons_self
    rw [List.length_cons] at hsz
    have hs := ih (l ++ [⟨k, .int k tk, .str t (tk + 1)⟩]) (n + 1) (tk + 3) hk.tail (by rw [List.length_append, List.length_singleton]; lia)
    rw [List.map_cons, List.forIn_cons]
    have e1 : l ++ b3EntriesFrom tk ((k, t) :: L) = l ++ [⟨k, .int k tk, .str t (tk + 1)⟩] ++ b3EntriesFrom (tk + 3) L := by rw [List.append_assoc]; rfl
    have e2 : n + (((k, t) :: L : List (Int × Str))).length = n + 1 + L.length := by rw [List.length_cons]; lia
    have e3 : tk + 3 * (((k, t) :: L : List (Int × Str))).length = tk + 3 + 3 * L.length := by rw [List.length_cons]; lia
    have e4 : 13 * (((k, t) :: L : List (Int × Str))).length = 13 * L.length + 13 := by rw [List.length_cons]; lia
    rw [e1, e2, e3, e4]
    refine RunP.bind (n := 13) (a := ForInStep.yield PUnit.unit) (s₁ := ⟨Hf (dictO (l ++ [(⟨k, .int k tk, .str t (tk + 1)⟩ : DictEntry)]).toArray (n + 1)), g, dr, tk + 3, os⟩) (q₁ := qd) ?_ hs
    show RunP w (12 + 1) (mkInt k >>= fun kv => holding [kv] (valC qd t) >>= fun vv => holding [kv, vv] (dictSet ad kv vv) >>= fun _ => pure (ForInStep.yield PUnit.unit)) _ _ _ _ _
    refine RunP.bind (n := 1) (m := 12) (a := .int k tk) (RunP.fresh RunP.pure) ?_
    refine RunP.bind (n := 2) (m := 10) (a := .str t (tk + 1)) (s₁ := ⟨Hf (dictO l.toArray n), g, dr, tk + 1 + 1, os⟩) (q₁ := qd) (RunP.holding ?_) ?_
    · unfold valC
      exact RunP.bind (n := 1) (m := 1) (a := .str t (tk + 1)) (RunP.fresh RunP.pure) (RunP.bind (n := 1) (m := 0) (RunP.at RunP.pure) RunP.pure)
    refine RunP.bind (n := 10) (m := 0) (a := ()) (RunP.holding (run_set h1 h2 h3 (hg _ _) hd (places_none hk.head) (hu _ _ _) (hg _ _) (by rw [List.size_toArray]; lia))) ?_
    rw [List.push_toArray]
    exact RunP.pure
theorem run_sub (Hf : Obj → Heap) (qd : Pos) (h : Heap) (g : Array GenState) (dr : Drawn) (tk : Nat) (os : OsState) (L : List (Int × Str)) (hd : Nat.ble 11 h.objs.size = true) (hp : h.push (dictO #[] 0) = Hf (dictO #[] 0))
    (hg : ∀ es n, (Hf (dictO es n)).get? h.objs.size = some (dictO es n)) (hu : ∀ es n f, (Hf (dictO es n)).update h.objs.size (Obj.mapDictKeys f) = Hf (dictO (f es) (n + 1)))
    (hk : KeysOk [] L) (h16 : 15 < L.length) (hsz : L.length < 100000) :
    RunP w (13 * L.length + 2) (subDict (L.map (pairC qd))) ⟨h, g, dr, tk, os⟩ qd h.objs.size ⟨Hf (dictO (b3EntriesFrom tk L).toArray L.length), g, dr, tk + 3 * L.length, os⟩ qd := by
  unfold subDict
  refine RunP.bind (n := 1) (m := 13 * L.length + 1) (RunP.alloc RunP.pure) ?_
  dsimp only
  refine RunP.bind0 (a := ()) ?_ rfl
  refine RunP.holding ?_
  rw [if_neg (by rw [List.length_map]; lia)]
  refine RunP.bind (n := 1) (m := 13 * L.length) (RunP.rule RunP.pure) ?_
  refine RunP.bind0 (a := PUnit.unit) ?_ rfl
  rw [hp]
  have := run_pairs (w := w) Hf h.objs.size hd hg hu qd g dr os L [] 0 tk hk (by simpa using hsz)
  rw [List.nil_append, Nat.zero_add] at this
  exact this
end
end
section
/-- entries that a display of ints and texts makes -/
noncomputable def Plain (e : DictEntry) : Prop := ∃ k t v, e = ⟨k, .int k t, v⟩
theorem plain_from (t : Nat) (L : List (Int × Str)) : ∀ e ∈ b3EntriesFrom t L, Plain e := by
  induction L generalizing t with
  | nil => intro e he; cases he
  | cons x L ih =>
    intro e he
    obtain ⟨k, y⟩ := x
    rcases List.mem_cons.mp he with rfl | he
    · exact ⟨_, _, _, rfl⟩
    · exact ih _ e he
theorem from_length (t : Nat) (L : List (Int × Str)) : (b3EntriesFrom t L).length = L.length := by
  induction L generalizing t with
  | nil => rfl
  | cons x L ih => obtain ⟨k, y⟩ := x; simp only [b3EntriesFrom, List.length_cons, ih]
theorem from_hash (t : Nat) (L : List (Int × Str)) : (b3EntriesFrom t L).map (·.hash) = L.map (·.1) := by
  induction L generalizing t with
  | nil => rfl
  | cons x L ih => obtain ⟨k, y⟩ := x; simp only [b3EntriesFrom, List.map_cons, ih]
theorem from_append (L M : List (Int × Str)) : ∀ t, b3EntriesFrom t (L ++ M) = b3EntriesFrom t L ++ b3EntriesFrom (t + 3 * L.length) M := by
  induction L with
  | nil => intro t; rfl
  | cons x L ih =>
    intro t
    obtain ⟨k, y⟩ := x
    rw [List.cons_append]
    simp only [b3EntriesFrom, ih, List.length_cons, List.cons_append]
    rw [show t + 3 + 3 * L.length = t + 3 * (L.length + 1) by lia]
section
variable {w : World}
theorem run_mergeLoop (Hm : Obj → Heap) (d a : Addr) (xs : Array DictEntry) (xn : Nat) (hd : Nat.ble 11 d = true) (hg : ∀ es n, (Hm (dictO es n)).get? d = some (dictO es n)) (ha : ∀ o, (Hm o).get? a = some (dictO xs xn))
    (hu : ∀ es n f, (Hm (dictO es n)).update d (Obj.mapDictKeys f) = Hm (dictO (f es) (n + 1))) (q : Pos) (g : Array GenState) (dr : Drawn) (tk : Nat) (os : OsState) (F : Nat → PUnit → Sem (ForInStep PUnit))
    (hF : ∀ i u, F i u = (dictEntries a >>= fun es => match es[i]? with
      | some e => (holding [e.key, e.val] (dictPut d e.hash e.key e.val) >>= fun _ => dictEpoch a >>= fun ep => if (ep != xn) = true then ((unsupported "dict.changed-during-merge" : Sem Unit) >>= fun _ => pure (.yield PUnit.unit)) else pure (.yield PUnit.unit))
      | none => ((unsupported "dict.changed-during-merge" : Sem Unit) >>= fun _ => pure (.yield PUnit.unit)))) :
    ∀ (suf pre : List DictEntry) (l : List DictEntry) (n : Nat), xs = (pre ++ suf).toArray → (∀ e ∈ suf, Plain e) → (l.map (·.hash) ++ suf.map (·.hash)).Nodup → l.length + suf.length < 100000 →
    RunP w (6 * suf.length) (forIn (List.range' pre.length suf.length) PUnit.unit F) ⟨Hm (dictO l.toArray n), g, dr, tk, os⟩ q PUnit.unit ⟨Hm (dictO (l ++ suf).toArray (n + suf.length)), g, dr, tk, os⟩ q := by
  intro suf
  induction suf with
  | nil =>
    intro pre l n _ _ _ _
    rw [show List.range' pre.length ([] : List DictEntry).length = [] from rfl, List.forIn_nil, List.append_nil]
    exact RunP.pure
  | cons e suf ih =>
    intro pre l n hx hp hn hsz
    obtain ⟨k, t, v, rfl⟩ := hp e List.mem_cons_self
    rw [List.length_cons] at hsz
    have hk : k ∉ l.map (·.hash) := fun hm => (List.nodup_append.mp hn).2.2 _ hm _ (List.mem_map.mpr ⟨_, List.mem_cons_self, rfl⟩) rfl
    have hs := ih (pre ++ [⟨k, .int k t, v⟩]) (l ++ [⟨k, .int k t, v⟩]) (n + 1) (by rw [hx, List.append_assoc]; rfl) (fun y hy => hp y (List.mem_cons_of_mem _ hy)) (by
      rw [List.map_append, List.map_cons, List.map_nil, List.append_assoc]; exact hn) (by rw [List.length_append, List.length_singleton]; lia)
    rw [List.length_append, List.length_singleton] at hs
    rw [List.length_cons, List.range'_succ, List.forIn_cons]
    have e1 : l ++ (⟨k, .int k t, v⟩ :: suf : List DictEntry) = l ++ [⟨k, .int k t, v⟩] ++ suf := by rw [List.append_assoc]; rfl
    rw [e1, show n + (suf.length + 1) = n + 1 + suf.length by lia, show 6 * (suf.length + 1) = 6 * suf.length + 6 by lia]
    refine RunP.bind (n := 6) (a := ForInStep.yield PUnit.unit) (s₁ := ⟨Hm (dictO (l ++ [(⟨k, .int k t, v⟩ : DictEntry)]).toArray (n + 1)), g, dr, tk, os⟩) (q₁ := q) ?_ hs
    rw [hF]
    refine RunP.bind (n := 1) (m := 5) (run_entries (ha _)) ?_
    have hi : xs[pre.length]? = some ⟨k, .int k t, v⟩ := by rw [hx]; simp
    rw [hi]
    dsimp only
    refine RunP.bind (n := 4) (m := 1) (a := ()) (RunP.holding (run_put (hg _ _) hd (places_none hk) (hu _ _ _) (hg _ _) (by rw [List.size_toArray]; lia))) ?_
    refine RunP.bind (n := 1) (m := 0) (run_epoch (ha _)) ?_
    rw [if_neg (by simp)]
    rw [List.push_toArray]
    exact RunP.pure
noncomputable def partOf {α : Type} (x : Sem α) : Option Value := match x with | .load _ p _ => p | _ => none
theorem iter_load (a : Addr) : specialOf (.ref a) (Str.ofString "__iter__") = .load a (partOf (specialOf (.ref a) (Str.ofString "__iter__"))) (behind (specialOf (.ref a) (Str.ofString "__iter__"))) := by kernel_rfl
theorem iter_dict (a : Addr) (es : Array DictEntry) (n : Nat) : behind (specialOf (.ref a) (Str.ofString "__iter__")) (dictO es n) = Sem.pure (some (.builtin "dict.__iter__")) := by kernel_rfl
theorem isi_load (a : Addr) : isInstance (.ref a) (.type "dict") = .load a (partOf (isInstance (.ref a) (.type "dict"))) (behind (isInstance (.ref a) (.type "dict"))) := by kernel_rfl
theorem isi_dict (a : Addr) (es : Array DictEntry) (n : Nat) : behind (isInstance (.ref a) (.type "dict")) (dictO es n) = Sem.pure true := by kernel_rfl
theorem run_merge (Hm : Obj → Heap) (d a : Addr) (xs : List DictEntry) (xn : Nat) (hd : Nat.ble 11 d = true) (hs : (a == sysModules) = false) (hg : ∀ es n, (Hm (dictO es n)).get? d = some (dictO es n)) (ha : ∀ o, (Hm o).get? a = some (dictO xs.toArray xn))
    (hu : ∀ es n f, (Hm (dictO es n)).update d (Obj.mapDictKeys f) = Hm (dictO (f es) (n + 1))) (q : Pos) (g : Array GenState) (dr : Drawn) (tk : Nat) (os : OsState) (l : List DictEntry) (n : Nat)
    (hl : l ≠ []) (hp : ∀ e ∈ xs, Plain e) (hn : (l.map (·.hash) ++ xs.map (·.hash)).Nodup) (hsz : l.length + xs.length < 100000) :
    RunP w (6 * xs.length + 5) (mergeMapping d (.ref a) false) ⟨Hm (dictO l.toArray n), g, dr, tk, os⟩ q () ⟨Hm (dictO (l ++ xs).toArray (n + xs.length)), g, dr, tk, os⟩ q := by
  unfold mergeMapping
  refine RunP.bind (n := 1) (m := 6 * xs.length + 4) (a := true) (by rw [isi_load]; exact RunP.load (ha _) (by rw [isi_dict]; exact RunP.pure)) ?_
  dsimp only
  rw [if_pos rfl]
  refine RunP.bind (n := 1) (m := 6 * xs.length + 3) (a := some (.builtin "dict.__iter__")) (by rw [iter_load]; exact RunP.load (ha _) (by rw [iter_dict]; exact RunP.pure)) ?_
  refine RunP.bind (n := 0) (m := 6 * xs.length + 3) (a := true) (s₁ := ⟨Hm (dictO l.toArray n), g, dr, tk, os⟩) (q₁ := q) ?_ ?_
  · have e : (some (Value.builtin "dict.__iter__") == some (Value.builtin "dict.__iter__")) = true := by decide +kernel
    rw [e]; exact RunP.pure
  dsimp only
  rw [hs, if_neg Bool.false_ne_true]
  refine RunP.bind (n := 1) (m := 6 * xs.length + 2) (run_entries (hg _ _)) ?_
  rw [if_neg (by cases l with | nil => exact absurd rfl hl | cons => simp)]
  refine RunP.bind (n := 1) (m := 6 * xs.length + 1) (run_entries (ha _)) ?_
  refine RunP.bind (n := 1) (m := 6 * xs.length) (run_epoch (ha _)) ?_
  refine RunP.bind0 (a := PUnit.unit) ?_ rfl
  rw [List.size_toArray, List.range_eq_range']
  refine run_mergeLoop Hm d a xs.toArray xn hd hg ha hu q g dr tk os _ ?_ xs [] l n rfl hp hn hsz
  intro i u
  refine congrArg (dictEntries a >>= ·) (funext fun es => ?_)
  cases es[i]? <;> rfl
end
end
section
/-- the heap amid the display: the main dict at 33, the chunks' dicts behind it -/
noncomputable def hp (pre : List Obj) (D : Obj) (subs : List Obj) : Heap := ⟨(pre ++ D :: subs).toArray, lif⟩
section
variable {pre : List Obj} {D : Obj} {subs : List Obj} {es : Array DictEntry} {n : Nat}
theorem alive_dict {h : Heap} {a : Addr} (e : h.objs[a]? = some (dictO es n)) : h.get? a = some (dictO es n) := by
  unfold Heap.get?; rw [e]
theorem hp_main (hl : pre.length = 33) : (hp pre (dictO es n) subs).get? 33 = some (dictO es n) := by
  refine alive_dict ?_
  unfold hp
  rw [List.getElem?_toArray, ← hl, List.getElem?_append_right (Nat.le_refl _), Nat.sub_self]
  rfl
theorem hp_last (hl : pre.length = 33) : (hp pre D (subs ++ [dictO es n])).get? (34 + subs.length : Nat) = some (dictO es n) := by
  refine alive_dict ?_
  unfold hp
  rw [List.getElem?_toArray, List.getElem?_append_right (by lia), show 34 + subs.length - pre.length = subs.length + 1 by lia, List.getElem?_cons_succ, List.getElem?_append_right (Nat.le_refl _), Nat.sub_self]
  rfl
theorem modify_at {l r : List Obj} {o : Obj} (f : Obj → Obj) : (l ++ o :: r).toArray.modify l.length f = (l ++ f o :: r).toArray := by
  apply Array.ext_getElem?
  intro i
  rw [Array.getElem?_modify, List.getElem?_toArray, List.getElem?_toArray]
  by_cases h : l.length = i
  · subst h; simp
  · rw [if_neg h]
    by_cases h2 : i < l.length
    · rw [List.getElem?_append_left h2, List.getElem?_append_left h2]
    · rw [List.getElem?_append_right (Nat.le_of_not_lt h2), List.getElem?_append_right (Nat.le_of_not_lt h2)]
      obtain ⟨j, e⟩ : ∃ j, i - l.length = j + 1 := ⟨i - l.length - 1, (Nat.sub_add_cancel (Nat.sub_pos_of_lt (Nat.lt_of_le_of_ne (Nat.le_of_not_lt h2) h))).symm⟩
      rw [e, List.getElem?_cons_succ, List.getElem?_cons_succ]
theorem hp_updMain (hl : pre.length = 33) (f : Obj → Obj) : (hp pre D subs).update 33 f = hp pre (f D) subs := by
  show Heap.mk _ _ = Heap.mk _ _
  rw [← hl, modify_at]
theorem hp_updLast (hl : pre.length = 33) (o : Obj) (f : Obj → Obj) : (hp pre D (subs ++ [o])).update (34 + subs.length : Nat) f = hp pre D (subs ++ [f o]) := by
  show Heap.mk _ _ = Heap.mk _ _
  have e : pre ++ D :: (subs ++ [o]) = (pre ++ D :: subs) ++ o :: [] := by simp
  have e2 : pre ++ D :: (subs ++ [f o]) = (pre ++ D :: subs) ++ f o :: [] := by simp
  have e3 : 34 + subs.length = (pre ++ D :: subs).length := by simp only [List.length_append, List.length_cons]; lia
  rw [e, e2, e3, modify_at]
theorem hp_push (o : Obj) : (hp pre D subs).push o = hp pre D (subs ++ [o]) := by
  show Heap.mk _ _ = Heap.mk _ _
  rw [List.push_toArray]
  simp
theorem hp_size (hl : pre.length = 33) : (hp pre D subs).objs.size = 34 + subs.length := by
  show (pre ++ D :: subs).toArray.size = _
  rw [List.size_toArray, List.length_append, List.length_cons]; lia
end
noncomputable def itemC (p : Pos) (x : Int × Str) : Option (Sem Value) × Sem Value := (some (mkInt x.1), valC p x.2)
/-- a display's first flush | the later ones -/
noncomputable def flushN (run : List (Sem Value × Sem Value)) : Sem (Option Addr) := subDict run >>= fun d => pure (some d)
noncomputable def flushS (R : Addr → Value → Sem Unit) (d : Addr) (run : List (Sem Value × Sem Value)) : Sem (Option Addr) :=
  holding [.ref d] (subDict run) >>= fun sub => (holding [.ref d, .ref sub] (mergeMapping d (.ref sub) false)).onRaise (R d) >>= fun _ => pure (some d)
noncomputable abbrev StC := Option Addr × List (Sem Value × Sem Value)
structure Disp (R : Addr → Value → Sem Unit) (F : Option (Sem Value) × Sem Value → StC → Sem (ForInStep StC)) : Prop where
  acc : ∀ k v main run, ((run ++ [(k, v)]).length == 17) = false → F (some k, v) (main, run) = Sem.pure (.yield (main, run ++ [(k, v)]))
  first : ∀ k v run, ((run ++ [(k, v)]).length == 17) = true → F (some k, v) (none, run) = (flushN (run ++ [(k, v)]) >>= fun m => pure (.yield (m, [])))
  later : ∀ k v d run, ((run ++ [(k, v)]).length == 17) = true → F (some k, v) (some d, run) = (flushS R d (run ++ [(k, v)]) >>= fun m => pure (.yield (m, [])))
noncomputable def subsF : Nat → Nat → List (Int × Str) → List Obj
  | 0, _, _ => []
  | m + 1, t, L => dictO (b3EntriesFrom t (L.take 17)).toArray 17 :: subsF m (t + 51) (L.drop 17)
section
variable {w : World} {R : Addr → Value → Sem Unit} {F : Option (Sem Value) × Sem Value → StC → Sem (ForInStep StC)}
theorem Disp.gather (D : Disp R F) {q : Pos} {main : Option Addr} {rest : List (Option (Sem Value) × Sem Value)} : ∀ (C : List (Int × Str)) (run : List (Sem Value × Sem Value)), run.length + C.length < 17 →
    forIn (C.map (itemC q) ++ rest) (main, run) F = forIn rest (main, run ++ C.map (pairC q)) F := by
  intro C
  induction C with
  | nil => intro run _; rw [List.map_nil, List.map_nil, List.nil_append, List.append_nil]
  | cons x C ih =>
    intro run h
    rw [List.length_cons] at h
    rw [List.map_cons, List.cons_append, List.forIn_cons]
    show (F (some (mkInt x.1), valC q x.2) (main, run) >>= _) = _
    rw [D.acc _ _ _ _ (by rw [List.length_append, List.length_singleton, beq_eq_false_iff_ne]; lia)]
    show forIn (C.map (itemC q) ++ rest) (main, run ++ [(mkInt x.1, valC q x.2)]) F = _
    rw [ih _ (by rw [List.length_append, List.length_singleton]; lia), List.map_cons, List.append_assoc]
    rfl
theorem keys_nil {L : List (Int × Str)} (hn : (L.map (·.1)).Nodup) (hx : ∀ x ∈ L, hashK x.1 = x.1 ∧ 0 ≤ x.1 ∧ x.1 < 2000000) : KeysOk [] L := ⟨hn, hx⟩
theorem run_flushS {pre : List Obj} (hl : pre.length = 33) (qd : Pos) (g : Array GenState) (dr : Drawn) (os : OsState) (subs : List Obj) (C : List (Int × Str)) (tk : Nat) (l : List DictEntry) (hC : 15 < C.length) (hC2 : C.length < 1000) (hdone : l.length < 2000) (h0 : l ≠ [])
    (hk : KeysOk l C) :
    RunP w (6 * C.length + 5 + (13 * C.length + 2)) (flushS R 33 (C.map (pairC qd))) ⟨hp pre (dictO l.toArray l.length) subs, g, dr, tk, os⟩ qd (some 33)
      ⟨hp pre (dictO (l ++ b3EntriesFrom tk C).toArray (l.length + C.length)) (subs ++ [dictO (b3EntriesFrom tk C).toArray C.length]), g, dr, tk + 3 * C.length, os⟩ qd := by
  unfold flushS
  have hsz := hp_size (D := dictO l.toArray l.length) (subs := subs) hl
  have hn := List.nodup_append.mp hk.1
  refine RunP.bind (n := 13 * C.length + 2) (m := 6 * C.length + 5) (a := (34 + subs.length : Nat)) (q₁ := qd) (s₁ := ⟨hp pre (dictO l.toArray l.length) (subs ++ [dictO (b3EntriesFrom tk C).toArray C.length]), g, dr, tk + 3 * C.length, os⟩) (RunP.holding ?_) ?_
  · have := run_sub (w := w) (fun o => hp pre (dictO l.toArray l.length) (subs ++ [o])) qd (hp pre (dictO l.toArray l.length) subs) g dr tk os C (by rw [hsz]; exact Nat.ble_eq_true_of_le (Nat.le_trans (by lia) (Nat.le_add_right 34 _))) (hp_push _)
      (fun es n => by rw [hsz]; exact hp_last hl) (fun es n f => by rw [hsz]; exact hp_updLast hl _ _) (keys_nil hn.2.1 hk.2) hC (by lia)
    rw [hsz] at this
    exact this
  · refine RunP.bind0 (a := ()) (RunP.onRaise (RunP.holding ?_)) rfl
    have := run_merge (w := w) (fun o => hp pre o (subs ++ [dictO (b3EntriesFrom tk C).toArray C.length])) 33 (34 + subs.length : Nat) (b3EntriesFrom tk C) C.length rfl (beq_eq_false_iff_ne.mpr (by show 34 + subs.length ≠ 1; lia)) (fun es n => hp_main hl) (fun o => hp_last hl) (fun es n f => hp_updMain hl _) qd g dr (tk + 3 * C.length) os l l.length h0 (plain_from _ _)
      (by rw [from_hash]; exact hk.1) (by rw [from_length]; lia)
    rw [from_length] at this
    exact this
theorem run_chunk (D : Disp R F) {pre : List Obj} (hl : pre.length = 33) (qd : Pos) (g : Array GenState) (dr : Drawn) (os : OsState) (subs : List Obj) (C : List (Int × Str)) (rest : List (Option (Sem Value) × Sem Value)) (tk : Nat) (l : List DictEntry) (hC : C.length = 17) (hdone : l.length < 2000) (h0 : l ≠ [])
    (hk : KeysOk l C) {m : Nat} {b : StC} {s' : Shared} {q' : Pos}
    (h : RunP w m (forIn rest (some 33, []) F) ⟨hp pre (dictO (l ++ b3EntriesFrom tk C).toArray (l.length + 17)) (subs ++ [dictO (b3EntriesFrom tk C).toArray 17]), g, dr, tk + 51, os⟩ qd b s' q') :
    RunP w (m + 330) (forIn (C.map (itemC qd) ++ rest) (some 33, []) F) ⟨hp pre (dictO l.toArray l.length) subs, g, dr, tk, os⟩ qd b s' q' := by
  obtain ⟨A, x, rfl⟩ : ∃ A x, C = A ++ [x] := ⟨C.dropLast, C.getLast (by intro e; rw [e] at hC; cases hC), (List.dropLast_concat_getLast _).symm⟩
  have hA : A.length = 16 := by rw [List.length_append, List.length_singleton] at hC; lia
  have hf := run_flushS (w := w) (R := R) hl qd g dr os subs (A ++ [x]) tk l (by lia) (by lia) hdone h0 hk
  rw [hC] at hf
  rw [List.map_append, List.append_assoc, D.gather (q := qd) A [] (by rw [hA]; decide), List.nil_append]
  show RunP w (m + 330) (forIn (itemC qd x :: rest) _ F) _ _ _ _ _
  rw [List.forIn_cons]
  refine RunP.bind (n := 330) (m := m) (a := ForInStep.yield (some 33, [])) (q₁ := qd) (s₁ := ⟨hp pre (dictO (l ++ b3EntriesFrom tk (A ++ [x])).toArray (l.length + 17)) (subs ++ [dictO (b3EntriesFrom tk (A ++ [x])).toArray 17]), g, dr, tk + 51, os⟩) ?_ h
  show RunP w 330 (F (some (mkInt x.1), valC qd x.2) (some 33, A.map (pairC qd))) _ _ _ _ _
  rw [D.later _ _ _ _ (by rw [List.length_append, List.length_map, hA]; rfl)]
  refine RunP.bind0 (a := some 33) ?_ rfl
  have e : A.map (pairC qd) ++ [(mkInt x.1, valC qd x.2)] = (A ++ [x]).map (pairC qd) := by rw [List.map_append]; rfl
  rw [e]
  exact hf
theorem run_chunks (D : Disp R F) {pre : List Obj} (hl : pre.length = 33) (qd : Pos) (g : Array GenState) (dr : Drawn) (os : OsState) (rest : List (Option (Sem Value) × Sem Value)) {b : StC} {s' : Shared} {q' : Pos} {n : Nat} :
    ∀ (m : Nat) (L : List (Int × Str)) (subs : List Obj) (tk : Nat) (l : List DictEntry), L.length = 17 * m → l.length + L.length < 2000 → l ≠ [] → KeysOk l L →
    RunP w n (forIn rest (some 33, []) F) ⟨hp pre (dictO (l ++ b3EntriesFrom tk L).toArray (l.length + L.length)) (subs ++ subsF m tk L), g, dr, tk + 3 * L.length, os⟩ qd b s' q' →
    RunP w (n + 330 * m) (forIn (L.map (itemC qd) ++ rest) (some 33, []) F) ⟨hp pre (dictO l.toArray l.length) subs, g, dr, tk, os⟩ qd b s' q' := by
  intro m
  induction m with
  | zero =>
    intro L subs tk l hL _ _ _ h
    obtain rfl : L = [] := List.length_eq_zero_iff.mp hL
    have e1 : l ++ b3EntriesFrom tk [] = l := List.append_nil l
    have e2 : subs ++ subsF 0 tk [] = subs := List.append_nil subs
    rw [e1, e2] at h
    exact h
  | succ m ih =>
    intro L subs tk l hL hsz h0 hk h
    have hC : (L.take 17).length = 17 := by rw [List.length_take]; lia
    have hR : (L.drop 17).length = 17 * m := by rw [List.length_drop]; lia
    have eL : L.take 17 ++ L.drop 17 = L := List.take_append_drop 17 L
    have hkC : KeysOk l (L.take 17) := ⟨by
      have := hk.1
      rw [← eL, List.map_append, ← List.append_assoc] at this
      exact (List.nodup_append.mp this).1, fun x hx => hk.2 x (List.mem_of_mem_take hx)⟩
    have hkR : KeysOk (l ++ b3EntriesFrom tk (L.take 17)) (L.drop 17) := ⟨by
      have := hk.1
      rw [← eL, List.map_append, ← List.append_assoc] at this
      rw [List.map_append, from_hash]
      exact this, fun x hx => hk.2 x (List.mem_of_mem_drop hx)⟩
    have e0 : (L.map (itemC qd) ++ rest) = (L.take 17).map (itemC qd) ++ ((L.drop 17).map (itemC qd) ++ rest) := by rw [← List.append_assoc, ← List.map_append, eL]
    rw [e0, show n + 330 * (m + 1) = n + 330 * m + 330 by lia]
    refine run_chunk D hl qd g dr os subs (L.take 17) _ tk l hC (by lia) h0 hkC ?_
    have hlen : (l ++ b3EntriesFrom tk (L.take 17)).length = l.length + 17 := by rw [List.length_append, from_length, hC]
    have := ih (L.drop 17) (subs ++ [dictO (b3EntriesFrom tk (L.take 17)).toArray 17]) (tk + 51) (l ++ b3EntriesFrom tk (L.take 17)) hR (by rw [hlen, hR]; lia) (by
      intro e; have := congrArg List.length e; rw [hlen] at this; cases this) hkR ?_
    · rw [hlen] at this
      exact this
    · have f1 : l ++ b3EntriesFrom tk (L.take 17) ++ b3EntriesFrom (tk + 51) (L.drop 17) = l ++ b3EntriesFrom tk L := by
        rw [List.append_assoc]
        have := from_append (L.take 17) (L.drop 17) tk
        rw [eL, hC] at this
        rw [this]
      have f2 : subs ++ [dictO (b3EntriesFrom tk (L.take 17)).toArray 17] ++ subsF m (tk + 51) (L.drop 17) = subs ++ subsF (m + 1) tk L := by rw [List.append_assoc]; rfl
      rw [f1, f2, hlen, hR, show l.length + 17 + 17 * m = l.length + L.length by lia, show tk + 51 + 3 * (17 * m) = tk + 3 * L.length by lia]
      exact h
end
end
section
theorem RunP.cast {α : Type} {w : World} {n m : Nat} {x : Sem α} {s s' : Shared} {q q' : Pos} {a : α} (h : RunP w n x s q a s' q') (e : n = m) : RunP w m x s q a s' q' := e ▸ h
noncomputable def valsOf (t : Nat) : List (Int × Str) → List (Value × Value)
  | [] => []
  | (k, s) :: r => (.int k t, .str s (t + 1)) :: valsOf (t + 2) r
theorem plain_end (L : List (Int × Str)) : ∀ t, ∀ e ∈ b3EntriesEnd t L, Plain e := by
  induction L with
  | nil => intro t e he; cases he
  | cons x L ih =>
    intro t e he
    obtain ⟨k, y⟩ := x
    rcases List.mem_cons.mp he with rfl | he
    · exact ⟨_, _, _, rfl⟩
    · exact ih _ e he
theorem end_length (L : List (Int × Str)) : ∀ t, (b3EntriesEnd t L).length = L.length := by
  induction L with
  | nil => intro t; rfl
  | cons x L ih => intro t; obtain ⟨k, y⟩ := x; simp only [b3EntriesEnd, List.length_cons, ih]
theorem end_hash (L : List (Int × Str)) : ∀ t, (b3EntriesEnd t L).map (·.hash) = L.map (·.1) := by
  induction L with
  | nil => intro t; rfl
  | cons x L ih => intro t; obtain ⟨k, y⟩ := x; simp only [b3EntriesEnd, List.map_cons, ih]
section
variable {w : World}
theorem run_evalPairs (h : Heap) (qd : Pos) (g : Array GenState) (dr : Drawn) (os : OsState) : ∀ (L : List (Int × Str)) (tk : Nat),
    RunP w (3 * L.length) (evalPairs (L.map (pairC qd))) ⟨h, g, dr, tk, os⟩ qd (valsOf tk L) ⟨h, g, dr, tk + 2 * L.length, os⟩ qd := by
  intro L
  induction L with
  | nil => intro tk; exact RunP.pure
  | cons x L ih =>
    intro tk
    obtain ⟨k, t⟩ := x
    rw [List.length_cons, show 3 * (L.length + 1) = 3 * L.length + 2 + 1 by lia, show tk + 2 * (L.length + 1) = tk + 2 + 2 * L.length by lia]
    show RunP w (3 * L.length + 2 + 1) (mkInt k >>= fun kv => holding [kv] (valC qd t) >>= fun vv => holding [kv, vv] (evalPairs (L.map (pairC qd))) >>= fun r => pure ((kv, vv) :: r)) _ _ _ _ _
    refine RunP.bind (n := 1) (m := 3 * L.length + 2) (a := .int k tk) (RunP.fresh RunP.pure) ?_
    refine RunP.bind (n := 2) (m := 3 * L.length) (a := .str t (tk + 1)) (s₁ := ⟨h, g, dr, tk + 1 + 1, os⟩) (q₁ := qd) (RunP.holding ?_) ?_
    · unfold valC
      exact RunP.bind (n := 1) (m := 1) (a := .str t (tk + 1)) (RunP.fresh RunP.pure) (RunP.bind (n := 1) (m := 0) (RunP.at RunP.pure) RunP.pure)
    exact RunP.bind0 (a := valsOf (tk + 2) L) (RunP.holding (ih (tk + 2))) rfl
theorem run_sets (Hf : Obj → Heap) (ad : Addr) (hd : Nat.ble 11 ad = true) (hg : ∀ es n, (Hf (dictO es n)).get? ad = some (dictO es n)) (hu : ∀ es n f, (Hf (dictO es n)).update ad (Obj.mapDictKeys f) = Hf (dictO (f es) (n + 1)))
    (qd : Pos) (g : Array GenState) (dr : Drawn) (os : OsState) : ∀ (L : List (Int × Str)) (l : List DictEntry) (n t tk : Nat), KeysOk l L → l.length + L.length < 100000 →
    RunP w (10 * L.length) (forIn (valsOf t L) PUnit.unit fun x __s =>
                    match x with
                    | (k, v) => do
                      dictSet ad k v
                      pure (ForInStep.yield PUnit.unit)) ⟨Hf (dictO l.toArray n), g, dr, tk, os⟩ qd PUnit.unit ⟨Hf (dictO (l ++ b3EntriesEnd t L).toArray (n + L.length)), g, dr, tk + L.length, os⟩ qd := by
  intro L
  induction L with
  | nil =>
    intro l n t tk _ _
    rw [show valsOf t [] = [] from rfl, List.forIn_nil, show l ++ b3EntriesEnd t [] = l from List.append_nil l]
    exact RunP.pure
  | cons x L ih =>
    intro l n t tk hk hsz
    obtain ⟨k, y⟩ := x
    obtain ⟨h1, h2, h3⟩ := hk.2 _ List.mem_cons_self
    rw [List.length_cons] at hsz
    have hs := ih (l ++ [⟨k, .int k t, .str y (t + 1)⟩]) (n + 1) (t + 2) (tk + 1) hk.tail (by rw [List.length_append, List.length_singleton]; lia)
    rw [show valsOf t ((k, y) :: L) = (.int k t, .str y (t + 1)) :: valsOf (t + 2) L from rfl, List.forIn_cons]
    have e1 : l ++ b3EntriesEnd t ((k, y) :: L) = l ++ [⟨k, .int k t, .str y (t + 1)⟩] ++ b3EntriesEnd (t + 2) L := by rw [List.append_assoc]; rfl
    rw [e1, List.length_cons, show n + (L.length + 1) = n + 1 + L.length by lia, show tk + (L.length + 1) = tk + 1 + L.length by lia, show 10 * (L.length + 1) = 10 * L.length + 10 by lia]
    refine RunP.bind (n := 10) (a := ForInStep.yield PUnit.unit) (s₁ := ⟨Hf (dictO (l ++ [(⟨k, .int k t, .str y (t + 1)⟩ : DictEntry)]).toArray (n + 1)), g, dr, tk + 1, os⟩) (q₁ := qd) ?_ hs
    show RunP w 10 (dictSet ad (.int k t) (.str y (t + 1)) >>= fun _ => pure (ForInStep.yield PUnit.unit)) _ _ _ _ _
    refine RunP.bind0 (a := ()) ?_ rfl
    have := run_set (w := w) (s := ⟨Hf (dictO l.toArray n), g, dr, tk, os⟩) (q := qd) (t := t) (v := .str y (t + 1)) h1 h2 h3 (hg _ _) hd (places_none hk.head) (hu _ _ _) (hg _ _) (by rw [List.size_toArray]; lia)
    rw [List.push_toArray] at this
    exact this
theorem run_subShort (Hf : Obj → Heap) (qd : Pos) (h : Heap) (g : Array GenState) (dr : Drawn) (tk : Nat) (os : OsState) (L : List (Int × Str)) (hd : Nat.ble 11 h.objs.size = true) (hp : h.push (dictO #[] 0) = Hf (dictO #[] 0))
    (hg : ∀ es n, (Hf (dictO es n)).get? h.objs.size = some (dictO es n)) (hu : ∀ es n f, (Hf (dictO es n)).update h.objs.size (Obj.mapDictKeys f) = Hf (dictO (f es) (n + 1)))
    (hk : KeysOk [] L) (h16 : L.length ≤ 15) :
    RunP w (13 * L.length + 1) (subDict (L.map (pairC qd))) ⟨h, g, dr, tk, os⟩ qd h.objs.size ⟨Hf (dictO (b3EntriesEnd tk L).toArray L.length), g, dr, tk + 3 * L.length, os⟩ qd := by
  unfold subDict
  refine RunP.bind (n := 1) (m := 13 * L.length) (RunP.alloc RunP.pure) ?_
  dsimp only
  refine RunP.bind0 (a := ()) ?_ rfl
  refine RunP.holding ?_
  rw [if_pos (by rw [List.length_map]; exact h16)]
  rw [hp]
  refine RunP.cast (RunP.bind (n := 3 * L.length) (m := 10 * L.length) (a := valsOf tk L) (q₁ := qd) (s₁ := ⟨Hf (dictO #[] 0), g, dr, tk + 2 * L.length, os⟩) (run_evalPairs _ _ _ _ _ L tk) ?_) (by lia)
  refine RunP.holding ?_
  refine RunP.bind0 (a := PUnit.unit) ?_ rfl
  have := run_sets (w := w) Hf h.objs.size hd hg hu qd g dr os L [] 0 tk (tk + 2 * L.length) hk (by rw [List.length_nil]; lia)
  rw [List.nil_append, Nat.zero_add, show tk + 2 * L.length + L.length = tk + 3 * L.length by lia] at this
  exact this
end
end
section
noncomputable def letGoR (d : Addr) (x : Value) : Sem Unit := do
  let _ ← holding [Value.ref d, x] (runValue (Code.builtin "proto.let_go" { }))
section
variable {w : World} {R : Addr → Value → Sem Unit} {F : Option (Sem Value) × Sem Value → StC → Sem (ForInStep StC)}
theorem run_flushE {pre : List Obj} (hl : pre.length = 33) (qd : Pos) (g : Array GenState) (dr : Drawn) (os : OsState) (subs : List Obj) (C : List (Int × Str)) (tk : Nat) (l : List DictEntry) (hC : C.length ≤ 15) (hdone : l.length < 2000) (h0 : l ≠ [])
    (hk : KeysOk l C) :
    RunP w (6 * C.length + 5 + (13 * C.length + 1)) (flushS R 33 (C.map (pairC qd))) ⟨hp pre (dictO l.toArray l.length) subs, g, dr, tk, os⟩ qd (some 33)
      ⟨hp pre (dictO (l ++ b3EntriesEnd tk C).toArray (l.length + C.length)) (subs ++ [dictO (b3EntriesEnd tk C).toArray C.length]), g, dr, tk + 3 * C.length, os⟩ qd := by
  unfold flushS
  have hsz := hp_size (D := dictO l.toArray l.length) (subs := subs) hl
  have hn := List.nodup_append.mp hk.1
  refine RunP.bind (n := 13 * C.length + 1) (m := 6 * C.length + 5) (a := (34 + subs.length : Nat)) (q₁ := qd) (s₁ := ⟨hp pre (dictO l.toArray l.length) (subs ++ [dictO (b3EntriesEnd tk C).toArray C.length]), g, dr, tk + 3 * C.length, os⟩) (RunP.holding ?_) ?_
  · have := run_subShort (w := w) (fun o => hp pre (dictO l.toArray l.length) (subs ++ [o])) qd (hp pre (dictO l.toArray l.length) subs) g dr tk os C (by rw [hsz]; exact Nat.ble_eq_true_of_le (Nat.le_trans (by lia) (Nat.le_add_right 34 _))) (hp_push _)
      (fun es n => by rw [hsz]; exact hp_last hl) (fun es n f => by rw [hsz]; exact hp_updLast hl _ _) (keys_nil hn.2.1 hk.2) hC
    rw [hsz] at this
    exact this
  · refine RunP.bind0 (a := ()) (RunP.onRaise (RunP.holding ?_)) rfl
    have := run_merge (w := w) (fun o => hp pre o (subs ++ [dictO (b3EntriesEnd tk C).toArray C.length])) 33 (34 + subs.length : Nat) (b3EntriesEnd tk C) C.length rfl (beq_eq_false_iff_ne.mpr (by show 34 + subs.length ≠ 1; lia)) (fun es n => hp_main hl) (fun o => hp_last hl) (fun es n f => hp_updMain hl _) qd g dr (tk + 3 * C.length) os l l.length h0 (plain_end _ _)
      (by rw [end_hash]; exact hk.1) (by rw [end_length]; lia)
    rw [end_length] at this
    exact this
theorem run_first (D : Disp R F) {pre : List Obj} (hl : pre.length = 33) (qd : Pos) (g : Array GenState) (dr : Drawn) (os : OsState) (C : List (Int × Str)) (rest : List (Option (Sem Value) × Sem Value)) (tk : Nat) (hC : C.length = 17) (hk : KeysOk [] C) {m : Nat} {b : StC} {s' : Shared} {q' : Pos}
    (h : RunP w m (forIn rest (some 33, []) F) ⟨hp pre (dictO (b3EntriesFrom tk C).toArray 17) [], g, dr, tk + 51, os⟩ qd b s' q') :
    RunP w (m + 223) (forIn (C.map (itemC qd) ++ rest) (none, []) F) ⟨⟨pre.toArray, lif⟩, g, dr, tk, os⟩ qd b s' q' := by
  obtain ⟨A, x, rfl⟩ : ∃ A x, C = A ++ [x] := ⟨C.dropLast, C.getLast (by intro e; rw [e] at hC; cases hC), (List.dropLast_concat_getLast _).symm⟩
  have hA : A.length = 16 := by rw [List.length_append, List.length_singleton] at hC; lia
  rw [List.map_append, List.append_assoc, D.gather (q := qd) A [] (by rw [hA]; decide), List.nil_append]
  show RunP w (m + 223) (forIn (itemC qd x :: rest) _ F) _ _ _ _ _
  rw [List.forIn_cons]
  refine RunP.bind (n := 223) (m := m) (a := ForInStep.yield (some 33, [])) (q₁ := qd) (s₁ := ⟨hp pre (dictO (b3EntriesFrom tk (A ++ [x])).toArray 17) [], g, dr, tk + 51, os⟩) ?_ h
  show RunP w 223 (F (some (mkInt x.1), valC qd x.2) (none, A.map (pairC qd))) _ _ _ _ _
  rw [D.first _ _ _ (by rw [List.length_append, List.length_map, hA]; rfl)]
  refine RunP.bind0 (a := some 33) ?_ rfl
  have e : A.map (pairC qd) ++ [(mkInt x.1, valC qd x.2)] = (A ++ [x]).map (pairC qd) := by rw [List.map_append]; rfl
  rw [e]
  unfold flushN
  refine RunP.bind0 (a := (33 : Nat)) ?_ rfl
  have hsz : (Heap.mk pre.toArray lif).objs.size = 33 := by show pre.toArray.size = 33; rw [List.size_toArray, hl]
  have := run_sub (w := w) (fun o => hp pre o []) qd ⟨pre.toArray, lif⟩ g dr tk os (A ++ [x]) (by rw [hsz]; rfl) (by show Heap.mk _ _ = Heap.mk _ _; rw [List.push_toArray]) (fun es n => by rw [hsz]; exact hp_main hl) (fun es n f => by rw [hsz]; exact hp_updMain hl _) hk (by lia) (by lia)
  rw [hsz, hC] at this
  exact this
theorem run_loopAll (D : Disp R F) {pre : List Obj} (hl : pre.length = 33) (qd : Pos) (g : Array GenState) (dr : Drawn) (os : OsState) (C M E : List (Int × Str)) (m tk : Nat) (hC : C.length = 17) (hM : M.length = 17 * m) (hE : E.length ≤ 15) (hm : M.length < 1500)
    (kC : KeysOk [] C) (kM : KeysOk (b3EntriesFrom tk C) M) :
    RunP w (330 * m + 223) (forIn ((C ++ M ++ E).map (itemC qd)) (none, []) F) ⟨⟨pre.toArray, lif⟩, g, dr, tk, os⟩ qd (some 33, E.map (pairC qd))
      ⟨hp pre (dictO (b3EntriesFrom tk (C ++ M)).toArray (C ++ M).length) (subsF m (tk + 51) M), g, dr, tk + 3 * (C ++ M).length, os⟩ qd := by
  have eCM : b3EntriesFrom tk C ++ b3EntriesFrom (tk + 51) M = b3EntriesFrom tk (C ++ M) := by
    have := from_append C M tk
    rw [hC] at this
    exact this.symm
  rw [List.map_append, List.map_append, List.append_assoc]
  refine run_first D hl qd g dr os C _ tk hC kC (m := 330 * m) ?_
  have e : b3EntriesFrom tk C ≠ [] := by intro e; have := congrArg List.length e; rw [from_length, hC] at this; cases this
  have := run_chunks (w := w) D hl qd g dr os (E.map (itemC qd)) (n := 0) (b := (some 33, E.map (pairC qd))) (q' := qd) m M [] (tk + 51) (b3EntriesFrom tk C) hM (by rw [from_length]; lia) e kM (s' := ⟨hp pre (dictO (b3EntriesFrom tk (C ++ M)).toArray (C ++ M).length) (subsF m (tk + 51) M), g, dr, tk + 3 * (C ++ M).length, os⟩) ?_
  · rw [from_length, hC, Nat.zero_add] at this
    exact this
  · have := D.gather (q := qd) (main := some 33) (rest := []) E [] (by rw [List.length_nil]; lia)
    rw [List.append_nil, List.nil_append] at this
    rw [this, List.forIn_nil, eCM, from_length, List.nil_append, show tk + 51 + 3 * M.length = tk + 3 * (C ++ M).length by rw [List.length_append, hC]; lia, show C.length + M.length = (C ++ M).length from List.length_append.symm]
    exact RunP.pure
theorem run_display {pre : List Obj} (hl : pre.length = 33) (qd : Pos) (g : Array GenState) (dr : Drawn) (os : OsState) (C M E : List (Int × Str)) (m tk : Nat) (hC : C.length = 17) (hM : M.length = 17 * m) (hE0 : 0 < E.length) (hE : E.length ≤ 15) (hm : M.length < 1500)
    (hk : KeysOk [] (C ++ M ++ E)) :
    RunP w (19 * E.length + 6 + 330 * m + 223) (dictDisplay ((C ++ M ++ E).map (itemC qd))) ⟨⟨pre.toArray, lif⟩, g, dr, tk, os⟩ qd (.ref 33)
      ⟨hp pre (dictO (b3EntriesFrom tk (C ++ M) ++ b3EntriesEnd (tk + 3 * (C ++ M).length) E).toArray (C ++ M ++ E).length) (subsF m (tk + 51) M ++ [dictO (b3EntriesEnd (tk + 3 * (C ++ M).length) E).toArray E.length]), g, dr, tk + 3 * (C ++ M ++ E).length, os⟩ qd := by
  have hn := hk.1
  rw [List.map_append, List.map_append, ← List.append_assoc, ← List.append_assoc] at hn
  have hn1 := (List.nodup_append.mp hn).1
  have hn0 := (List.nodup_append.mp hn1).1
  have kC : KeysOk [] C := ⟨hn0, fun x hx => hk.2 x (List.mem_append_left _ (List.mem_append_left _ hx))⟩
  have kM : KeysOk (b3EntriesFrom tk C) M := ⟨by rw [from_hash]; exact hn1, fun x hx => hk.2 x (List.mem_append_left _ (List.mem_append_right _ hx))⟩
  have kE : KeysOk (b3EntriesFrom tk (C ++ M)) E := ⟨by rw [from_hash, List.map_append]; exact hn, fun x hx => hk.2 x (List.mem_append_right _ hx)⟩
  have eCM : b3EntriesFrom tk C ++ b3EntriesFrom (tk + 51) M = b3EntriesFrom tk (C ++ M) := by
    have := from_append C M tk
    rw [hC] at this
    exact this.symm
  unfold dictDisplay
  dsimp only
  refine RunP.cast (n := 6 * E.length + 5 + (13 * E.length + 1) + (330 * m + 223)) ?_ (by lia)
  refine RunP.bind (n := 330 * m + 223) (m := 6 * E.length + 5 + (13 * E.length + 1)) (a := (some 33, E.map (pairC qd))) (q₁ := qd) (s₁ := ⟨hp pre (dictO (b3EntriesFrom tk (C ++ M)).toArray (C ++ M).length) (subsF m (tk + 51) M), g, dr, tk + 3 * (C ++ M).length, os⟩) ?_ ?_
  · refine run_loopAll (R := letGoR) ⟨fun k v main run h => ?_, fun k v run h => ?_, fun k v d run h => ?_⟩ hl qd g dr os C M E m tk hC hM hE hm kC kM
    · show (if _ = true then _ else _) = _
      rw [if_neg (by rw [h]; decide)]; rfl
    · show (if _ = true then _ else _) = _
      have e : (run ++ [(k, v)]).isEmpty = false := by simp
      rw [if_pos h, e]; rfl
    · show (if _ = true then _ else _) = _
      have e : (run ++ [(k, v)]).isEmpty = false := by simp
      rw [if_pos h, e]; rfl
  · have e : (E.map (pairC qd)).isEmpty = false := by
      cases E with
      | nil => cases hE0
      | cons => rfl
    rw [e, if_neg Bool.false_ne_true]
    have := run_flushE (w := w) (R := letGoR) hl qd g dr os (subsF m (tk + 51) M) E (tk + 3 * (C ++ M).length) (b3EntriesFrom tk (C ++ M)) hE (by rw [from_length, List.length_append]; lia) (by
      intro e; have := congrArg List.length e; rw [from_length, List.length_append, hC] at this; simp at this) kE
    refine RunP.bind0 (a := some 33) ?_ rfl
    rw [from_length] at this
    rw [show (C ++ M ++ E).length = (C ++ M).length + E.length from List.length_append, show tk + 3 * ((C ++ M).length + E.length) = tk + 3 * (C ++ M).length + 3 * E.length by lia]
    exact this
end
end
section
noncomputable def dKeys : List (Option PySem.Expr) := match topBody[3]? with | some (Stmt.Assign _ (Expr.Dict ks _ _) _) => ks | _ => []
noncomputable def dVals : List PySem.Expr := match topBody[3]? with | some (Stmt.Assign _ (Expr.Dict _ vs _) _) => vs | _ => []
noncomputable def dPos : Pos := match topBody[3]? with | some (Stmt.Assign _ (Expr.Dict _ _ p) _) => p | _ => default
noncomputable def aPos : Pos := match topBody[3]? with | some (Stmt.Assign _ _ p) => p | _ => default
noncomputable def nPos : Pos := match topBody[3]? with | some (Stmt.Assign [Expr.Name _ p] _ _) => p | _ => default
theorem dict_stmt : cut 3 1 = [.Assign [.Name (Str.ofString "b3_exceptions") nPos] (.Dict dKeys dVals dPos) aPos] := by kernel_rfl
theorem dict_items : (evalEachOpt dKeys topEnv).zip ((evalEach dVals topEnv).map fun v => do let x ← v; standAt dPos; pure x) = b3Pairs.map (itemC dPos) := by kernel_rfl
theorem no_swap : swapsWith (.Dict dKeys dVals dPos) (some (.Name (Str.ofString "b3_exceptions") nPos)) aPos.line topEnv = pure false := by kernel_rfl
theorem b3_pairs : b3Pairs.length = 650 := by decide +kernel
noncomputable def upB : Int → List (Int × Str) → Bool
  | _, [] => true
  | a, x :: l => decide (a < x.1) && upB x.1 l
theorem upB_spec : ∀ (l : List (Int × Str)) (a : Int), upB a l = true → (∀ x ∈ l, a < x.1) ∧ (l.map (·.1)).Nodup
  | [], _, _ => ⟨fun _ h => (nomatch h), List.nodup_nil⟩
  | x :: l, a, h => by
    obtain ⟨h1, h2⟩ := Bool.and_eq_true_iff.mp h
    obtain ⟨h3, h4⟩ := upB_spec l x.1 h2
    have h1 := of_decide_eq_true h1
    refine ⟨fun y hy => ?_, ?_⟩
    · rcases List.mem_cons.mp hy with rfl | hy
      · exact h1
      · exact Int.lt_trans h1 (h3 y hy)
    · rw [List.map_cons, List.nodup_cons]
      refine ⟨fun hm => ?_, h4⟩
      obtain ⟨y, hy, e⟩ := List.mem_map.mp hm
      have := h3 y hy
      lia
theorem b3_ok : KeysOk [] b3Pairs := by
  refine ⟨(upB_spec b3Pairs 0 (by decide +kernel)).2, fun x hx => ?_⟩
  have : (b3Pairs.all fun x => decide (hashK x.1 = x.1) && decide (0 ≤ x.1) && decide (x.1 < 2000000)) = true := by decide +kernel
  have := List.all_eq_true.mp this x hx
  simp only [Bool.and_eq_true, decide_eq_true_eq] at this
  exact ⟨this.1.1, this.1.2, this.2⟩
theorem b3_split : b3Pairs.take 17 ++ (b3Pairs.drop 17).take 629 ++ b3Pairs.drop 646 = b3Pairs := by
  have e : b3Pairs.take 17 ++ (b3Pairs.drop 17).take 629 = b3Pairs.take 646 := by
    rw [show (646 : Nat) = 17 + 629 from rfl, List.take_add]
  rw [e, List.take_append_drop]
noncomputable def pre33 (w : World) : List Obj := (T3 w.params).list 33
theorem run_dict (w : World) (os : OsState) : RunP w 12516 (eval (.Dict dKeys dVals dPos) topEnv) (S3 w os).abs aPos (.ref 33)
    ⟨hp (pre33 w) (dictO (b3EntriesFrom 256 (b3Pairs.take 646) ++ b3EntriesEnd 2194 (b3Pairs.drop 646)).toArray 650) (subsF 37 307 ((b3Pairs.drop 17).take 629) ++ [dictO (b3EntriesEnd 2194 (b3Pairs.drop 646)).toArray 4]), Array.mk [], boot_drawn, 2206, os⟩ dPos := by
  show RunP w (12515 + 1) (standAt dPos >>= fun _ => dictDisplay ((evalEachOpt dKeys topEnv).zip ((evalEach dVals topEnv).map fun v => do let x ← v; standAt dPos; pure x))) _ _ _ _ _
  rw [dict_items]
  refine RunP.bind (n := 1) (m := 12515) (a := ()) (q₁ := dPos) (s₁ := (S3 w os).abs) (RunP.at RunP.pure) ?_
  have hl : (pre33 w).length = 33 := by unfold pre33 BT.list; rw [List.length_map, List.length_range]
  have e646 : b3Pairs.take 17 ++ (b3Pairs.drop 17).take 629 = b3Pairs.take 646 := by
    rw [show (646 : Nat) = 17 + 629 from rfl, List.take_add]
  have l646 : (b3Pairs.take 646).length = 646 := by rw [List.length_take, b3_pairs]; rfl
  have lE : (b3Pairs.drop 646).length = 4 := by rw [List.length_drop, b3_pairs]
  have := run_display (w := w) hl dPos (Array.mk []) boot_drawn os (b3Pairs.take 17) ((b3Pairs.drop 17).take 629) (b3Pairs.drop 646) 37 256 (by rw [List.length_take, b3_pairs]; rfl) (by rw [List.length_take, List.length_drop, b3_pairs]; rfl) (by rw [lE]; decide) (by rw [lE]; decide) (by rw [List.length_take, List.length_drop, b3_pairs]; decide) (by rw [b3_split]; exact b3_ok)
  rw [b3_split, e646, l646, lE, b3_pairs] at this
  exact this
end
section
theorem run_bind (w : World) (os : OsState) : RunP w 7 (standAt nPos >>= fun _ => bindName topEnv (Str.ofString "b3_exceptions") (.ref 33) >>= fun _ => (pure Flow.next : Sem Flow))
    ⟨hp (pre33 w) (dictO (b3EntriesFrom 256 (b3Pairs.take 646) ++ b3EntriesEnd 2194 (b3Pairs.drop 646)).toArray 650) (subsF 37 307 ((b3Pairs.drop 17).take 629) ++ [dictO (b3EntriesEnd 2194 (b3Pairs.drop 646)).toArray 4]), Array.mk [], boot_drawn, 2206, os⟩ dPos Flow.next (S4 w os).abs p4 := by
  intro K H gd lv N
  kernel_rfl
theorem run_stmt (w : World) (os : OsState) : RunP w 12524 (exec (.Assign [.Name (Str.ofString "b3_exceptions") nPos] (.Dict dKeys dVals dPos) aPos) topEnv) (S3 w os).abs p3 Flow.next (S4 w os).abs p4 := by
  rw [PySem.exec_Assign_Name (hs := no_swap)]
  refine RunP.bind (n := 1) (m := 12523) (a := ()) (q₁ := aPos) (s₁ := (S3 w os).abs) (RunP.at RunP.pure) ?_
  exact RunP.bind (n := 12516) (m := 7) (run_dict w os) (run_bind w os)
theorem g4 (w : World) (os : OsState) : segRun treeTable tP w 11 annV 1 12525 (S3 w os).abs (piecesOf (cut 3 1) topEnv cE p3 topB) = some (.next, (S4 w os).abs, cE, p4) := by
  rw [dict_stmt]
  show segRun treeTable tP w 11 annV 1 (1 + 12524) (S3 w os).abs ⟨(execs [.Assign [.Name (Str.ofString "b3_exceptions") nPos] (.Dict dKeys dVals dPos) aPos] topEnv).wrap doneF deadEnd id id, cE, p3, topB⟩ = _
  rw [execs_cons_wrap, run_stmt w os]
  rfl
end
section
noncomputable abbrev rowR : String := "special-get-raises"
theorem ofFast {w : World} {n i j : Nat} {A B : World → OsState → SharedT} {a b : Pos} (h : (fun os => PySem.W.Fast.tw10110043849684766642 PySem.W.Fast.tw14364793385576792824 tP w 11 annV 1 n (A w os) (piecesOf (cut i j) topEnv cE a topB)) = fun os => some (.next, B w os, cE, b)) (os : OsState) :
    segRun treeTable tP w 11 annV 1 n (A w os).abs (piecesOf (cut i j) topEnv cE a topB) = some (.next, (B w os).abs, cE, b) := by
  refine segRun_of ?_
  have := congrFun h os
  rw [← PySem.W.Fast.te10110043849684766642, ← PySem.W.Fast.te14364793385576792824] at this
  exact this
theorem g2 (w : World) : (fun os => PySem.W.Fast.tw10110043849684766642 PySem.W.Fast.tw14364793385576792824 tP w 11 annV 1 999 (S1 w os) (piecesOf (cut 1 1) topEnv cE p1 topB)) = fun os => some (.next, S2 w os, cE, p2) :=
  byRow2 rowR (P := fun w => (fun os => PySem.W.Fast.tw10110043849684766642 PySem.W.Fast.tw14364793385576792824 tP w 11 annV 1 999 (S1 w os) (piecesOf (cut 1 1) topEnv cE p1 topB)) = fun os => some (.next, S2 w os, cE, p2)) g2a g2b w
theorem body_is : behindTheImports tP = topBody := by kernel_rfl
theorem topFin (w : World) : (fun os => topRun treeTable tP w 11 annV 2 (S22 w os).abs ⟨doneF .next, cE, p22, topB⟩) = fun os => some ⟨Hf w.params, Array.mk [], boot_drawn, 2397, os⟩ := by kernel_rfl
theorem chain {w : World} {n N i j : Nat} {s s' r : Shared} {a b : Pos} (h : segRun treeTable tP w 11 annV 1 n s (piecesOf (cut i j) topEnv cE a topB) = some (.next, s', cE, b))
    (k : topRun treeTable tP w 11 annV N s' (restOf (topBody.drop (i + j)) topEnv cE b topB) = some r) : topRun treeTable tP w 11 annV (n + N) s (restOf (topBody.drop i) topEnv cE a topB) = some r := by
  have e : topBody.drop i = cut i j ++ topBody.drop (i + j) := by rw [← List.drop_drop]; exact (List.take_append_drop j _).symm
  rw [e]
  exact piece_app h k
noncomputable def stepsAll : Nat := 12 + (1 + (10 + (999 + (30 + (12525 + (130 + (324 + (153 + (169 + 2)))))))))
theorem topAll (w : World) (os : OsState) : topRun treeTable tP w 11 annV stepsAll ⟨boot_heap w.params, Array.mk [], boot_drawn, boot_toks, os⟩ (topStub tP) = some ⟨Hf w.params, Array.mk [], boot_drawn, 2397, os⟩ := by
  have e : topBody.drop 22 = [] := by kernel_rfl
  have k22 : topRun treeTable tP w 11 annV 2 (S22 w os).abs (restOf (topBody.drop 22) topEnv cE p22 topB) = some ⟨Hf w.params, Array.mk [], boot_drawn, 2397, os⟩ := by
    rw [e]; exact congrFun (topFin w) os
  have k16 := chain (i := 16) (j := 6) (ofFast (A := S16) (B := S22) (g22 w) os) k22
  have k10 := chain (i := 10) (j := 6) (ofFast (A := S10) (B := S16) (g16 w) os) k16
  have k9 := chain (i := 9) (j := 1) (ofFast (A := S9) (B := S10) (g10 w) os) k10
  have k4 := chain (i := 4) (j := 5) (ofFast (A := S4) (B := S9) (g9 w) os) k9
  have k3 := chain (i := 3) (j := 1) (g4 w os) k4
  have k2 := chain (i := 2) (j := 1) (ofFast (A := S2) (B := S3) (g3 w) os) k3
  have k1 := chain (i := 1) (j := 1) (ofFast (A := S1) (B := S2) (g2 w) os) k2
  have k0 := chain (i := 0) (j := 1) (ofFast (A := S0) (B := S1) (g1 w) os) k1
  have kb := piece_block (congrFun (g00 w) os) ((congrArg (fun l => topRun treeTable tP w 11 annV _ _ (restOf l topEnv cE p0 topB)) body_is).trans k0)
  exact go_top (congrFun (g0 w) os) kb
end
section
noncomputable def kAddrs : List Addr := [2, 3, 22, 26, 28, 29, 31, 32, 33, 72, 74, 75, 77, 78, 79, 81, 82, 84, 85, 86, 88, 89, 91, 92, 100, 102, 103, 105, 106, 107, 109, 110, 112, 113, 114, 116, 117, 119, 120, 121, 123, 124, 126, 127, 128, 129, 130, 131, 132, 135, 137, 138, 140, 141, 142, 145, 146, 147, 150, 151, 152, 154, 155, 157, 158, 159, 161, 162, 164, 165, 166, 168, 169, 171, 172, 173, 176, 177, 178, 180, 181, 183, 184, 185, 188, 189, 190, 193, 194, 195, 198, 199]
noncomputable abbrev hkK : Hook := kmHook K kAddrs (fun _ => by kernel_rfl) [136]
noncomputable abbrev topX (s : Shared) : Bool := xlAt q [] s && recOk [] s
theorem hOpen : ∀ w : World, (fencedOpening treeTable tP w 30000).map (fun s => (s.heap, s.gens, s.drawn, s.toks)) = some (boot_heap w.params, Array.mk [], boot_drawn, boot_toks) :=
  boot_open (by kernel_rfl) rfl (fun s => by kernel_rfl)
theorem hSize : ∀ w : World, ((boot_heap w.params).isNs mainGlobals && (Array.mk [] : Array GenState).size == 0, (boot_heap w.params).objs.size, (boot_heap w.params).nsMap mainGlobals "__annotations__") = (true, 11, annV) := fun w => by kernel_rfl
theorem look1 (w : World) : (fun os => (staticsOk (importedModules tP.main.body) (boot_heap w.params) (Hf w.params) && namesBound tP (Hf w.params) && gensDone ⟨Hf w.params, Array.mk [], boot_drawn, 2397, os⟩ && laidKept (boot_heap w.params) (Hf w.params))) = fun _ => true := by kernel_rfl
theorem look3 (w : World) : (fun os : OsState => hkK.obs ⟨Hf w.params, Array.mk [], boot_drawn, 2397, os⟩) = fun _ => hkK.val w := by kernel_rfl
theorem look2 (w : World) : (fun os => PySem.W.Fast.tw4187177175401517315 q loose (importedModules tP.main.body) topX true ⟨Hf w.params, Array.mk [], boot_drawn, 2397, os⟩) = fun _ => openGood q loose := by kernel_rfl
end
section
noncomputable abbrev tab136 : List (Addr × Addr) := [(140, 136)]
theorem owns_q : ownsOf q = [] := by with_unfolding_all rfl
theorem recs_name {d : DefRec} (hd : d ∈ recsOf q) : d.name = Str.ofString "law" := by
  have e : (recsOf q).map (·.name) = [Str.ofString "law"] := by decide +kernel
  have : d.name ∈ (recsOf q).map (·.name) := List.mem_map_of_mem hd
  rw [e] at this
  exact List.mem_singleton.mp this
theorem K_noTabs (w : Params) : noTabs (K w) = true := rfl
theorem K_codeHd (w : Params) : codeHdIn (K w) 140 136 = true := rfl
theorem K_law (w : Params) : nsIn (K w) mainGlobals (Str.ofString "law") = some (some (.ref 199)) := rfl
theorem imports_q : importsNone q = false ∨ importsNone q = true := by cases importsNone q <;> simp
theorem ghost_seer {h : Heap} (hT : TabsAt tab136 h) (S : h.NoSeer) : (ghostOf h tab136).NoSeer where
  statics := let ⟨mc, a, r⟩ := S.statics; ⟨mc, ghost_ns hT a, r⟩
  mods := let ⟨mc, a, r⟩ := S.mods; ⟨mc, ghost_ns hT a, r⟩
  imp := let ⟨mc, a, r⟩ := S.imp; ⟨mc, ghost_ns hT a, r⟩
  main := let ⟨mg, bm, ob, a, b, c, d, r⟩ := S.main; ⟨mg, bm, ob, ghost_ns hT a, b, ghost_get hT c (fun q => by rw [q] at d; cases d), d, r⟩
theorem ghost_topQ {w : Params} {mean : ExcName → Option Value} {mg mb : Str → Option Value} {h : Heap} (hT : TabsAt tab136 h) (X : (K w).In h) (T : Top q loose mean mg mb h) : Top q loose mean mg mb (ghostOf h tab136) where
  g := ghost_ns hT T.g
  b := ghost_ns hT T.b
  nolimit := let ⟨mc, a, r⟩ := T.nolimit; ⟨mc, ghost_ns hT a, r⟩
  nodigits := let ⟨mc, a, r⟩ := T.nodigits; ⟨mc, ghost_ns hT a, r⟩
  fn := fun d hd => by
    obtain ⟨a, o, pm, code, doc, h1, h2, h3, c, o', vs, t, e1, e2, e3, e4⟩ := T.fn d hd
    refine ⟨a, o, pm, code, doc, h1, ghost_get hT h2 (fun q => by rw [q] at h3; cases h3), h3, c, o', vs, t, e1, ghost_get hT e2 (fun q => ?_), e3, e4⟩
    rw [q] at e3
    cases e3
    simp at e4
  own := fun o ho => absurd (owns_q ▸ ho) List.not_mem_nil
  const := T.const
  free := T.free
  builtins := T.builtins
  tab := fun d hd => by
    obtain ⟨a, o, fd, c, P, h1, h2, h3, h4, h5, h6⟩ := T.tab d hd
    have hn := recs_name hd
    have e1 := mg_of X T.g (K_law w)
    rw [hn, e1] at h1
    cases h1
    have e2 := X 199 _ rfl
    rw [h2] at e2
    cases e2
    cases h3
    cases h4
    have e3 := X 198 _ rfl
    have hP : P ≠ 136 := by
      obtain ⟨⟨oc, vs, g1, g2, g3, g4⟩, g5⟩ := h6
      rw [e3] at g1
      cases g1
      cases g3
      cases g4
      first | done | decide
    have hPg : ∀ o, h.get? P = some o → (ghostOf h tab136).get? P = some o := fun o e => ghost_ne e (by simp; exact hP)
    have hcg : ∀ o, h.get? 198 = some o → (ghostOf h tab136).get? 198 = some o := fun o e => ghost_ne e (by simp)
    refine ⟨199, _, _, 198, P, (by rw [hn]; exact e1), ghost_ne h2 (by simp), rfl, rfl, ?_, ?_⟩
    · obtain ⟨o, vs, file, tf, flags, tg, inF, text, tt, op, a1, r1, r2, r3, r4, r5, r6, b1, r⟩ := h5
      exact ⟨o, vs, file, tf, flags, tg, inF, text, tt, op, hcg _ a1, r1, r2, r3, r4, r5, r6, hPg _ b1, r⟩
    · obtain ⟨⟨o, vs, a1, r⟩, t⟩ := h6
      exact ⟨⟨o, vs, hcg _ a1, r⟩, hPg _ t⟩
  bmain := let ⟨bm, ob, a1, a2, a3, a4, r⟩ := T.bmain; ⟨bm, ob, a1, a2, ghost_get hT a3 (fun q => by rw [q] at a4; cases a4), a4, r⟩
  seer := fun e => ghost_seer hT (T.seer e)
theorem none_booked {w : Params} {mean : ExcName → Option Value} {mg mb : Str → Option Value} {h : Heap} (X : (K w).In h) (T : Top q loose mean mg mb h) : NoneBooked h := by
  obtain ⟨mc, hn, _⟩ := T.nolimit
  refine ⟨mc, hn, ?_⟩
  obtain ⟨o, es, ep, ho, hd, sk, hf⟩ := hn
  have e := X 2 _ rfl
  have ho' : h.get? 2 = some o := ho
  rw [ho'] at e
  cases e
  cases hd
  rw [← hf]
  rfl
theorem booked_ghost {h : Heap} (hT : TabsAt tab136 h) (b : NoneBooked h) : NoneBooked (ghostOf h tab136) := let ⟨mc, a, r⟩ := b; ⟨mc, ghost_ns hT a, r⟩
end
section
theorem look2' (w : World) : (fun os => openSeen q loose (importedModules tP.main.body) topX true ⟨Hf w.params, Array.mk [], boot_drawn, 2397, os⟩) = fun _ => openGood q loose := by
  have := look2 w
  have e : @openSeen = PySem.W.Fast.tw4187177175401517315 := PySem.W.Fast.te4187177175401517315
  rw [← e] at this
  exact this
theorem left : LeftO tP q loose topX hkK.obs hkK.val 30000 true :=
  LeftO.of_pieces (H₀ := boot_heap) (H₁ := Hf) hOpen hSize topAll rfl fun w => funext fun os => looks_pair (congrFun (look1 w) os) (looks_pair (congrFun (look2' w) os) (congrFun (look3 w) os))
theorem said : PySem.Challenge.rw_rw0107_01.wellSaid = true := by
  have e : @OpenLaw.wellSaid = PySem.W.Fast.tw9446332074065402090 := PySem.W.Fast.te9446332074065402090
  rw [e]
  kernel_rfl
set_option maxHeartbeats 0 in
theorem holds0 : PySem.Challenge.rw_rw0107_01.Holds := by
  w_on
  refine holds_law said fun said => ?_
  refine holds_open (q := q) (loose := loose) (Xt := topX) (XP := XL q []) (Yf := Hook.obs hkK) (Ya := Hook.val hkK) (YP := Hook.says hkK) (N := 30000) left (Hook.of hkK) (Hook.keeps hkK) (fun s e => xl_of s (Bool.and_eq_true_iff.mp e).1) XL.keeps (by rfl) (by rfl) (by rfl) (fun s e => recFacts_of (Bool.and_eq_true_iff.mp e).2) (by rfl) (by assumption) (by decide +kernel) ⟨rfl, rfl, rfl, rfl, rfl, by decide +kernel⟩ ?hw ?hc
  (case hw => w_witness2)
  w_strict (
    k_fill
    intro w s₀ s₁ mg mb G Y fa o pm cd doc dV kV ho hd hcd hD hmg hg args vals as hpre hlay hrd hwl hlo
    have KX := km_in_of Y
    km_tabs Y
    refine Ground.open G ?_
    intro T B D TE TW
    try (refine guard_noD D (by decide +kernel) ?_; clear D)
    have hT9 : TabsAt tab136 s₁.heap := List.forall_mem_cons.mpr ⟨⟨codeHd_of_K (c := 140) (P := 136) KX (K_codeHd _), hT8 136 (List.mem_singleton.mpr rfl)⟩, fun _ h => nomatch h⟩
    clear hmg B TE TW
    wrow_args hpre hlay hrd hwl hlo)
  all_goals (
    first | refine callC_kw (enter_call ?_) | refine enter_call ?_
    w_top on
    kn_posts
    have he := Dflts.none hD rfl; subst he; have he := Dflts.noKw hD; subst he
    clear hD
    refine call_cellsN (by decide) ho (fd_plain hd) (Top.nolimit T) hcd rfl (kinds_of (by kinds_ok)) (by decide) fun h₁ tk₁ cells F N0 X0 => ?_
    clear hd
    obtain ⟨oK, oM, oT, oR, oX, oH, oS, he, dK, dM, dT, dR, dX, dH, dS⟩ := PyProof.Rows.kc_seven X0
    subst he
    clear X0)
  rename Heap.IsList _ _ _ => hL
  rename IntsAre _ _ => hI
  have h136 : @LT.lt Nat _ 136 s₁.heap.objs.size := Heap.lt_size (hT8 136 (List.mem_singleton.mpr rfl))
  rename ¬ _ => hN
  have hN' : List.length _ ≤ 63 := Nat.le_of_not_lt fun hh => hN (Int.ofNat_lt.mpr hh)
  with_unfolding_all refine law_all row_law (lamp_law row_law) seen_law oK oM oT oR oX oH oS _ _ _ (ghost_below hT9) (ghost_K hT9 KX (K_noTabs _)) (ghost_topQ hT9 KX T) (ghost_fr hT9 F) (ghost_news hT9 F N0) dS dH dX dR dT dM dK (ghost_list hT9 hL) hI hN' h136 (booked_ghost hT9 (none_booked KX T)) (by decide) (by decide) ?_
  intro m' h' tk' news' F' N' hT
  obtain ⟨T', hT'⟩ := hT
  refine And.intro ?_ (And.intro (GrownAt.of N' hT') True.intro)
  dsimp only
  refine goodW_reads F' hg (raisesW_false (by wrow_none_raised)) (.bool true) unshared_nil (postW_of (by wrow_shape) (by wtm_val) (by w_fin))
end
end Mine
theorem PySem.Challenge.cw_rw0107_01_holds : PySem.Challenge.rw_rw0107_01.Holds :=
  Mine.holds0
