import PyProof.Rows.All
import Wide.All
import OpenK.AllK
import Wide.FinOn
import PySem.Challenge.RW_in0117_01
open PySem PySem.W PyProof.Rows PySem.Calls
set_option Elab.async false
set_option maxRecDepth 100000
set_option maxHeartbeats 8000000
set_option rowWalk.seconds 0
namespace Mine
local macro_rules | `(tactic| omega) => `(tactic| first | lia | omega (splitDisjunctions := true))
section
/-- the program's own text, by place -/
noncomputable abbrev tPg : Program := PySem.Challenge.pw_in0117_01
noncomputable def tStmt (i : Nat) : Stmt := match tPg.main.body[i]? with | some s => s | none => .Pass ⟨0, 0, 0, 0⟩
noncomputable def tSub (i j : Nat) : Stmt := match tStmt i with | .ClassDef _ _ _ b _ _ _ _ _ _ _ => (match b[j]? with | some s => s | none => .Pass ⟨0, 0, 0, 0⟩) | _ => .Pass ⟨0, 0, 0, 0⟩
noncomputable def tFn : Stmt → FuncData
  | .FunctionDef n ps b _ _ _ sc _ _ _ => { name := n, qualname := n, params := ps, body := .stmts b, scope := sc, globals := 3, closure := [], defaults := .none, kwdefaults := .none }
  | _ => default
/-- what a def's text says of itself, with its token -/
noncomputable def tDoc (s : Stmt) (n : Tok) : Value := match s with
  | .FunctionDef _ _ b _ _ _ _ _ _ _ => (match docOf b with | some d => .str d n | none => .none)
  | _ => .none
/-- what stands behind the top: the objects that the law can come to -/
noncomputable def frag (P : Params) : Frag :=
  (nat_lit 2, { cls := Value.none, data := Data.dict #[] }) ::
  (nat_lit 3, { cls := Value.type "dict", data := Data.dict #[{ hash := PyData.keyHash P (Str.ofString "__name__"), key := Value.str (Str.ofString "__name__") 165, val := Value.str (Str.ofString "law_in0117_01") 516 }, { hash := PyData.keyHash P (Str.ofString "__doc__"), key := Value.str (Str.ofString "__doc__") 166, val := Value.none }, { hash := PyData.keyHash P (Str.ofString "__package__"), key := Value.str (Str.ofString "__package__") 167, val := Value.none }, { hash := PyData.keyHash P (Str.ofString "__loader__"), key := Value.str (Str.ofString "__loader__") 168, val := Value.builtin "__main__.__loader__#opaque" }, { hash := PyData.keyHash P (Str.ofString "__spec__"), key := Value.str (Str.ofString "__spec__") 169, val := Value.none }, { hash := PyData.keyHash P (Str.ofString "__annotations__"), key := Value.str (Str.ofString "__annotations__") 170, val := Value.ref 6 }, { hash := PyData.keyHash P (Str.ofString "__builtins__"), key := Value.str (Str.ofString "__builtins__") 171, val := Value.ref 4 }, { hash := PyData.keyHash P (Str.ofString "__file__"), key := Value.str (Str.ofString "__file__") 173, val := Value.str (Str.ofString "/claim/cut.py") 172 }, { hash := PyData.keyHash P (Str.ofString "__cached__"), key := Value.str (Str.ofString "__cached__") 174, val := Value.none }, { hash := PyData.keyHash P (Str.ofString "_wall"), key := Value.str (Str.ofString "_wall") 193, val := Value.ref 21 }, { hash := PyData.keyHash P (Str.ofString "read_uint1"), key := Value.str (Str.ofString "read_uint1") 204, val := Value.ref 28 }, { hash := PyData.keyHash P (Str.ofString "read_string1"), key := Value.str (Str.ofString "read_string1") 214, val := Value.ref 35 }, { hash := PyData.keyHash P (Str.ofString "read_bytes1"), key := Value.str (Str.ofString "read_bytes1") 224, val := Value.ref 42 }, { hash := PyData.keyHash P (Str.ofString "heappush"), key := Value.str (Str.ofString "heappush") 235, val := Value.ref 49 }, { hash := PyData.keyHash P (Str.ofString "heappop"), key := Value.str (Str.ofString "heappop") 245, val := Value.ref 56 }, { hash := PyData.keyHash P (Str.ofString "_siftdown"), key := Value.str (Str.ofString "_siftdown") 257, val := Value.ref 63 }, { hash := PyData.keyHash P (Str.ofString "_siftup"), key := Value.str (Str.ofString "_siftup") 270, val := Value.ref 70 }, { hash := PyData.keyHash P (Str.ofString "_tuplegetter"), key := Value.str (Str.ofString "_tuplegetter") 329, val := Value.ref 109 }, { hash := PyData.keyHash P (Str.ofString "sorted_list_difference"), key := Value.str (Str.ofString "sorted_list_difference") 344, val := Value.ref 120 }, { hash := PyData.keyHash P (Str.ofString "unorderable_list_difference"), key := Value.str (Str.ofString "unorderable_list_difference") 355, val := Value.ref 127 }, { hash := PyData.keyHash P (Str.ofString "three_way_cmp"), key := Value.str (Str.ofString "three_way_cmp") 364, val := Value.ref 134 }, { hash := PyData.keyHash P (Str.ofString "Mismatch"), key := Value.str (Str.ofString "Mismatch") 492, val := Value.ref 205 }, { hash := PyData.keyHash P (Str.ofString "_Mismatch"), key := Value.str (Str.ofString "_Mismatch") 493, val := Value.ref 205 }, { hash := PyData.keyHash P (Str.ofString "_count_diff_all_purpose"), key := Value.str (Str.ofString "_count_diff_all_purpose") 515, val := Value.ref 215 }, { hash := PyData.keyHash P (Str.ofString "_law_taken"), key := Value.str (Str.ofString "_law_taken") 526, val := Value.ref 222 }, { hash := PyData.keyHash P (Str.ofString "_law_stream"), key := Value.str (Str.ofString "_law_stream") 535, val := Value.ref 229 }, { hash := PyData.keyHash P (Str.ofString "_law_told"), key := Value.str (Str.ofString "_law_told") 544, val := Value.ref 236 }, { hash := PyData.keyHash P (Str.ofString "_law_all"), key := Value.str (Str.ofString "_law_all") 550, val := Value.ref 241 }, { hash := PyData.keyHash P (Str.ofString "_law_popped"), key := Value.str (Str.ofString "_law_popped") 556, val := Value.ref 246 }, { hash := PyData.keyHash P (Str.ofString "_law_counted"), key := Value.str (Str.ofString "_law_counted") 567, val := Value.ref 253 }, { hash := PyData.keyHash P (Str.ofString "_law_more"), key := Value.str (Str.ofString "_law_more") 573, val := Value.ref 258 }, { hash := PyData.keyHash P (Str.ofString "law"), key := Value.str (Str.ofString "law") 579, val := Value.ref 263 }] 32 }) ::
  (nat_lit 15, { cls := Value.type "tuple", data := Data.seq #[] }) ::
  (nat_lit 17, { cls := Value.type "tuple", data := Data.seq #[Value.str (Str.ofString "k") 190] }) ::
  (nat_lit 18, { cls := Value.type "tuple", data := Data.seq #[] }) ::
  (nat_lit 20, { cls := Value.type "code", data := Data.fields #[Value.str (Str.ofString "_wall") 187, Value.str (Str.ofString "_wall") 188, Value.str (Str.ofString "/claim/cut.py") 189, Value.int 1 0, Value.int 1 0, Value.int 0 0, Value.int 0 0, Value.int 3 0, Value.ref 15, Value.bool true, Value.int 181 0, Value.ref 16, Value.none, Value.ref 17, Value.ref 18, Value.ref 19, Value.int 191 0, Value.int 1 0, Value.str (Str.ofString "/claim/cut.py") 192] }) ::
  (nat_lit 21, { cls := Value.type "function", data := Data.func { tFn (tStmt 0) with qualname := Str.ofString "_wall", globals := 3, closure := [], defaults := Value.none, kwdefaults := Value.none, pyModule := Value.str (Str.ofString "__main__") 164, code := Value.ref 20 } }) ::
  (nat_lit 22, { cls := Value.type "tuple", data := Data.seq #[] }) ::
  (nat_lit 24, { cls := Value.type "tuple", data := Data.seq #[Value.str (Str.ofString "f") 199, Value.str (Str.ofString "data") 200] }) ::
  (nat_lit 25, { cls := Value.type "tuple", data := Data.seq #[] }) ::
  (nat_lit 27, { cls := Value.type "code", data := Data.fields #[Value.str (Str.ofString "read_uint1") 196, Value.str (Str.ofString "read_uint1") 197, Value.str (Str.ofString "/claim/cut.py") 198, Value.int 5 0, Value.int 1 0, Value.int 0 0, Value.int 0 0, Value.int 3 0, Value.ref 22, Value.bool true, Value.int 181 0, Value.ref 23, Value.none, Value.ref 24, Value.ref 25, Value.ref 26, Value.int 201 0, Value.int 5 0, Value.str (Str.ofString "/claim/cut.py") 202] }) ::
  (nat_lit 28, { cls := Value.type "function", data := Data.func { tFn (tStmt 2) with qualname := Str.ofString "read_uint1", globals := 3, closure := [], defaults := Value.none, kwdefaults := Value.none, doc := tDoc (tStmt 2) 203, pyModule := Value.str (Str.ofString "cpy313.pickletools") 194, code := Value.ref 27 } }) ::
  (nat_lit 29, { cls := Value.type "tuple", data := Data.seq #[] }) ::
  (nat_lit 31, { cls := Value.type "tuple", data := Data.seq #[Value.str (Str.ofString "f") 208, Value.str (Str.ofString "n") 209, Value.str (Str.ofString "data") 210] }) ::
  (nat_lit 32, { cls := Value.type "tuple", data := Data.seq #[] }) ::
  (nat_lit 34, { cls := Value.type "code", data := Data.fields #[Value.str (Str.ofString "read_string1") 205, Value.str (Str.ofString "read_string1") 206, Value.str (Str.ofString "/claim/cut.py") 207, Value.int 15 0, Value.int 1 0, Value.int 0 0, Value.int 0 0, Value.int 3 0, Value.ref 29, Value.bool true, Value.int 181 0, Value.ref 30, Value.none, Value.ref 31, Value.ref 32, Value.ref 33, Value.int 211 0, Value.int 15 0, Value.str (Str.ofString "/claim/cut.py") 212] }) ::
  (nat_lit 35, { cls := Value.type "function", data := Data.func { tFn (tStmt 3) with qualname := Str.ofString "read_string1", globals := 3, closure := [], defaults := Value.none, kwdefaults := Value.none, doc := tDoc (tStmt 3) 213, pyModule := Value.str (Str.ofString "cpy313.pickletools") 194, code := Value.ref 34 } }) ::
  (nat_lit 36, { cls := Value.type "tuple", data := Data.seq #[] }) ::
  (nat_lit 38, { cls := Value.type "tuple", data := Data.seq #[Value.str (Str.ofString "f") 218, Value.str (Str.ofString "n") 219, Value.str (Str.ofString "data") 220] }) ::
  (nat_lit 39, { cls := Value.type "tuple", data := Data.seq #[] }) ::
  (nat_lit 41, { cls := Value.type "code", data := Data.fields #[Value.str (Str.ofString "read_bytes1") 215, Value.str (Str.ofString "read_bytes1") 216, Value.str (Str.ofString "/claim/cut.py") 217, Value.int 29 0, Value.int 1 0, Value.int 0 0, Value.int 0 0, Value.int 3 0, Value.ref 36, Value.bool true, Value.int 181 0, Value.ref 37, Value.none, Value.ref 38, Value.ref 39, Value.ref 40, Value.int 221 0, Value.int 29 0, Value.str (Str.ofString "/claim/cut.py") 222] }) ::
  (nat_lit 42, { cls := Value.type "function", data := Data.func { tFn (tStmt 4) with qualname := Str.ofString "read_bytes1", globals := 3, closure := [], defaults := Value.none, kwdefaults := Value.none, doc := tDoc (tStmt 4) 223, pyModule := Value.str (Str.ofString "cpy313.pickletools") 194, code := Value.ref 41 } }) ::
  (nat_lit 43, { cls := Value.type "tuple", data := Data.seq #[] }) ::
  (nat_lit 45, { cls := Value.type "tuple", data := Data.seq #[Value.str (Str.ofString "heap") 230, Value.str (Str.ofString "item") 231] }) ::
  (nat_lit 46, { cls := Value.type "tuple", data := Data.seq #[] }) ::
  (nat_lit 48, { cls := Value.type "code", data := Data.fields #[Value.str (Str.ofString "heappush") 227, Value.str (Str.ofString "heappush") 228, Value.str (Str.ofString "/claim/cut.py") 229, Value.int 44 0, Value.int 2 0, Value.int 0 0, Value.int 0 0, Value.int 3 0, Value.ref 43, Value.bool true, Value.int 181 0, Value.ref 44, Value.none, Value.ref 45, Value.ref 46, Value.ref 47, Value.int 232 0, Value.int 44 0, Value.str (Str.ofString "/claim/cut.py") 233] }) ::
  (nat_lit 49, { cls := Value.type "function", data := Data.func { tFn (tStmt 6) with qualname := Str.ofString "heappush", globals := 3, closure := [], defaults := Value.none, kwdefaults := Value.none, doc := tDoc (tStmt 6) 234, pyModule := Value.str (Str.ofString "cpy313.heapq") 225, code := Value.ref 48 } }) ::
  (nat_lit 50, { cls := Value.type "tuple", data := Data.seq #[] }) ::
  (nat_lit 52, { cls := Value.type "tuple", data := Data.seq #[Value.str (Str.ofString "heap") 239, Value.str (Str.ofString "lastelt") 240, Value.str (Str.ofString "returnitem") 241] }) ::
  (nat_lit 53, { cls := Value.type "tuple", data := Data.seq #[] }) ::
  (nat_lit 55, { cls := Value.type "code", data := Data.fields #[Value.str (Str.ofString "heappop") 236, Value.str (Str.ofString "heappop") 237, Value.str (Str.ofString "/claim/cut.py") 238, Value.int 48 0, Value.int 1 0, Value.int 0 0, Value.int 0 0, Value.int 3 0, Value.ref 50, Value.bool true, Value.int 181 0, Value.ref 51, Value.none, Value.ref 52, Value.ref 53, Value.ref 54, Value.int 242 0, Value.int 48 0, Value.str (Str.ofString "/claim/cut.py") 243] }) ::
  (nat_lit 56, { cls := Value.type "function", data := Data.func { tFn (tStmt 7) with qualname := Str.ofString "heappop", globals := 3, closure := [], defaults := Value.none, kwdefaults := Value.none, doc := tDoc (tStmt 7) 244, pyModule := Value.str (Str.ofString "cpy313.heapq") 225, code := Value.ref 55 } }) ::
  (nat_lit 57, { cls := Value.type "tuple", data := Data.seq #[] }) ::
  (nat_lit 59, { cls := Value.type "tuple", data := Data.seq #[Value.str (Str.ofString "heap") 249, Value.str (Str.ofString "startpos") 250, Value.str (Str.ofString "pos") 251, Value.str (Str.ofString "newitem") 252, Value.str (Str.ofString "parentpos") 253, Value.str (Str.ofString "parent") 254] }) ::
  (nat_lit 60, { cls := Value.type "tuple", data := Data.seq #[] }) ::
  (nat_lit 62, { cls := Value.type "code", data := Data.fields #[Value.str (Str.ofString "_siftdown") 246, Value.str (Str.ofString "_siftdown") 247, Value.str (Str.ofString "/claim/cut.py") 248, Value.int 57 0, Value.int 3 0, Value.int 0 0, Value.int 0 0, Value.int 3 0, Value.ref 57, Value.bool true, Value.int 181 0, Value.ref 58, Value.none, Value.ref 59, Value.ref 60, Value.ref 61, Value.int 255 0, Value.int 57 0, Value.str (Str.ofString "/claim/cut.py") 256] }) ::
  (nat_lit 63, { cls := Value.type "function", data := Data.func { tFn (tStmt 8) with qualname := Str.ofString "_siftdown", globals := 3, closure := [], defaults := Value.none, kwdefaults := Value.none, pyModule := Value.str (Str.ofString "cpy313.heapq") 225, code := Value.ref 62 } }) ::
  (nat_lit 64, { cls := Value.type "tuple", data := Data.seq #[] }) ::
  (nat_lit 66, { cls := Value.type "tuple", data := Data.seq #[Value.str (Str.ofString "heap") 261, Value.str (Str.ofString "pos") 262, Value.str (Str.ofString "endpos") 263, Value.str (Str.ofString "startpos") 264, Value.str (Str.ofString "newitem") 265, Value.str (Str.ofString "childpos") 266, Value.str (Str.ofString "rightpos") 267] }) ::
  (nat_lit 67, { cls := Value.type "tuple", data := Data.seq #[] }) ::
  (nat_lit 69, { cls := Value.type "code", data := Data.fields #[Value.str (Str.ofString "_siftup") 258, Value.str (Str.ofString "_siftup") 259, Value.str (Str.ofString "/claim/cut.py") 260, Value.int 68 0, Value.int 2 0, Value.int 0 0, Value.int 0 0, Value.int 3 0, Value.ref 64, Value.bool true, Value.int 181 0, Value.ref 65, Value.none, Value.ref 66, Value.ref 67, Value.ref 68, Value.int 268 0, Value.int 68 0, Value.str (Str.ofString "/claim/cut.py") 269] }) ::
  (nat_lit 70, { cls := Value.type "function", data := Data.func { tFn (tStmt 9) with qualname := Str.ofString "_siftup", globals := 3, closure := [], defaults := Value.none, kwdefaults := Value.none, pyModule := Value.str (Str.ofString "cpy313.heapq") 225, code := Value.ref 69 } }) ::
  (nat_lit 78, { cls := Value.type "tuple", data := Data.seq #[] }) ::
  (nat_lit 80, { cls := Value.type "tuple", data := Data.seq #[Value.str (Str.ofString "self") 288, Value.str (Str.ofString "index") 289, Value.str (Str.ofString "doc") 290] }) ::
  (nat_lit 81, { cls := Value.type "tuple", data := Data.seq #[] }) ::
  (nat_lit 83, { cls := Value.type "code", data := Data.fields #[Value.str (Str.ofString "__init__") 285, Value.str (Str.ofString "_tuplegetter.__init__") 286, Value.str (Str.ofString "/claim/cut.py") 287, Value.int 85 0, Value.int 3 0, Value.int 0 0, Value.int 0 0, Value.int 3 0, Value.ref 78, Value.bool true, Value.int 181 0, Value.ref 79, Value.none, Value.ref 80, Value.ref 81, Value.ref 82, Value.int 291 0, Value.int 85 0, Value.str (Str.ofString "/claim/cut.py") 292] }) ::
  (nat_lit 84, { cls := Value.type "function", data := Data.func { tFn (tSub 11 0) with qualname := Str.ofString "_tuplegetter.__init__", globals := 3, closure := [], defaults := Value.none, kwdefaults := Value.none, pyModule := Value.str (Str.ofString "cpy313.unittest.util") 271, code := Value.ref 83 } }) ::
  (nat_lit 85, { cls := Value.type "tuple", data := Data.seq #[Value.none] }) ::
  (nat_lit 86, { cls := Value.type "tuple", data := Data.seq #[] }) ::
  (nat_lit 88, { cls := Value.type "tuple", data := Data.seq #[Value.str (Str.ofString "self") 297, Value.str (Str.ofString "obj") 298, Value.str (Str.ofString "objtype") 299] }) ::
  (nat_lit 89, { cls := Value.type "tuple", data := Data.seq #[] }) ::
  (nat_lit 91, { cls := Value.type "code", data := Data.fields #[Value.str (Str.ofString "__get__") 294, Value.str (Str.ofString "_tuplegetter.__get__") 295, Value.str (Str.ofString "/claim/cut.py") 296, Value.int 89 0, Value.int 3 0, Value.int 0 0, Value.int 0 0, Value.int 3 0, Value.ref 86, Value.bool true, Value.int 181 0, Value.ref 87, Value.none, Value.ref 88, Value.ref 89, Value.ref 90, Value.int 300 0, Value.int 89 0, Value.str (Str.ofString "/claim/cut.py") 301] }) ::
  (nat_lit 92, { cls := Value.type "function", data := Data.func { tFn (tSub 11 1) with qualname := Str.ofString "_tuplegetter.__get__", globals := 3, closure := [], defaults := Value.ref 85, kwdefaults := Value.none, pyModule := Value.str (Str.ofString "cpy313.unittest.util") 271, code := Value.ref 91 } }) ::
  (nat_lit 93, { cls := Value.type "tuple", data := Data.seq #[] }) ::
  (nat_lit 95, { cls := Value.type "tuple", data := Data.seq #[Value.str (Str.ofString "self") 306, Value.str (Str.ofString "obj") 307, Value.str (Str.ofString "value") 308] }) ::
  (nat_lit 96, { cls := Value.type "tuple", data := Data.seq #[] }) ::
  (nat_lit 98, { cls := Value.type "code", data := Data.fields #[Value.str (Str.ofString "__set__") 303, Value.str (Str.ofString "_tuplegetter.__set__") 304, Value.str (Str.ofString "/claim/cut.py") 305, Value.int 96 0, Value.int 3 0, Value.int 0 0, Value.int 0 0, Value.int 3 0, Value.ref 93, Value.bool true, Value.int 181 0, Value.ref 94, Value.none, Value.ref 95, Value.ref 96, Value.ref 97, Value.int 309 0, Value.int 96 0, Value.str (Str.ofString "/claim/cut.py") 310] }) ::
  (nat_lit 99, { cls := Value.type "function", data := Data.func { tFn (tSub 11 2) with qualname := Str.ofString "_tuplegetter.__set__", globals := 3, closure := [], defaults := Value.none, kwdefaults := Value.none, pyModule := Value.str (Str.ofString "cpy313.unittest.util") 271, code := Value.ref 98 } }) ::
  (nat_lit 100, { cls := Value.type "tuple", data := Data.seq #[] }) ::
  (nat_lit 102, { cls := Value.type "tuple", data := Data.seq #[Value.str (Str.ofString "self") 315, Value.str (Str.ofString "obj") 316] }) ::
  (nat_lit 103, { cls := Value.type "tuple", data := Data.seq #[] }) ::
  (nat_lit 105, { cls := Value.type "code", data := Data.fields #[Value.str (Str.ofString "__delete__") 312, Value.str (Str.ofString "_tuplegetter.__delete__") 313, Value.str (Str.ofString "/claim/cut.py") 314, Value.int 99 0, Value.int 2 0, Value.int 0 0, Value.int 0 0, Value.int 3 0, Value.ref 100, Value.bool true, Value.int 181 0, Value.ref 101, Value.none, Value.ref 102, Value.ref 103, Value.ref 104, Value.int 317 0, Value.int 99 0, Value.str (Str.ofString "/claim/cut.py") 318] }) ::
  (nat_lit 106, { cls := Value.type "function", data := Data.func { tFn (tSub 11 3) with qualname := Str.ofString "_tuplegetter.__delete__", globals := 3, closure := [], defaults := Value.none, kwdefaults := Value.none, pyModule := Value.str (Str.ofString "cpy313.unittest.util") 271, code := Value.ref 105 } }) ::
  (nat_lit 107, { cls := Value.type "tuple", data := Data.seq #[Value.str (Str.ofString "__doc__") 320, Value.str (Str.ofString "index") 321] }) ::
  (nat_lit 108, { cls := Value.type "dict", data := Data.dict #[{ hash := PyData.keyHash P (Str.ofString "__module__"), key := Value.str (Str.ofString "__module__") 280, val := Value.str (Str.ofString "cpy313.unittest.util") 271 }, { hash := PyData.keyHash P (Str.ofString "__firstlineno__"), key := Value.str (Str.ofString "__firstlineno__") 284, val := Value.int 83 283 }, { hash := PyData.keyHash P (Str.ofString "__init__"), key := Value.str (Str.ofString "__init__") 293, val := Value.ref 84 }, { hash := PyData.keyHash P (Str.ofString "__get__"), key := Value.str (Str.ofString "__get__") 302, val := Value.ref 92 }, { hash := PyData.keyHash P (Str.ofString "__set__"), key := Value.str (Str.ofString "__set__") 311, val := Value.ref 99 }, { hash := PyData.keyHash P (Str.ofString "__delete__"), key := Value.str (Str.ofString "__delete__") 319, val := Value.ref 106 }, { hash := PyData.keyHash P (Str.ofString "__static_attributes__"), key := Value.str (Str.ofString "__static_attributes__") 322, val := Value.ref 107 }, { hash := PyData.keyHash P (Str.ofString "__dict__"), key := Value.str (Str.ofString "__dict__") 324, val := Value.ref 110 }, { hash := PyData.keyHash P (Str.ofString "__weakref__"), key := Value.str (Str.ofString "__weakref__") 326, val := Value.ref 111 }, { hash := PyData.keyHash P (Str.ofString "__doc__"), key := Value.str (Str.ofString "__doc__") 327, val := Value.none }] 4 }) ::
  (nat_lit 109, { cls := Value.type "type", data := Data.cls { name := Str.ofString "_tuplegetter", bases := [Value.type "object"], mro := [Value.ref 109, Value.type "object"], ns := 108, qualname := Str.ofString "_tuplegetter" }, slots := #[none, none, some (Value.str (Str.ofString "_tuplegetter") 273), some (Value.str (Str.ofString "_tuplegetter") 281), some (Value.builtin "object.__new__"), some (Value.bool true)] }) ::
  (nat_lit 110, { cls := Value.type "getset_descriptor", data := Data.fields #[Value.str (Str.ofString "__dict__") 323, Value.ref 109, Value.builtin "function.__dict__", Value.builtin "function.__dict__#set"] }) ::
  (nat_lit 111, { cls := Value.type "getset_descriptor", data := Data.fields #[Value.str (Str.ofString "__weakref__") 325, Value.ref 109, Value.builtin "ExceptionGroup.__weakref__", Value.none] }) ::
  (nat_lit 114, { cls := Value.type "tuple", data := Data.seq #[] }) ::
  (nat_lit 116, { cls := Value.type "tuple", data := Data.seq #[Value.str (Str.ofString "expected") 333, Value.str (Str.ofString "actual") 334, Value.str (Str.ofString "i") 335, Value.str (Str.ofString "j") 336, Value.str (Str.ofString "missing") 337, Value.str (Str.ofString "unexpected") 338, Value.str (Str.ofString "e") 339, Value.str (Str.ofString "a") 340] }) ::
  (nat_lit 117, { cls := Value.type "tuple", data := Data.seq #[] }) ::
  (nat_lit 119, { cls := Value.type "code", data := Data.fields #[Value.str (Str.ofString "sorted_list_difference") 330, Value.str (Str.ofString "sorted_list_difference") 331, Value.str (Str.ofString "/claim/cut.py") 332, Value.int 101 0, Value.int 2 0, Value.int 0 0, Value.int 0 0, Value.int 3 0, Value.ref 114, Value.bool true, Value.int 181 0, Value.ref 115, Value.none, Value.ref 116, Value.ref 117, Value.ref 118, Value.int 341 0, Value.int 101 0, Value.str (Str.ofString "/claim/cut.py") 342] }) ::
  (nat_lit 120, { cls := Value.type "function", data := Data.func { tFn (tStmt 12) with qualname := Str.ofString "sorted_list_difference", globals := 3, closure := [], defaults := Value.none, kwdefaults := Value.none, doc := tDoc (tStmt 12) 343, pyModule := Value.str (Str.ofString "cpy313.unittest.util") 271, code := Value.ref 119 } }) ::
  (nat_lit 121, { cls := Value.type "tuple", data := Data.seq #[] }) ::
  (nat_lit 123, { cls := Value.type "tuple", data := Data.seq #[Value.str (Str.ofString "expected") 348, Value.str (Str.ofString "actual") 349, Value.str (Str.ofString "missing") 350, Value.str (Str.ofString "item") 351] }) ::
  (nat_lit 124, { cls := Value.type "tuple", data := Data.seq #[] }) ::
  (nat_lit 126, { cls := Value.type "code", data := Data.fields #[Value.str (Str.ofString "unorderable_list_difference") 345, Value.str (Str.ofString "unorderable_list_difference") 346, Value.str (Str.ofString "/claim/cut.py") 347, Value.int 140 0, Value.int 2 0, Value.int 0 0, Value.int 0 0, Value.int 3 0, Value.ref 121, Value.bool true, Value.int 181 0, Value.ref 122, Value.none, Value.ref 123, Value.ref 124, Value.ref 125, Value.int 352 0, Value.int 140 0, Value.str (Str.ofString "/claim/cut.py") 353] }) ::
  (nat_lit 127, { cls := Value.type "function", data := Data.func { tFn (tStmt 13) with qualname := Str.ofString "unorderable_list_difference", globals := 3, closure := [], defaults := Value.none, kwdefaults := Value.none, doc := tDoc (tStmt 13) 354, pyModule := Value.str (Str.ofString "cpy313.unittest.util") 271, code := Value.ref 126 } }) ::
  (nat_lit 128, { cls := Value.type "tuple", data := Data.seq #[] }) ::
  (nat_lit 130, { cls := Value.type "tuple", data := Data.seq #[Value.str (Str.ofString "x") 359, Value.str (Str.ofString "y") 360] }) ::
  (nat_lit 131, { cls := Value.type "tuple", data := Data.seq #[] }) ::
  (nat_lit 133, { cls := Value.type "code", data := Data.fields #[Value.str (Str.ofString "three_way_cmp") 356, Value.str (Str.ofString "three_way_cmp") 357, Value.str (Str.ofString "/claim/cut.py") 358, Value.int 154 0, Value.int 2 0, Value.int 0 0, Value.int 0 0, Value.int 3 0, Value.ref 128, Value.bool true, Value.int 181 0, Value.ref 129, Value.none, Value.ref 130, Value.ref 131, Value.ref 132, Value.int 361 0, Value.int 154 0, Value.str (Str.ofString "/claim/cut.py") 362] }) ::
  (nat_lit 134, { cls := Value.type "function", data := Data.func { tFn (tStmt 14) with qualname := Str.ofString "three_way_cmp", globals := 3, closure := [], defaults := Value.none, kwdefaults := Value.none, doc := tDoc (tStmt 14) 363, pyModule := Value.str (Str.ofString "cpy313.unittest.util") 271, code := Value.ref 133 } }) ::
  (nat_lit 135, { cls := Value.type "tuple", data := Data.seq #[Value.type "tuple"] }) ::
  (nat_lit 138, { cls := Value.type "cell", data := Data.cell (some (Value.ref 205)) }) ::
  (nat_lit 143, { cls := Value.type "tuple", data := Data.seq #[] }) ::
  (nat_lit 144, { cls := Value.type "tuple", data := Data.seq #[Value.str (Str.ofString "actual") 381, Value.str (Str.ofString "expected") 382, Value.str (Str.ofString "value") 383] }) ::
  (nat_lit 145, { cls := Value.type "dict", data := Data.dict #[] }) ::
  (nat_lit 146, { cls := Value.type "tuple", data := Data.seq #[] }) ::
  (nat_lit 148, { cls := Value.type "tuple", data := Data.seq #[Value.str (Str.ofString "_cls") 389, Value.str (Str.ofString "actual") 390, Value.str (Str.ofString "expected") 391, Value.str (Str.ofString "value") 392] }) ::
  (nat_lit 149, { cls := Value.type "tuple", data := Data.seq #[] }) ::
  (nat_lit 151, { cls := Value.type "code", data := Data.fields #[Value.str (Str.ofString "__new__") 386, Value.str (Str.ofString "Mismatch.__new__") 387, Value.str (Str.ofString "/claim/cut.py") 388, Value.int 163 0, Value.int 4 0, Value.int 0 0, Value.int 0 0, Value.int 3 0, Value.ref 146, Value.bool true, Value.int 181 0, Value.ref 147, Value.none, Value.ref 148, Value.ref 149, Value.ref 150, Value.int 393 0, Value.int 163 0, Value.str (Str.ofString "/claim/cut.py") 394] }) ::
  (nat_lit 152, { cls := Value.type "function", data := Data.func { tFn (tSub 15 4) with qualname := Str.ofString "Mismatch.__new__", globals := 3, closure := [], defaults := Value.none, kwdefaults := Value.none, doc := tDoc (tSub 15 4) 395, pyModule := Value.str (Str.ofString "cpy313.unittest.util") 271, code := Value.ref 151 } }) ::
  (nat_lit 153, { cls := Value.type "tuple", data := Data.seq #[] }) ::
  (nat_lit 155, { cls := Value.type "tuple", data := Data.seq #[Value.str (Str.ofString "cls") 400, Value.str (Str.ofString "iterable") 401, Value.str (Str.ofString "result") 402] }) ::
  (nat_lit 156, { cls := Value.type "tuple", data := Data.seq #[] }) ::
  (nat_lit 158, { cls := Value.type "code", data := Data.fields #[Value.str (Str.ofString "_make") 397, Value.str (Str.ofString "Mismatch._make") 398, Value.str (Str.ofString "/claim/cut.py") 399, Value.int 167 0, Value.int 2 0, Value.int 0 0, Value.int 0 0, Value.int 3 0, Value.ref 153, Value.bool true, Value.int 181 0, Value.ref 154, Value.none, Value.ref 155, Value.ref 156, Value.ref 157, Value.int 403 0, Value.int 167 0, Value.str (Str.ofString "/claim/cut.py") 404] }) ::
  (nat_lit 159, { cls := Value.type "function", data := Data.func { tFn (tSub 15 5) with qualname := Str.ofString "Mismatch._make", globals := 3, closure := [], defaults := Value.none, kwdefaults := Value.none, doc := tDoc (tSub 15 5) 405, pyModule := Value.str (Str.ofString "cpy313.unittest.util") 271, annotations := some 162, code := Value.ref 158 } }) ::
  (nat_lit 160, { cls := Value.type "dict", data := Data.dict #[{ hash := PyData.keyHash P (Str.ofString "__module__"), key := Value.str (Str.ofString "__module__") 407, val := Value.str (Str.ofString "cpy313.unittest.util") 271 }, { hash := PyData.keyHash P (Str.ofString "__name__"), key := Value.str (Str.ofString "__name__") 410, val := Value.str (Str.ofString "_make") 409 }, { hash := PyData.keyHash P (Str.ofString "__qualname__"), key := Value.str (Str.ofString "__qualname__") 413, val := Value.str (Str.ofString "Mismatch._make") 412 }, { hash := PyData.keyHash P (Str.ofString "__doc__"), key := Value.str (Str.ofString "__doc__") 415, val := Value.str (Str.ofString "Make a new Mismatch object from a sequence or iterable") 405 }, { hash := PyData.keyHash P (Str.ofString "__annotations__"), key := Value.str (Str.ofString "__annotations__") 417, val := Value.ref 162 }] 5 }) ::
  (nat_lit 161, { cls := Value.type "classmethod", dict := some 160, data := Data.fields #[Value.ref 159, Value.bool false] }) ::
  (nat_lit 162, { cls := Value.type "dict", data := Data.dict #[] }) ::
  (nat_lit 163, { cls := Value.type "tuple", data := Data.seq #[Value.ref 138] }) ::
  (nat_lit 164, { cls := Value.type "tuple", data := Data.seq #[Value.str (Str.ofString "__class__") 422] }) ::
  (nat_lit 166, { cls := Value.type "tuple", data := Data.seq #[Value.str (Str.ofString "self") 423, Value.str (Str.ofString "kwds") 424, Value.str (Str.ofString "result") 425] }) ::
  (nat_lit 167, { cls := Value.type "tuple", data := Data.seq #[] }) ::
  (nat_lit 169, { cls := Value.type "code", data := Data.fields #[Value.str (Str.ofString "_replace") 419, Value.str (Str.ofString "Mismatch._replace") 420, Value.str (Str.ofString "/claim/cut.py") 421, Value.int 175 0, Value.int 1 0, Value.int 1 0, Value.int 0 0, Value.int 11 0, Value.ref 164, Value.bool true, Value.int 181 0, Value.ref 165, Value.none, Value.ref 166, Value.ref 167, Value.ref 168, Value.int 426 0, Value.int 175 0, Value.str (Str.ofString "/claim/cut.py") 427] }) ::
  (nat_lit 170, { cls := Value.type "function", data := Data.func { tFn (tSub 15 6) with qualname := Str.ofString "Mismatch._replace", globals := 3, closure := [(Str.ofString "__class__", 138)], defaults := Value.none, kwdefaults := Value.none, doc := tDoc (tSub 15 6) 428, pyModule := Value.str (Str.ofString "cpy313.unittest.util") 271, code := Value.ref 169, closureTuple := Value.ref 163 } }) ::
  (nat_lit 171, { cls := Value.type "tuple", data := Data.seq #[] }) ::
  (nat_lit 173, { cls := Value.type "tuple", data := Data.seq #[Value.str (Str.ofString "self") 434] }) ::
  (nat_lit 174, { cls := Value.type "tuple", data := Data.seq #[] }) ::
  (nat_lit 176, { cls := Value.type "code", data := Data.fields #[Value.str (Str.ofString "__repr__") 431, Value.str (Str.ofString "Mismatch.__repr__") 432, Value.str (Str.ofString "/claim/cut.py") 433, Value.int 186 0, Value.int 1 0, Value.int 0 0, Value.int 0 0, Value.int 3 0, Value.ref 171, Value.bool true, Value.int 181 0, Value.ref 172, Value.none, Value.ref 173, Value.ref 174, Value.ref 175, Value.int 435 0, Value.int 186 0, Value.str (Str.ofString "/claim/cut.py") 436] }) ::
  (nat_lit 177, { cls := Value.type "function", data := Data.func { tFn (tSub 15 8) with qualname := Str.ofString "Mismatch.__repr__", globals := 3, closure := [], defaults := Value.none, kwdefaults := Value.none, doc := tDoc (tSub 15 8) 437, pyModule := Value.str (Str.ofString "cpy313.unittest.util") 271, code := Value.ref 176 } }) ::
  (nat_lit 178, { cls := Value.type "tuple", data := Data.seq #[] }) ::
  (nat_lit 180, { cls := Value.type "tuple", data := Data.seq #[Value.str (Str.ofString "self") 442] }) ::
  (nat_lit 181, { cls := Value.type "tuple", data := Data.seq #[] }) ::
  (nat_lit 183, { cls := Value.type "code", data := Data.fields #[Value.str (Str.ofString "_asdict") 439, Value.str (Str.ofString "Mismatch._asdict") 440, Value.str (Str.ofString "/claim/cut.py") 441, Value.int 190 0, Value.int 1 0, Value.int 0 0, Value.int 0 0, Value.int 3 0, Value.ref 178, Value.bool true, Value.int 181 0, Value.ref 179, Value.none, Value.ref 180, Value.ref 181, Value.ref 182, Value.int 443 0, Value.int 190 0, Value.str (Str.ofString "/claim/cut.py") 444] }) ::
  (nat_lit 184, { cls := Value.type "function", data := Data.func { tFn (tSub 15 9) with qualname := Str.ofString "Mismatch._asdict", globals := 3, closure := [], defaults := Value.none, kwdefaults := Value.none, pyModule := Value.str (Str.ofString "cpy313.unittest.util") 271, code := Value.ref 183 } }) ::
  (nat_lit 185, { cls := Value.type "tuple", data := Data.seq #[] }) ::
  (nat_lit 187, { cls := Value.type "tuple", data := Data.seq #[Value.str (Str.ofString "self") 449] }) ::
  (nat_lit 188, { cls := Value.type "tuple", data := Data.seq #[] }) ::
  (nat_lit 190, { cls := Value.type "code", data := Data.fields #[Value.str (Str.ofString "__getnewargs__") 446, Value.str (Str.ofString "Mismatch.__getnewargs__") 447, Value.str (Str.ofString "/claim/cut.py") 448, Value.int 193 0, Value.int 1 0, Value.int 0 0, Value.int 0 0, Value.int 3 0, Value.ref 185, Value.bool true, Value.int 181 0, Value.ref 186, Value.none, Value.ref 187, Value.ref 188, Value.ref 189, Value.int 450 0, Value.int 193 0, Value.str (Str.ofString "/claim/cut.py") 451] }) ::
  (nat_lit 191, { cls := Value.type "function", data := Data.func { tFn (tSub 15 10) with qualname := Str.ofString "Mismatch.__getnewargs__", globals := 3, closure := [], defaults := Value.none, kwdefaults := Value.none, doc := tDoc (tSub 15 10) 452, pyModule := Value.str (Str.ofString "cpy313.unittest.util") 271, code := Value.ref 190 } }) ::
  (nat_lit 192, { cls := Value.type "tuple", data := Data.seq #[Value.str (Str.ofString "actual") 454, Value.str (Str.ofString "expected") 455, Value.str (Str.ofString "value") 456] }) ::
  (nat_lit 193, { cls := Value.type "dict", data := Data.dict #[{ hash := PyData.keyHash P (Str.ofString "index"), key := Value.str (Str.ofString "index") 464, val := Value.int 0 458 }, { hash := PyData.keyHash P (Str.ofString "__doc__"), key := Value.str (Str.ofString "__doc__") 466, val := Value.str (Str.ofString "Alias for field number 0") 459 }] 2 }) ::
  (nat_lit 194, { cls := Value.ref 109, dict := some 193 }) ::
  (nat_lit 196, { cls := Value.type "dict", data := Data.dict #[{ hash := PyData.keyHash P (Str.ofString "index"), key := Value.str (Str.ofString "index") 474, val := Value.int 1 468 }, { hash := PyData.keyHash P (Str.ofString "__doc__"), key := Value.str (Str.ofString "__doc__") 476, val := Value.str (Str.ofString "Alias for field number 1") 469 }] 2 }) ::
  (nat_lit 197, { cls := Value.ref 109, dict := some 196 }) ::
  (nat_lit 199, { cls := Value.type "dict", data := Data.dict #[{ hash := PyData.keyHash P (Str.ofString "index"), key := Value.str (Str.ofString "index") 484, val := Value.int 2 478 }, { hash := PyData.keyHash P (Str.ofString "__doc__"), key := Value.str (Str.ofString "__doc__") 486, val := Value.str (Str.ofString "Alias for field number 2") 479 }] 2 }) ::
  (nat_lit 200, { cls := Value.ref 109, dict := some 199 }) ::
  (nat_lit 202, { cls := Value.type "tuple", data := Data.seq #[] }) ::
  (nat_lit 204, { cls := Value.type "dict", data := Data.dict #[{ hash := PyData.keyHash P (Str.ofString "__module__"), key := Value.str (Str.ofString "__module__") 372, val := Value.str (Str.ofString "cpy313.unittest.util") 271 }, { hash := PyData.keyHash P (Str.ofString "__firstlineno__"), key := Value.str (Str.ofString "__firstlineno__") 376, val := Value.int 157 375 }, { hash := PyData.keyHash P (Str.ofString "__doc__"), key := Value.str (Str.ofString "__doc__") 378, val := Value.str (Str.ofString "Mismatch(actual, expected, value)") 377 }, { hash := PyData.keyHash P (Str.ofString "__slots__"), key := Value.str (Str.ofString "__slots__") 380, val := Value.ref 143 }, { hash := PyData.keyHash P (Str.ofString "_fields"), key := Value.str (Str.ofString "_fields") 384, val := Value.ref 144 }, { hash := PyData.keyHash P (Str.ofString "_field_defaults"), key := Value.str (Str.ofString "_field_defaults") 385, val := Value.ref 145 }, { hash := PyData.keyHash P (Str.ofString "__new__"), key := Value.str (Str.ofString "__new__") 396, val := Value.ref 206 }, { hash := PyData.keyHash P (Str.ofString "_make"), key := Value.str (Str.ofString "_make") 418, val := Value.ref 161 }, { hash := PyData.keyHash P (Str.ofString "_replace"), key := Value.str (Str.ofString "_replace") 429, val := Value.ref 170 }, { hash := PyData.keyHash P (Str.ofString "__replace__"), key := Value.str (Str.ofString "__replace__") 430, val := Value.ref 170 }, { hash := PyData.keyHash P (Str.ofString "__repr__"), key := Value.str (Str.ofString "__repr__") 438, val := Value.ref 177 }, { hash := PyData.keyHash P (Str.ofString "_asdict"), key := Value.str (Str.ofString "_asdict") 445, val := Value.ref 184 }, { hash := PyData.keyHash P (Str.ofString "__getnewargs__"), key := Value.str (Str.ofString "__getnewargs__") 453, val := Value.ref 191 }, { hash := PyData.keyHash P (Str.ofString "__match_args__"), key := Value.str (Str.ofString "__match_args__") 457, val := Value.ref 192 }, { hash := PyData.keyHash P (Str.ofString "actual"), key := Value.str (Str.ofString "actual") 467, val := Value.ref 194 }, { hash := PyData.keyHash P (Str.ofString "expected"), key := Value.str (Str.ofString "expected") 477, val := Value.ref 197 }, { hash := PyData.keyHash P (Str.ofString "value"), key := Value.str (Str.ofString "value") 487, val := Value.ref 200 }, { hash := PyData.keyHash P (Str.ofString "__static_attributes__"), key := Value.str (Str.ofString "__static_attributes__") 488, val := Value.ref 202 }] 2 }) ::
  (nat_lit 205, { cls := Value.type "type", data := Data.cls { name := Str.ofString "Mismatch", bases := [Value.type "tuple"], mro := [Value.ref 205, Value.type "tuple", Value.type "object"], ns := 204, qualname := Str.ofString "Mismatch", hasDict := false }, slots := #[some (Value.ref 135), none, some (Value.str (Str.ofString "Mismatch") 365), some (Value.str (Str.ofString "Mismatch") 373), some Value.none, some (Value.bool false)] }) ::
  (nat_lit 206, { cls := Value.type "staticmethod", data := Data.fields #[Value.ref 152] }) ::
  (nat_lit 209, { cls := Value.type "tuple", data := Data.seq #[] }) ::
  (nat_lit 211, { cls := Value.type "tuple", data := Data.seq #[Value.str (Str.ofString "actual") 497, Value.str (Str.ofString "expected") 498, Value.str (Str.ofString "s") 499, Value.str (Str.ofString "t") 500, Value.str (Str.ofString "m") 501, Value.str (Str.ofString "n") 502, Value.str (Str.ofString "NULL") 503, Value.str (Str.ofString "result") 504, Value.str (Str.ofString "i") 505, Value.str (Str.ofString "elem") 506, Value.str (Str.ofString "cnt_s") 507, Value.str (Str.ofString "cnt_t") 508, Value.str (Str.ofString "j") 509, Value.str (Str.ofString "other_elem") 510, Value.str (Str.ofString "diff") 511] }) ::
  (nat_lit 212, { cls := Value.type "tuple", data := Data.seq #[] }) ::
  (nat_lit 214, { cls := Value.type "code", data := Data.fields #[Value.str (Str.ofString "_count_diff_all_purpose") 494, Value.str (Str.ofString "_count_diff_all_purpose") 495, Value.str (Str.ofString "/claim/cut.py") 496, Value.int 201 0, Value.int 2 0, Value.int 0 0, Value.int 0 0, Value.int 3 0, Value.ref 209, Value.bool true, Value.int 181 0, Value.ref 210, Value.none, Value.ref 211, Value.ref 212, Value.ref 213, Value.int 512 0, Value.int 201 0, Value.str (Str.ofString "/claim/cut.py") 513] }) ::
  (nat_lit 215, { cls := Value.type "function", data := Data.func { tFn (tStmt 17) with qualname := Str.ofString "_count_diff_all_purpose", globals := 3, closure := [], defaults := Value.none, kwdefaults := Value.none, doc := tDoc (tStmt 17) 514, pyModule := Value.str (Str.ofString "cpy313.unittest.util") 271, code := Value.ref 214 } }) ::
  (nat_lit 216, { cls := Value.type "tuple", data := Data.seq #[] }) ::
  (nat_lit 218, { cls := Value.type "tuple", data := Data.seq #[Value.str (Str.ofString "left") 521, Value.str (Str.ofString "many") 522, Value.str (Str.ofString "data") 523] }) ::
  (nat_lit 219, { cls := Value.type "tuple", data := Data.seq #[] }) ::
  (nat_lit 221, { cls := Value.type "code", data := Data.fields #[Value.str (Str.ofString "_law_taken") 518, Value.str (Str.ofString "_law_taken") 519, Value.str (Str.ofString "/claim/cut.py") 520, Value.int 234 0, Value.int 2 0, Value.int 0 0, Value.int 0 0, Value.int 3 0, Value.ref 216, Value.bool true, Value.int 181 0, Value.ref 217, Value.none, Value.ref 218, Value.ref 219, Value.ref 220, Value.int 524 0, Value.int 234 0, Value.str (Str.ofString "/claim/cut.py") 525] }) ::
  (nat_lit 222, { cls := Value.type "function", data := Data.func { tFn (tStmt 19) with qualname := Str.ofString "_law_taken", globals := 3, closure := [], defaults := Value.none, kwdefaults := Value.none, pyModule := Value.str (Str.ofString "law_in0117_01") 516, code := Value.ref 221 } }) ::
  (nat_lit 223, { cls := Value.type "tuple", data := Data.seq #[] }) ::
  (nat_lit 225, { cls := Value.type "tuple", data := Data.seq #[Value.str (Str.ofString "octets") 530, Value.str (Str.ofString "stream") 531] }) ::
  (nat_lit 226, { cls := Value.type "tuple", data := Data.seq #[Value.str (Str.ofString "left") 532] }) ::
  (nat_lit 228, { cls := Value.type "code", data := Data.fields #[Value.str (Str.ofString "_law_stream") 527, Value.str (Str.ofString "_law_stream") 528, Value.str (Str.ofString "/claim/cut.py") 529, Value.int 237 0, Value.int 1 0, Value.int 0 0, Value.int 0 0, Value.int 3 0, Value.ref 223, Value.bool true, Value.int 181 0, Value.ref 224, Value.none, Value.ref 225, Value.ref 226, Value.ref 227, Value.int 533 0, Value.int 237 0, Value.str (Str.ofString "/claim/cut.py") 534] }) ::
  (nat_lit 229, { cls := Value.type "function", data := Data.func { tFn (tStmt 20) with qualname := Str.ofString "_law_stream", globals := 3, closure := [], defaults := Value.none, kwdefaults := Value.none, pyModule := Value.str (Str.ofString "law_in0117_01") 516, code := Value.ref 228 } }) ::
  (nat_lit 230, { cls := Value.type "tuple", data := Data.seq #[] }) ::
  (nat_lit 232, { cls := Value.type "tuple", data := Data.seq #[Value.str (Str.ofString "reader") 539, Value.str (Str.ofString "stream") 540, Value.str (Str.ofString "error") 541] }) ::
  (nat_lit 233, { cls := Value.type "tuple", data := Data.seq #[] }) ::
  (nat_lit 235, { cls := Value.type "code", data := Data.fields #[Value.str (Str.ofString "_law_told") 536, Value.str (Str.ofString "_law_told") 537, Value.str (Str.ofString "/claim/cut.py") 538, Value.int 242 0, Value.int 2 0, Value.int 0 0, Value.int 0 0, Value.int 3 0, Value.ref 230, Value.bool true, Value.int 181 0, Value.ref 231, Value.none, Value.ref 232, Value.ref 233, Value.ref 234, Value.int 542 0, Value.int 242 0, Value.str (Str.ofString "/claim/cut.py") 543] }) ::
  (nat_lit 236, { cls := Value.type "function", data := Data.func { tFn (tStmt 21) with qualname := Str.ofString "_law_told", globals := 3, closure := [], defaults := Value.none, kwdefaults := Value.none, pyModule := Value.str (Str.ofString "law_in0117_01") 516, code := Value.ref 235 } }) ::
  (nat_lit 237, { cls := Value.type "tuple", data := Data.seq #[] }) ::
  (nat_lit 240, { cls := Value.type "code", data := Data.fields #[Value.str (Str.ofString "_law_all") 545, Value.str (Str.ofString "_law_all") 546, Value.str (Str.ofString "/claim/cut.py") 547, Value.int 247 0, Value.int 3 0, Value.int 0 0, Value.int 0 0, Value.int 3 0, Value.ref 237, Value.bool true, Value.int 181 0, Value.ref 238, Value.none, Value.none, Value.none, Value.ref 239, Value.int 548 0, Value.int 247 0, Value.str (Str.ofString "/claim/cut.py") 549] }) ::
  (nat_lit 241, { cls := Value.type "function", data := Data.func { tFn (tStmt 22) with qualname := Str.ofString "_law_all", globals := 3, closure := [], defaults := Value.none, kwdefaults := Value.none, pyModule := Value.str (Str.ofString "law_in0117_01") 516, code := Value.ref 240 } }) ::
  (nat_lit 242, { cls := Value.type "tuple", data := Data.seq #[] }) ::
  (nat_lit 245, { cls := Value.type "code", data := Data.fields #[Value.str (Str.ofString "_law_popped") 551, Value.str (Str.ofString "_law_popped") 552, Value.str (Str.ofString "/claim/cut.py") 553, Value.int 250 0, Value.int 1 0, Value.int 0 0, Value.int 0 0, Value.int 3 0, Value.ref 242, Value.bool true, Value.int 181 0, Value.ref 243, Value.none, Value.none, Value.none, Value.ref 244, Value.int 554 0, Value.int 250 0, Value.str (Str.ofString "/claim/cut.py") 555] }) ::
  (nat_lit 246, { cls := Value.type "function", data := Data.func { tFn (tStmt 23) with qualname := Str.ofString "_law_popped", globals := 3, closure := [], defaults := Value.none, kwdefaults := Value.none, pyModule := Value.str (Str.ofString "law_in0117_01") 516, code := Value.ref 245 } }) ::
  (nat_lit 247, { cls := Value.type "tuple", data := Data.seq #[] }) ::
  (nat_lit 249, { cls := Value.type "tuple", data := Data.seq #[Value.str (Str.ofString "one") 560, Value.str (Str.ofString "two") 561, Value.str (Str.ofString "told") 562, Value.str (Str.ofString "text") 563, Value.str (Str.ofString "row") 564] }) ::
  (nat_lit 250, { cls := Value.type "tuple", data := Data.seq #[] }) ::
  (nat_lit 252, { cls := Value.type "code", data := Data.fields #[Value.str (Str.ofString "_law_counted") 557, Value.str (Str.ofString "_law_counted") 558, Value.str (Str.ofString "/claim/cut.py") 559, Value.int 255 0, Value.int 2 0, Value.int 0 0, Value.int 0 0, Value.int 3 0, Value.ref 247, Value.bool true, Value.int 181 0, Value.ref 248, Value.none, Value.ref 249, Value.ref 250, Value.ref 251, Value.int 565 0, Value.int 255 0, Value.str (Str.ofString "/claim/cut.py") 566] }) ::
  (nat_lit 253, { cls := Value.type "function", data := Data.func { tFn (tStmt 24) with qualname := Str.ofString "_law_counted", globals := 3, closure := [], defaults := Value.none, kwdefaults := Value.none, pyModule := Value.str (Str.ofString "law_in0117_01") 516, code := Value.ref 252 } }) ::
  (nat_lit 254, { cls := Value.type "tuple", data := Data.seq #[] }) ::
  (nat_lit 257, { cls := Value.type "code", data := Data.fields #[Value.str (Str.ofString "_law_more") 568, Value.str (Str.ofString "_law_more") 569, Value.str (Str.ofString "/claim/cut.py") 570, Value.int 262 0, Value.int 2 0, Value.int 0 0, Value.int 0 0, Value.int 3 0, Value.ref 254, Value.bool true, Value.int 181 0, Value.ref 255, Value.none, Value.none, Value.none, Value.ref 256, Value.int 571 0, Value.int 262 0, Value.str (Str.ofString "/claim/cut.py") 572] }) ::
  (nat_lit 258, { cls := Value.type "function", data := Data.func { tFn (tStmt 25) with qualname := Str.ofString "_law_more", globals := 3, closure := [], defaults := Value.none, kwdefaults := Value.none, pyModule := Value.str (Str.ofString "law_in0117_01") 516, code := Value.ref 257 } }) ::
  (nat_lit 259, { cls := Value.type "tuple", data := Data.seq #[] }) ::
  (nat_lit 262, { cls := Value.type "code", data := Data.fields #[Value.str (Str.ofString "law") 574, Value.str (Str.ofString "law") 575, Value.str (Str.ofString "/claim/cut.py") 576, Value.int 265 0, Value.int 1 0, Value.int 0 0, Value.int 0 0, Value.int 3 0, Value.ref 259, Value.bool true, Value.int 181 0, Value.ref 260, Value.none, Value.none, Value.none, Value.ref 261, Value.int 577 0, Value.int 265 0, Value.str (Str.ofString "/claim/cut.py") 578] }) ::
  (nat_lit 263, { cls := Value.type "function", data := Data.func { tFn (tStmt 26) with qualname := Str.ofString "law", globals := 3, closure := [], defaults := Value.none, kwdefaults := Value.none, pyModule := Value.str (Str.ofString "law_in0117_01") 516, code := Value.ref 262 } }) :: []
noncomputable def fragAt : List Addr := 2 :: 3 :: 15 :: 17 :: 18 :: 20 :: 21 :: 22 :: 24 :: 25 :: 27 :: 28 :: 29 :: 31 :: 32 :: 34 :: 35 :: 36 :: 38 :: 39 :: 41 :: 42 :: 43 :: 45 :: 46 :: 48 :: 49 :: 50 :: 52 :: 53 :: 55 :: 56 :: 57 :: 59 :: 60 :: 62 :: 63 :: 64 :: 66 :: 67 :: 69 :: 70 :: 78 :: 80 :: 81 :: 83 :: 84 :: 85 :: 86 :: 88 :: 89 :: 91 :: 92 :: 93 :: 95 :: 96 :: 98 :: 99 :: 100 :: 102 :: 103 :: 105 :: 106 :: 107 :: 108 :: 109 :: 110 :: 111 :: 114 :: 116 :: 117 :: 119 :: 120 :: 121 :: 123 :: 124 :: 126 :: 127 :: 128 :: 130 :: 131 :: 133 :: 134 :: 135 :: 138 :: 143 :: 144 :: 145 :: 146 :: 148 :: 149 :: 151 :: 152 :: 153 :: 155 :: 156 :: 158 :: 159 :: 160 :: 161 :: 162 :: 163 :: 164 :: 166 :: 167 :: 169 :: 170 :: 171 :: 173 :: 174 :: 176 :: 177 :: 178 :: 180 :: 181 :: 183 :: 184 :: 185 :: 187 :: 188 :: 190 :: 191 :: 192 :: 193 :: 194 :: 196 :: 197 :: 199 :: 200 :: 202 :: 204 :: 205 :: 206 :: 209 :: 211 :: 212 :: 214 :: 215 :: 216 :: 218 :: 219 :: 221 :: 222 :: 223 :: 225 :: 226 :: 228 :: 229 :: 230 :: 232 :: 233 :: 235 :: 236 :: 237 :: 240 :: 241 :: 242 :: 245 :: 246 :: 247 :: 249 :: 250 :: 252 :: 253 :: 254 :: 257 :: 258 :: 259 :: 262 :: 263 :: []
theorem fragOk (P : Params) : fragAt = (frag P).map (·.1) := by kernel_rfl
noncomputable def tView : Program := view tPg [0, 2, 3, 4, 6, 7, 8, 9, 11, 12, 13, 14, 15, 16, 17, 19, 20, 21, 22, 23, 24, 25, 26]
/-- the top's run, whole -/
theorem topRuns : LeftO PySem.Challenge.rw_in0117_01.row.prog tView [Str.ofString "_tuplegetter", Str.ofString "Mismatch", Str.ofString "_Mismatch"] (fun s => xlAt tView [] s && recOk (RowW.records PySem.Challenge.rw_in0117_01.row.toRowW) s) (kmHook frag fragAt fragOk [224]).obs (kmHook frag fragAt fragOk [224]).val 4218 := fun w => by kernel_rfl
theorem topHead {d : DefRec} {kwd : List (Str × PySem.Expr)} (hdef : defOf tView PySem.Challenge.rw_in0117_01.row.name = some (d, kwd)) (hp : PySem.Challenge.rw_in0117_01.row.prog.theDef PySem.Challenge.rw_in0117_01.row.name = some (d.params, d.body, d.scope)) (hk : kwWritten? d.params.kwonlyargs d.params.kw_defaults = some kwd)
    (walk : WalkO tView [Str.ofString "_tuplegetter", Str.ofString "Mismatch", Str.ofString "_Mismatch"] (XL tView []) (kmHook frag fragAt fragOk [224]).says PySem.Challenge.rw_in0117_01.row.toRowW d kwd fun f vs => PySem.call f vs) : PySem.Challenge.rw_in0117_01.Holds := by
  refine holds_law (by kernel_rfl) fun said => ?_
  refine PySem.W.holds_open (q := tView) (loose := [Str.ofString "_tuplegetter", Str.ofString "Mismatch", Str.ofString "_Mismatch"]) (Xt := fun s => xlAt tView [] s && recOk (RowW.records PySem.Challenge.rw_in0117_01.row.toRowW) s) (XP := XL tView []) (Yf := (kmHook frag fragAt fragOk [224]).obs) (Ya := (kmHook frag fragAt fragOk [224]).val) (YP := (kmHook frag fragAt fragOk [224]).says) (N := 4218) topRuns (kmHook frag fragAt fragOk [224]).of (kmHook frag fragAt fragOk [224]).keeps (fun s e => xl_of s (Bool.and_eq_true_iff.mp e).1) XL.keeps hdef hp hk (fun s e => recFacts_of (Bool.and_eq_true_iff.mp e).2) rfl (by first | assumption | decide +kernel) (by decide +kernel) ⟨rfl, rfl, rfl, rfl, rfl, by decide +kernel⟩ ?hw walk
  case hw => w_witness2
end
section
theorem sa_setL {x : Str} {u : Tok} {vs : List Value} {xs : List Str} (h : StrsAre vs xs) : ∀ j : Nat, StrsAre (vs.set j (.str x u)) (xs.set j x) := by
  induction h with
  | nil => exact fun _ => .nil
  | cons i t h ih =>
    intro j
    cases j with
    | zero => exact .cons x u h
    | succ j => exact .cons i t (ih j)
theorem sa_getD {vs : List Value} {xs : List Str} (h : StrsAre vs xs) {j : Nat} (hj : j < xs.length) : ∃ t, vs[j]? = some (.str (xs.getD j Str.empty) t) := by
  obtain ⟨t, ht⟩ := h.get j xs[j] (List.getElem?_eq_getElem hj)
  exact ⟨t, by rw [ht]; simp [List.getD, List.getElem?_eq_getElem hj]⟩

section
variable {prog : Program} {w : World} {A : Around} {E : Value → Shared → Prop} {s : Shared} {h₀ : Heap} {L D : Addr} {m : Str → Option Value} {news news' : List (Addr × Obj)} {vs : List Value} {xs : List Str} {n : Nat} {k : Int} {x : Str} {t u : Tok}
theorem sa_set {Q : Unit → Shared → Prop} (F : Fr h₀ L s.heap m) (N : News h₀ L s.heap news) (U : Upd D (listOf vs.toArray n) (listOf (vs.set k.toNat (.str x u)).toArray n) news news') (hi : StrsAre vs xs) (h0 : 0 ≤ k) (h1 : k < xs.length) (hfit : k < 2 ^ 63)
    (h : ∀ h', Fr h₀ L h' m → News h₀ L h' news' → StrsAre (vs.set k.toNat (.str x u)) (xs.set k.toNat x) → (xs.set k.toNat x).length = xs.length → Q () { s with heap := h' }) :
    wpAny (model prog w) A (setItem (.ref D) (.int k t) (.str x u)) Q E s := by
  obtain ⟨pre, post, rfl, rfl, a, b⟩ := U.split
  have z := N (D, listOf vs.toArray n) (List.mem_append.mpr (.inr (.head _)))
  have hl : vs.length = xs.length := hi.length
  have hs : vs.toArray.size = xs.length := by rw [List.size_toArray]; exact hl
  refine ki_setAt z.1 h0 hfit (by omega) (h _ (F.change (Heap.SameBut.update ..) z.2.1 z.2.2) (ki_turn _ N a b ?_ ?_) (sa_setL hi _) (List.length_set ..))
  · show vs.toArray.setIfInBounds k.toNat (.str x u) = (vs.set k.toNat (.str x u)).toArray
    apply Array.toList_inj.mp
    simp
  · simp
theorem sa_get {Q : Value → Shared → Prop} (N : News h₀ L s.heap news) (hm : (D, listOf vs.toArray n) ∈ news) (hi : StrsAre vs xs) (h0 : 0 ≤ k) (h1 : k < xs.length) (hfit : k < 2 ^ 63) (h : ∀ t, Q (.str (xs.getD k.toNat Str.empty) t) s) :
    wpAny (model prog w) A (getItem (.ref D) (.int k u)) Q E s := by
  obtain ⟨t, ht⟩ := sa_getD hi (j := k.toNat) (by omega)
  exact wpAny_getItem_list (PySem.IsL.isList (n := n) (N _ hm).1) h0 hfit (by simpa using ht) (h t)
theorem sa_sub {value slice : PySem.Expr} {Q : Value → Shared → Prop} (N : News h₀ L s.heap news) (hm : (D, listOf vs.toArray n) ∈ news) (hi : StrsAre vs xs) (h0 : 0 ≤ k) (h1 : k < xs.length) (hfit : k < 2 ^ 63) (h : ∀ t, Q (.str (xs.getD k.toNat Str.empty) t) s)
    (hs : subscripted slice false (.ref D) (.int k u) = operate [.ref D, .int k u] (getItem (.ref D) (.int k u)) := by with_unfolding_all rfl) :
    wpAny (model prog w) A (subscriptTail value slice (.ref D) (.int k u)) Q E s :=
  tail_any (PySem.IsL.isList (n := n) (N _ hm).1).typeIs slot_list_getitem.lookup (sa_get N hm hi h0 h1 hfit h) hs
theorem sa_len {Q : Value → Shared → Prop} (N : News h₀ L s.heap news) (hm : (D, listOf vs.toArray n) ∈ news) (hi : StrsAre vs xs) (hf : xs.length < 2 ^ 62)
    (h : Q (.int xs.length (s.toks + 1)) { s with toks := s.toks + 1 + 1 }) : wpAny (model prog w) A (call (.builtin "len") [.ref D]) Q E s := by
  have hl : vs.length = xs.length := hi.length
  have hs : vs.toArray.size = xs.length := by rw [List.size_toArray]; exact hl
  have e : ((vs.toArray.size : Nat) : Int) = (xs.length : Int) := by rw [hs]
  refine len_list (PySem.IsL.isList (n := n) (N _ hm).1) (by rw [e]; omega) ?_
  rw [e]; exact h
end

/-- the order of two texts -/
noncomputable def slt (x y : Str) : Bool := decide (x.cps.toList < y.cps.toList)

inductive Del (a : Addr) (o : Obj) : List (Addr × Obj) → List (Addr × Obj) → Prop
  | head {r} : (∀ p ∈ r, p.1 ≠ a) → Del a o ((a, o) :: r) r
  | tail {p r r'} : p.1 ≠ a → Del a o r r' → Del a o (p :: r) (p :: r')
theorem Del.mem {a : Addr} {o : Obj} {l r : List (Addr × Obj)} (d : Del a o l r) : ∀ q ∈ (a, o) :: r, q ∈ l := by
  induction d with
  | head _ => exact fun _ hq => hq
  | tail h d ih =>
    intro q hq
    rcases List.mem_cons.mp hq with rfl | hq
    · exact .tail _ (ih _ (.head _))
    · rcases List.mem_cons.mp hq with rfl | hq
      · exact .head _
      · exact .tail _ (ih _ (.tail _ hq))
theorem Del.ne {a : Addr} {o : Obj} {l r : List (Addr × Obj)} (d : Del a o l r) : ∀ q ∈ r, q.1 ≠ a := by
  induction d with
  | head h => exact h
  | tail h d ih =>
    intro q hq
    rcases List.mem_cons.mp hq with rfl | hq
    · exact h
    · exact ih q hq
theorem Del.news {a : Addr} {o : Obj} {l r : List (Addr × Obj)} (d : Del a o l r) {h₀ h : Heap} {L : Addr} (N : News h₀ L h l) : News h₀ L h ((a, o) :: r) := fun q hq => N q (d.mem q hq)

section
variable {prog : Program} {w : World} {A : Around} {E : Value → Shared → Prop} {s : Shared} {x y : Str} {t u : Tok} {a : Int}
theorem fd2 (a : Int) : a.fdiv (2 ^ Int.toNat 1) = a / 2 := by
  show a.fdiv 2 = a / 2
  exact Int.fdiv_eq_ediv_of_nonneg a (by decide)
theorem rsh1 {Q : Value → Shared → Prop} (h : Q (.int (a / 2) s.toks) { s with toks := s.toks + 1 }) : wpAny (model prog w) A (binaryOp .RShift (.int a t) (.int 1 u)) Q E s :=
  rshift_int (by decide) (by rw [fd2]; exact h)
theorem lt_s {Q : Value → Shared → Prop} (h : Q (.bool (slt x y)) s) : wpAny (model prog w) A (compareOp .Lt (.str x t) (.str y u)) Q E s := lt_str h
theorem gt_s {Q : Value → Shared → Prop} (h : Q (.bool (slt y x)) s) : wpAny (model prog w) A (compareOp .Gt (.str x t) (.str y u)) Q E s := P.gt_str h
end

/-- what a call of the def at f may promise: the ledger before, the ledger and the value behind -/
noncomputable def CallOk (w : World) (f : Addr) (args : List Value) (led : List (Addr × Obj)) (d u : Nat) (post : Value → List (Addr × Obj) → Prop) : Prop :=
  ∀ (loose : List Str) (mean : ExcName → Option Value) (mg mb : Str → Option Value) (p : Program) (dp un : Nat) (gd : Option (List Code)) (cn : Str) (cs : Scope) (a : Addr) (ccd : Value) (cl : List (Str × Addr)) (outer : List Env) (A₀ : Around) (base h₀ : Heap) (L : Addr) (m : Str → Option Value) (sh : Heap) (sg : Array GenState) (sd : Drawn) (st : Nat) (so : OsState) (Q E : Value → Shared → Prop),
    Below A₀ base outer h₀ → Fr h₀ L sh m → (frag w.params).In h₀ → News h₀ L sh led → Top p loose mean mg mb h₀ → cs.kind = .function → dp + d < recursionLimit → un + u < cLine →
    (∀ r led' h' tk', post r led' → Fr h₀ L h' m → News h₀ L h' led' → Q r ⟨h', sg, sd, tk', so⟩) →
    wpAny (model PySem.Challenge.rw_in0117_01.prog w) (ktrTop dp un gd cn cs L a ccd cl outer) (call (.ref f) args) Q E ⟨sh, sg, sd, st, so⟩
theorem call_use {w : World} {f : Addr} {args : List Value} {led : List (Addr × Obj)} {d u : Nat} {post : Value → List (Addr × Obj) → Prop} (h : CallOk w f args led d u post)
    {loose : List Str} {mean : ExcName → Option Value} {mg mb : Str → Option Value} {p : Program} {dp un : Nat} {gd : Option (List Code)} {cn : Str} {cs : Scope} {a : Addr} {ccd : Value} {cl : List (Str × Addr)} {outer : List Env} {A₀ : Around} {base h₀ : Heap} {L : Addr} {m : Str → Option Value} {s : Shared} {Q E : Value → Shared → Prop}
    (B : Below A₀ base outer h₀) (F : Fr h₀ L s.heap m) (X : (frag w.params).In h₀) (N : News h₀ L s.heap led) (T : Top p loose mean mg mb h₀) (hk : cs.kind = .function) (hd : dp + d < recursionLimit) (hu : un + u < cLine)
    (ret : ∀ r led' h' tk', post r led' → Fr h₀ L h' m → News h₀ L h' led' → Q r { s with heap := h', toks := tk' }) :
    wpAny (model PySem.Challenge.rw_in0117_01.prog w) (ktrTop dp un gd cn cs L a ccd cl outer) (call (.ref f) args) Q E s := h _ _ _ _ _ _ _ _ _ _ _ _ _ _ _ _ _ _ _ _ _ _ _ _ _ _ B F X N T hk hd hu ret
section
variable {prog : Program} {w : World} {A : Around} {E : Value → Shared → Prop} {s : Shared} {h₀ : Heap} {L D : Addr} {m : Str → Option Value} {news news' : List (Addr × Obj)} {vs : List Value} {xs : List Str} {n : Nat} {k : Int} {x : Str} {t u : Tok}
theorem sa_append {Q : Value → Shared → Prop} (F : Fr h₀ L s.heap m) (N : News h₀ L s.heap news) (U : Upd D (listOf vs.toArray n) (listOf (vs ++ [Value.str x t]).toArray (n + 1)) news news') (hi : StrsAre vs xs) (hl : xs.length < 16777216)
    (h : ∀ h', Fr h₀ L h' m → News h₀ L h' news' → StrsAre (vs ++ [Value.str x t]) (xs ++ [x]) → (xs ++ [x]).length = xs.length + 1 → Q .none { s with heap := h' }) : wpAny (model prog w) A (call (.builtin "list.append") [.ref D, .str x t]) Q E s := by
  have e : vs.toArray.push (.str x t) = (vs ++ [Value.str x t]).toArray := by simp
  refine append_K (its := vs.toArray) (n := n) F N (by rw [e]; exact U) (fun h' F' N' => h h' F' N' (hi.append' (.cons x t .nil)) (by simp)) ?_
  have := hi.length
  rw [List.size_toArray, sizeLine_eq]; omega
end
section
variable {prog : Program} {w : World} {A : Around} {E : Value → Shared → Prop} {s : Shared} {h₀ : Heap} {L D : Addr} {m : Str → Option Value} {news news' : List (Addr × Obj)} {vs : List Value} {xs : List Str} {n : Nat} {k : Int} {x : Str} {t u : Tok}
theorem sa_pop {Q : Value → Shared → Prop} (F : Fr h₀ L s.heap m) (N : News h₀ L s.heap news) (U : Upd D (listOf vs.toArray n) (listOf vs.dropLast.toArray (n + 1)) news news') (hi : StrsAre vs xs) (h1 : 0 < xs.length) (hl : xs.length < 16777216)
    (h : ∀ t h', Fr h₀ L h' m → News h₀ L h' news' → StrsAre vs.dropLast xs.dropLast → xs.dropLast.length = xs.length - 1 → Q (.str (xs.getD (xs.length - 1) Str.empty) t) { s with heap := h' }) : wpAny (model prog w) A (call (.builtin "list.pop") [.ref D]) Q E s := by
  obtain ⟨pre, post, rfl, rfl, a, b⟩ := U.split
  have z := N (D, listOf vs.toArray n) (List.mem_append.mpr (.inr (.head _)))
  have hv := hi.length
  obtain ⟨t, ht⟩ := sa_getD hi (j := xs.length - 1) (by omega)
  have e : vs.toArray.pop = vs.dropLast.toArray := by simp
  refine Copied.pop_at (its := vs.toArray) (n := n) z.1 (y := .str (xs.getD (xs.length - 1) Str.empty) t) ?_ (fun h' hs ho' => h t h' (F.change hs z.2.1 z.2.2) (news_set N a b hs (by rw [ho', e])) (strsAre_dropLast hi) (List.length_dropLast ..)) ?_
  · rw [List.size_toArray, hv]; simpa using ht
  · rw [List.size_toArray, sizeLine_eq]; omega
theorem sa_truthy {Q : Bool → Shared → Prop} (N : News h₀ L s.heap news) (hm : (D, listOf vs.toArray n) ∈ news) (hi : StrsAre vs xs) (hf : xs.length < 2 ^ 62)
    (h : Q (decide (0 < xs.length)) { s with toks := s.toks + 1 + 1 }) : wpAny (model prog w) A (truthy (.ref D)) Q E s := by
  have hv := hi.length
  refine wpAny_truthy_list (PySem.IsL.isList (n := n) (N _ hm).1) (by rw [List.size_toArray, hv]; omega) ?_
  have e : (!vs.toArray.isEmpty) = decide (0 < xs.length) := by
    cases hi with
    | nil => rfl
    | cons _ _ _ => simp
  rw [e]; exact h
end
theorem allNe {l : List (Addr × Obj)} {b D : Nat} (h : ∀ p ∈ l, p.1 < b) (hb : b ≤ D) : ∀ p ∈ l, p.1 ≠ D := fun p hp => Nat.ne_of_lt (Nat.lt_of_lt_of_le (h p hp) hb)
theorem sa_item {vs : List Value} {xs : List Str} (h : StrsAre vs xs) {i : Nat} {v : Value} (hv : vs[i]? = some v) : i < xs.length ∧ ∃ t, v = .str (xs.getD i Str.empty) t := by
  have hl := h.length
  have hi : i < xs.length := by
    rw [← hl]
    exact (List.getElem?_eq_some_iff.mp hv).1
  obtain ⟨t, ht⟩ := sa_getD h hi
  exact ⟨hi, t, Option.some.inj (hv.symm.trans ht)⟩
theorem two_at {α : Type} {a b v : α} {i : Nat} (h : [a, b][i]? = some v) : (i = 0 ∧ v = a) ∨ (i = 1 ∧ v = b) := by
  rcases i with _ | _ | i
  · exact .inl ⟨rfl, (Option.some.inj h).symm⟩
  · exact .inr ⟨rfl, (Option.some.inj h).symm⟩
  · exact absurd h (by simp)
theorem two_list {α : Type} {l : List α} (h : l.length = 2) : ∃ a b, l = [a, b] := by
  rcases l with _ | ⟨a, _ | ⟨b, _ | ⟨c, l⟩⟩⟩
  · cases h
  · cases h
  · exact ⟨a, b, rfl⟩
  · cases h
/-! products, taken apart at once -/
theorem all_oxxxxxe {α0 α1 α2 α3 α4 : Type} {R : (α0 × α1 × α2 × α3 × α4) → Prop} (h : ∀ a0 a1 a2 a3 a4, R (a0, a1, a2, a3, a4)) : ∀ x, R x := fun _ => h _ _ _ _ _
theorem all_oxxxxxxxe {α0 α1 α2 α3 α4 α5 α6 : Type} {R : (α0 × α1 × α2 × α3 × α4 × α5 × α6) → Prop} (h : ∀ a0 a1 a2 a3 a4 a5 a6, R (a0, a1, a2, a3, a4, a5, a6)) : ∀ x, R x := fun _ => h _ _ _ _ _ _ _
theorem all_oxxxxoxxxeoxxxee {α0 α1 α2 α3 α4 α5 α6 α7 α8 α9 : Type} {R : (α0 × α1 × α2 × α3 × (α4 × α5 × α6) × α7 × α8 × α9) → Prop} (h : ∀ a0 a1 a2 a3 a4 a5 a6 a7 a8 a9, R (a0, a1, a2, a3, (a4, a5, a6), (a7, a8, a9))) : ∀ x, R x := fun _ => h _ _ _ _ _ _ _ _ _ _
theorem all_oxxe {α0 α1 : Type} {R : (α0 × α1) → Prop} (h : ∀ a0 a1, R (a0, a1)) : ∀ x, R x := fun _ => h _ _
theorem all_ooxxxeoxxxeoxxxee {α0 α1 α2 α3 α4 α5 α6 α7 α8 : Type} {R : ((α0 × α1 × α2) × (α3 × α4 × α5) × α6 × α7 × α8) → Prop} (h : ∀ a0 a1 a2 a3 a4 a5 a6 a7 a8, R ((a0, a1, a2), (a3, a4, a5), (a6, a7, a8))) : ∀ x, R x := fun _ => h _ _ _ _ _ _ _ _ _
theorem all_ooxxeoxxeoxxexe {α0 α1 α2 α3 α4 α5 α6 : Type} {R : ((α0 × α1) × (α2 × α3) × (α4 × α5) × α6) → Prop} (h : ∀ a0 a1 a2 a3 a4 a5 a6, R ((a0, a1), (a2, a3), (a4, a5), a6)) : ∀ x, R x := fun _ => h _ _ _ _ _ _ _
theorem all_oxxxe {α0 α1 α2 : Type} {R : (α0 × α1 × α2) → Prop} (h : ∀ a0 a1 a2, R (a0, a1, a2)) : ∀ x, R x := fun _ => h _ _ _
theorem all_ooxxeoxxexe {α0 α1 α2 α3 α4 : Type} {R : ((α0 × α1) × (α2 × α3) × α4) → Prop} (h : ∀ a0 a1 a2 a3 a4, R ((a0, a1), (a2, a3), a4)) : ∀ x, R x := fun _ => h _ _ _ _ _
theorem all_oxxxxe {α0 α1 α2 α3 : Type} {R : (α0 × α1 × α2 × α3) → Prop} (h : ∀ a0 a1 a2 a3, R (a0, a1, a2, a3)) : ∀ x, R x := fun _ => h _ _ _ _
end
section
section
variable {prog : Program} {w : World} {A : Around} {E : Value → Shared → Prop} {s : Shared} {env : Env} {h₀ : Heap} {x : Str} {body : List Stmt} {Q : Flow → Shared → Prop}
/-- a turn's end of a loop over a list: its own objects, and R that it leaves alone -/
noncomputable def FlEnd {σ : Type} (h₀ : Heap) (L : Addr) (mt : σ → List (Addr × Obj)) (ps : σ → List (Str × Value)) (stored : List Str) (m₀ : Str → Option Value) (x : Str) (P : Nat → σ → Prop) (R : List (Addr × Obj)) (i : Nat) (s₁ s₂ : Shared) : Prop :=
  ∃ (c : σ) (h' : Heap) (tk : Nat) (m' : Str → Option Value) (news' : List (Addr × Obj)), s₂ = { s₁ with heap := h', toks := tk } ∧ Fr h₀ L h' m' ∧ News h₀ L h' news' ∧ (∀ p ∈ mt c ++ R, p ∈ news') ∧ OwnOff R ((mt c).map (·.1)) ∧ (∀ p ∈ ps c, m' p.1 = some p.2) ∧
    (∀ z, z ≠ x → (∀ p ∈ ps c, z ≠ p.1) → stored.contains z = false → m' z = m₀ z) ∧ P (i + 1) c
noncomputable def FlPost {σ : Type} (h₀ : Heap) (L : Addr) (mt : σ → List (Addr × Obj)) (ps : σ → List (Str × Value)) (stored : List Str) (m₀ : Str → Option Value) (x : Str) (P : Nat → σ → Prop) (R : List (Addr × Obj)) (i : Nat) (s₁ : Shared) (Q : Flow → Shared → Prop) (f : Flow) (s₂ : Shared) : Prop :=
  match f with
  | .ret v => Q (.ret v) s₂
  | .brk => Q .next s₂
  | _ => FlEnd h₀ L mt ps stored m₀ x P R i s₁ s₂
theorem fl_end {σ : Type} {L : Addr} {mt : σ → List (Addr × Obj)} {ps : σ → List (Str × Value)} {stored : List Str} {m₀ m' : Str → Option Value} {P : Nat → σ → Prop} {R news' : List (Addr × Obj)} {i : Nat} {s₁ : Shared} {h' : Heap} {tk : Nat} (c : σ)
    (F : Fr h₀ L h' m') (N : News h₀ L h' news') (hn : ∀ p ∈ mt c ++ R, p ∈ news') (ho : OwnOff R ((mt c).map (·.1))) (hk : ∀ p ∈ ps c, m' p.1 = some p.2) (hr : ∀ z, z ≠ x → (∀ p ∈ ps c, z ≠ p.1) → stored.contains z = false → m' z = m₀ z) (hp : P (i + 1) c) :
    FlEnd h₀ L mt ps stored m₀ x P R i s₁ { s₁ with heap := h', toks := tk } := ⟨c, h', tk, m', news', rfl, F, N, hn, ho, hk, hr, hp⟩
theorem for_led {σ : Type} {l : Addr} {vs : List Value} {nn : Nat} {m₀ : Str → Option Value} (mt : σ → List (Addr × Obj)) (R₀ : List (Addr × Obj)) (ps : σ → List (Str × Value)) (stored : List Str) (P : Nat → σ → Prop) (c₀ : σ)
    (hh : A.handled = none) (hl : (l, listOf vs.toArray nn) ∈ R₀) (F : Fr h₀ env.locals s.heap m₀) (N : News h₀ env.locals s.heap (mt c₀ ++ R₀)) (hR : OwnOff R₀ ((mt c₀).map (·.1))) (hk : ∀ p ∈ ps c₀, m₀ p.1 = some p.2) (hp : P 0 c₀)
    (turn : ∀ (c : σ) i v (u : Str → Option Value) h tk R, vs[i]? = some v → (∀ q ∈ R₀, q ∈ R) → OwnOff R ((mt c).map (·.1)) → P i c →
      Fr h₀ env.locals h (fun y => if y = x then some v else kstB (fun z => if stored.contains z then u z else m₀ z) (ps c) y) → News h₀ env.locals h (mt c ++ R) →
      wpAny (model prog w) A (execs body env) (FlPost h₀ env.locals mt ps stored m₀ x P R i { s with heap := h, toks := tk } Q) E { s with heap := h, toks := tk })
    (done : ∀ (c : σ) (u : Str → Option Value) h tk, P vs.length c → OwnOff R₀ ((mt c).map (·.1)) → Fr h₀ env.locals h (fun y => if y = x then u y else kstB (fun z => if stored.contains z then u z else m₀ z) (ps c) y) → News h₀ env.locals h (mt c ++ R₀) → Q .next { s with heap := h, toks := tk }) :
    wpAny (model prog w) A (pyIter (.ref l)) (fun it s₂ => LoopAtV prog w A h₀ env x body Q E it s₂) E s := by
  refine kdl_iter (news := mt c₀ ++ R₀) (fun i m nx => ∃ c : σ, nx = mt c ++ R₀ ∧ OwnOff R₀ ((mt c).map (·.1)) ∧ (∀ p ∈ ps c, m p.1 = some p.2) ∧ (∀ z, z ≠ x → (∀ p ∈ ps c, z ≠ p.1) → stored.contains z = false → m z = m₀ z) ∧ P i c)
    hh (List.mem_append.mpr (.inr hl)) F N ⟨c₀, rfl, hR, hk, fun _ _ _ _ => rfl, hp⟩ ?_ ?_
  · rintro i v m₁ nx h tk own hv hoff hl₁ ⟨c, rfl, ho, h1, h2, hp'⟩ F₁ N₁
    have o1 : OwnOff own ((mt c).map (·.1)) := fun p hp b hb => hoff p hp b (by rw [List.map_append]; exact List.mem_append.mpr (.inl hb))
    have o2 : OwnOff own (R₀.map (·.1)) := fun p hp b hb => hoff p hp b (by rw [List.map_append]; exact List.mem_append.mpr (.inr hb))
    have N₂ : News h₀ env.locals h (mt c ++ (R₀ ++ own)) := by rw [← List.append_assoc]; exact N₁
    refine wpAny_mono (turn c i v m₁ h tk (R₀ ++ own) hv (fun q hq => List.mem_append.mpr (.inl hq)) (fun p hp b hb => (List.mem_append.mp hp).elim (fun h9 => ho p h9 b hb) fun h9 => o1 p h9 b hb) hp' (kst_fr h1 h2 F₁) N₂) (fun f s₂ q => ?_) fun _ _ e => e
    have up : FlEnd h₀ env.locals mt ps stored m₀ x P (R₀ ++ own) i { s with heap := h, toks := tk } s₂ → InvEndG h₀ env.locals (fun m' nx => (l, listOf vs.toArray nn) ∈ nx ∧ ∃ c : σ, nx = mt c ++ R₀ ∧ OwnOff R₀ ((mt c).map (·.1)) ∧ (∀ p ∈ ps c, m' p.1 = some p.2) ∧ (∀ z, z ≠ x → (∀ p ∈ ps c, z ≠ p.1) → stored.contains z = false → m' z = m₀ z) ∧ P (i + 1) c) own { s with heap := h, toks := tk } s₂ := by
      rintro ⟨c', h', tk', m', news', e, F', N', hn, ho', hk', hr', hp9⟩
      refine ⟨h', tk', m', news', mt c' ++ R₀, e, F', N', fun p hp => hn p ?_, fun p hp => hn p ?_, fun p hp b hb => ?_, List.mem_append.mpr (.inr hl), c', rfl, fun p hp b hb => ho' p (List.mem_append.mpr (.inl hp)) b hb, hk', hr', hp9⟩
      · rcases List.mem_append.mp hp with h9 | h9
        · exact List.mem_append.mpr (.inl h9)
        · exact List.mem_append.mpr (.inr (List.mem_append.mpr (.inl h9)))
      · exact List.mem_append.mpr (.inr (List.mem_append.mpr (.inr hp)))
      · rw [List.map_append] at hb
        rcases List.mem_append.mp hb with h9 | h9
        · exact ho' p (List.mem_append.mpr (.inr hp)) b h9
        · exact o2 p hp b h9
    cases f with
    | ret v => exact q
    | brk => exact q
    | next => exact up q
    | cont => exact up q
  · rintro m₁ nx h tk ⟨c, rfl, ho, h1, h2, hp'⟩ F₁ N₁
    exact done c m₁ h tk hp' ho (kst_frOut h1 h2 F₁) N₁
end
section
open PyProof.Rows.LCg PyProof.Rows.LCt
variable {prog : Program} {w : World} {A : Around} {s : Shared} {h₀ : Heap} {L : Addr} {m : Str → Option Value} {env : Env}
theorem compEnd_mono {s₁ s₂ : Shared} {I C D : Addr} {oI oC oD : Obj} {S : List (Addr × Obj) → Prop} {rest rest' : Value → List (Addr × Obj) → Prop} {y : Value} (h : CompEnd h₀ L m s₁ I oI C oC D oD S rest y s₂) (hm : ∀ n, rest y n → rest' y n) : CompEnd h₀ L m s₁ I oI C oC D oD S rest' y s₂ := by
  obtain ⟨h', tk, news', e, F, N, o, hS, r⟩ := h
  exact ⟨h', tk, news', e, F, N, o, hS, hm _ r⟩
/-- the turns of a comprehension of any length, by what holds between them -/
theorem comp_ind {elt : Expr} {x : Str} {scope : Scope} {cl : List (Str × Addr)} {S : List (Addr × Obj) → Prop} {P : Nat → Value → Prop} {Fin : List Value → List (Addr × Obj) → Prop} {n : Nat} (J : Nat → List Value → List (Addr × Obj) → Prop)
    (step : ∀ i ys news v I oI C oC D m₂ h tk (E' : Value → Shared → Prop), i < n → J i ys news → P i v → NsObj oC m₂ → m₂ x = some v → Fr h₀ L h m → News h₀ L h ((I, oI) :: (C, oC) :: (D, lst ys) :: news) → Off3 I C D news → ((@Ne Nat I C) ∧ (@Ne Nat I D) ∧ (@Ne Nat C D)) →
      wpAny (model prog w) A (eval elt (compEnvC scope cl C env)) (CompEnd h₀ L m { s with heap := h, toks := tk } I oI C oC D (lst ys) S (fun y news' => J (i + 1) (ys ++ [y]) news')) E' { s with heap := h, toks := tk })
    (fin : ∀ ys news, J n ys news → Fin ys news) : ∀ k i ys news, i + k = n → J i ys news → CompRest prog w A h₀ L m env elt x scope cl s S P Fin k i ys news
  | 0, i, ys, news, e, hJ => CompRest.zero (fin ys news (by rw [← e]; exact hJ))
  | k + 1, i, ys, news, e, hJ => CompRest.succ fun v I oI C oC D m₂ h tk E' hP hC hx F N o ne =>
    wpAny_mono (step i ys news v I oI C oC D m₂ h tk E' (by omega) hJ hP hC hx F N o ne) (fun y s₂ q => compEnd_mono q fun n' hJ' => comp_ind J step fin k (i + 1) _ n' (by omega) hJ') fun _ _ e => e
theorem comp_indT {ct elt : Expr} {x : Str} {scope : Scope} {cl : List (Str × Addr)} {S : List (Addr × Obj) → Prop} {P : Nat → Value → Prop} {Fin : List Value → List (Addr × Obj) → Prop} {n : Nat} (J : Nat → List Value → List (Addr × Obj) → Prop)
    (step : ∀ i ys news v I oI C oC D m₂ h tk (E' : Value → Shared → Prop), i < n → J i ys news → P i v → NsObj oC m₂ → m₂ x = some v → Fr h₀ L h m → News h₀ L h ((I, oI) :: (C, oC) :: (D, lst ys) :: news) → Off3 I C D news → ((@Ne Nat I C) ∧ (@Ne Nat I D) ∧ (@Ne Nat C D)) →
      wpAny (model prog w) A (isTrue ct (compEnvC scope cl C env) (eval ct (compEnvC scope cl C env))) (fun ok s' => if ok = true then
        wpAny (model prog w) A (eval elt (compEnvC scope cl C env)) (CompEnd h₀ L m { s with heap := h, toks := tk } I oI C oC D (lst ys) S (fun y news' => J (i + 1) (ys ++ [y]) news')) E' s'
        else CompEnd h₀ L m { s with heap := h, toks := tk } I oI C oC D (lst ys) S (fun _ news' => J (i + 1) ys news') Value.none s') E' { s with heap := h, toks := tk })
    (fin : ∀ ys news, J n ys news → Fin ys news) : ∀ k i ys news, i + k = n → J i ys news → CompRestT prog w A h₀ L m env ct elt x scope cl s S P Fin k i ys news
  | 0, i, ys, news, e, hJ => CompRestT.zero (fin ys news (by rw [← e]; exact hJ))
  | k + 1, i, ys, news, e, hJ => CompRestT.succ fun v I oI C oC D m₂ h tk E' hP hC hx F N o ne =>
    wpAny_mono (step i ys news v I oI C oC D m₂ h tk E' (by omega) hJ hP hC hx F N o ne) (fun ok s₁ q => by
      cases ok with
      | true =>
        simp only [if_true] at q ⊢
        exact wpAny_mono q (fun y s₂ q => compEnd_mono q fun n' hJ' => comp_indT J step fin k (i + 1) _ n' (by omega) hJ') fun _ _ e => e
      | false =>
        simp only [Bool.false_eq_true, if_false] at q ⊢
        exact compEnd_mono q fun n' hJ' => comp_indT J step fin k (i + 1) _ n' (by omega) hJ') fun _ _ e => e
end
section
variable {prog : Program} {w : World} {A : Around} {E : Value → Shared → Prop} {s : Shared} {env : Env} {h₀ : Heap} {x : Str} {body : List Stmt} {Q : Flow → Shared → Prop}
/-- the same for one list of texts of the def's own, told by what holds of the texts -/
noncomputable def F1End (h₀ : Heap) (L ha : Addr) (stored : List Str) (m₀ : Str → Option Value) (x : Str) (P : Nat → List Str → Prop) (R : List (Addr × Obj)) (i : Nat) (s₁ s₂ : Shared) : Prop :=
  ∃ (ws : List Value) (zs : List Str) (k : Nat) (h' : Heap) (tk : Nat) (m' : Str → Option Value) (news' : List (Addr × Obj)), s₂ = { s₁ with heap := h', toks := tk } ∧ Fr h₀ L h' m' ∧ News h₀ L h' news' ∧ (∀ p ∈ (ha, listOf ws.toArray k) :: R, p ∈ news') ∧ StrsAre ws zs ∧
    (∀ z, z ≠ x → stored.contains z = false → m' z = m₀ z) ∧ P (i + 1) zs
noncomputable def F1Post (h₀ : Heap) (L ha : Addr) (stored : List Str) (m₀ : Str → Option Value) (x : Str) (P : Nat → List Str → Prop) (R : List (Addr × Obj)) (i : Nat) (s₁ : Shared) (Q : Flow → Shared → Prop) (f : Flow) (s₂ : Shared) : Prop :=
  match f with
  | .ret v => Q (.ret v) s₂
  | .brk => Q .next s₂
  | _ => F1End h₀ L ha stored m₀ x P R i s₁ s₂
theorem f1_end {L ha : Addr} {stored : List Str} {m₀ m' : Str → Option Value} {P : Nat → List Str → Prop} {R news' : List (Addr × Obj)} {i : Nat} {s₁ : Shared} {h' : Heap} {tk : Nat} {ws : List Value} {zs : List Str} {k : Nat}
    (F : Fr h₀ L h' m') (N : News h₀ L h' news') (hn : ∀ p ∈ (ha, listOf ws.toArray k) :: R, p ∈ news') (hz : StrsAre ws zs) (hr : ∀ z, z ≠ x → stored.contains z = false → m' z = m₀ z) (hp : P (i + 1) zs) :
    F1End h₀ L ha stored m₀ x P R i s₁ { s₁ with heap := h', toks := tk } := ⟨ws, zs, k, h', tk, m', news', rfl, F, N, hn, hz, hr, hp⟩
theorem for_led1 {l ha : Addr} {vs vs₀ : List Value} {nn n₀ : Nat} {zs₀ : List Str} {m₀ : Str → Option Value} {R₀ : List (Addr × Obj)} (stored : List Str) (P : Nat → List Str → Prop)
    (hh : A.handled = none) (F : Fr h₀ env.locals s.heap m₀) (N : News h₀ env.locals s.heap ((ha, listOf vs₀.toArray n₀) :: R₀)) (hl : (l, listOf vs.toArray nn) ∈ R₀) (hR : ∀ q ∈ R₀, q.1 ≠ ha) (hz : StrsAre vs₀ zs₀) (hp : P 0 zs₀)
    (turn : ∀ ws zs k i v (u : Str → Option Value) h tk R, vs[i]? = some v → (∀ q ∈ R₀, q ∈ R) → (∀ q ∈ R, q.1 ≠ ha) → StrsAre ws zs → P i zs →
      Fr h₀ env.locals h (fun y => if y = x then some v else if stored.contains y then u y else m₀ y) → News h₀ env.locals h ((ha, listOf ws.toArray k) :: R) →
      wpAny (model prog w) A (execs body env) (F1Post h₀ env.locals ha stored m₀ x P R i { s with heap := h, toks := tk } Q) E { s with heap := h, toks := tk })
    (done : ∀ ws zs k (u : Str → Option Value) h tk, StrsAre ws zs → P vs.length zs → Fr h₀ env.locals h (fun y => if y = x then u y else if stored.contains y then u y else m₀ y) → News h₀ env.locals h ((ha, listOf ws.toArray k) :: R₀) → Q .next { s with heap := h, toks := tk }) :
    wpAny (model prog w) A (pyIter (.ref l)) (fun it s₂ => LoopAtV prog w A h₀ env x body Q E it s₂) E s := by
  refine for_led (σ := List Value × List Str × Nat) (fun c => [(ha, listOf c.1.toArray c.2.2)]) R₀ (fun _ => []) stored (fun i c => StrsAre c.1 c.2.1 ∧ P i c.2.1) (vs₀, zs₀, n₀) hh hl F N ?_ (fun _ h => nomatch h) ⟨hz, hp⟩ ?_ ?_
  · intro q hq b hb
    rw [List.mem_singleton.mp hb]
    exact hR q hq
  · rintro ⟨ws, zs, k⟩ i v u h tk R hv hs ho ⟨h1, h2⟩ F₁ N₁
    refine wpAny_mono (turn ws zs k i v u h tk R hv hs (fun q hq => ho q hq _ (.head _)) h1 h2 F₁ N₁) (fun f s₂ q => ?_) fun _ _ e => e
    have up : F1End h₀ env.locals ha stored m₀ x P R i { s with heap := h, toks := tk } s₂ → FlEnd h₀ env.locals (fun c : List Value × List Str × Nat => [(ha, listOf c.1.toArray c.2.2)]) (fun _ => []) stored m₀ x (fun i c => StrsAre c.1 c.2.1 ∧ P i c.2.1) R i { s with heap := h, toks := tk } s₂ := by
      rintro ⟨ws', zs', k', h', tk', m', news', e, F', N', hn, hz', hr', hp'⟩
      exact ⟨(ws', zs', k'), h', tk', m', news', e, F', N', hn, fun q hq b hb => by rw [List.mem_singleton.mp hb]; exact ho q hq _ (.head _), (fun _ h => nomatch h), fun z h1 _ h3 => hr' z h1 h3, hz', hp'⟩
    cases f with
    | ret v => exact q
    | brk => exact q
    | next => exact up q
    | cont => exact up q
  · rintro ⟨ws, zs, k⟩ u h tk ⟨h1, h2⟩ _ F₁ N₁
    exact done ws zs k u h tk h1 h2 F₁ N₁
end
/-- a def is entered: its names are bs, the count of the tokens is any -/
theorem code_defL {prog : Program} {w : World} {A : Around} {s : Shared} {h₀ base : Heap} {A₀ : Around} {L : Addr} {m : Str → Option Value} {news : List (Addr × Obj)} {K : Frag} {p : Program} {loose : List Str} {mean : ExcName → Option Value} {mg mb : Str → Option Value} {env : Env} {outer : List Env} {R : Result → Shared → Prop} {name qual : Str} {params : Arguments} {body : List Stmt} {scope : Scope} {dV kV doc pm cdv ct oc : Value} {an od : Option Addr} {osl : Array (Option Value)} {f : Addr} {args : Args} {binds bs : List (Str × Value)}
    (B : Below A₀ base outer h₀) (F : Fr h₀ L s.heap m) (X₀ : K.In h₀) (N : News h₀ L s.heap news) (T : Top p loose mean mg mb h₀) (hA : A.frames = some (env :: outer)) (hf : env.frame = some L) (hke : env.scope.kind = .function)
    (ho : K.lookup f = some ⟨oc, od, .func (fnOf name qual params body scope dV kV doc pm an cdv ct), osl⟩) (hcd : codeIn K cdv qual = true) (hroom : A.depth < recursionLimit)
    (hbind : BindsTo s (fnOf name qual params body scope dV kV doc pm an cdv ct) args binds) (hloc : ∀ y ∈ binds, scope.names.lookup y.1 = some .local) (hbs : binds.reverse = bs)
    (h : ∀ g L' h₁ tk, Fr h₀ L g m → Fr g L' h₁ (fun y => bs.lookup y) → News g L' h₁ news → Below A base (env :: outer) g → K.In g → Top p loose mean mg mb g →
      wpAny (model prog w) (A.deeper (envOf qual scope L' f cdv)) (execs body (envOf qual scope L' f cdv))
        (fun fl s' => LeaveK h₀ L m g R (match fl with | .ret v => v | _ => .none) s')
        (fun e s' => wpAny (model prog w) (A.deeper (envOf qual scope L' f cdv)) (leaving (envOf qual scope L' f cdv) e) (fun _ s'' => R (.error e) s'') (fun e' s'' => R (.error e') s'') s')
        { s with heap := h₁, toks := tk })
    (hco : scope.isCoroutine = false) (hgen : scope.isGenerator = false) (hk : scope.kind = .function)
    (hcell : ∀ x ∈ scope.names, x.2 ≠ .cell) : codeAny (model prog w) A (.call (.ref f) args) R s := by
  subst hbs
  exact code_def B F X₀ N T hA hf hke ho hcd hroom hbind hloc (fun g L' h₁ a b c d e f => h g L' h₁ _ a b c d e f) hco hgen hk hcell
end
section
open Builtin Builtin.ObjectAttr
theorem fnStore : StoreFacts "function" [.type "function", .type "object"] "object.__setattr__" "object" where
  mro := by kernel_rfl
  slot := .of (owner := "object") (n := "__setattr__") (by rw [typeLookup_type, builtinLookup_eq_fast]; kernel_rfl) (by decide +kernel) (by decide +kernel) (by decide +kernel)
    (by first | exact .inl (by decide +kernel) | exact .inr (by decide +kernel)) (by rw [isSubtype_type]; kernel_rfl)
  entry := PySem.F.entry_object_sa
  kind := by decide +kernel
  split := by decide +kernel
  hasOwner := by decide +kernel
  args := fun a b c => by unfold argsOk; kernel_rfl
  passes := fun self => by kernel_rfl
section
variable {prog : Program} {w : World} {A : Around} {E : Value → Shared → Prop} {h : Heap} {g : Array GenState} {d : Drawn} {t : Nat} {os : OsState} {x : Addr} {o : Obj} {name : Str} {v : Value}
theorem fn_check {M : Model} {nameV : Value} {Q : Unit → Shared → Prop} (hx : h.get? x = some o) (hc : o.cls = .type "function") (hq : Q () ⟨h, g, d, t, os⟩) :
    wpAny M A (checkBuiltinCall "object.__setattr__" ⟨[.ref x, nameV, v], []⟩) Q E ⟨h, g, d, t, os⟩ := by
  have ha := fnStore.args (.ref x) nameV v
  simp only [checkBuiltinCall, fnStore.kind, fnStore.split]
  refine wpAny_bind ?_
  · unfold isInstance
    repeat (first | (with_reducible refine wpAny_loadPart_at hx ?_; rw [hc]) | (rw [isSubtype_type]) | wp_step)
    exact hq
theorem fn_entry {fd : FuncData} {tk : Tok} {Q : Fin → Shared → Prop} (hx : h.get? x = some o) (hc : o.cls = .type "function") (hdn : o.dict = none) (hnc : o.data = .func fd) (hB : typeLookup (.type "function") name = pure none)
    (hq : ∀ h' tk' D oD, D = h.objs.size → h'.get? D = some oD → LCg.NsObj oD (fun y => if y = name then some v else none) → h'.get? x = some { o with dict := some D } →
      (∀ b ob, b ≠ x → h.get? b = some ob → h'.get? b = some ob) → Q (.done (.ret .none)) ⟨h', g, d, tk', os⟩) :
    wpAny (model prog w) A (Builtin.«object.__setattr__» ⟨[.ref x, .str name tk, v], []⟩) Q E ⟨h, g, d, t, os⟩ := by
  have hpass := fnStore.passes (.ref x)
  unfold Builtin.«object.__setattr__»
  repeat (first | rw [refuse_eq] | rw [fnStore.mro] | (rw [hpass]) | rw [hB] | (with_reducible refine wpAny_loadPart_at hx ?_; rw [hc]) | wp_step)
  rw [hdn, if_neg (by decide +kernel)]
  rw [hnc]
  dsimp only
  have hx₁ : (h.push { cls := .type "dict", data := .dict #[] }).get? x = some o := Heap.get?_push_of_some _ hx
  have hxs : x ≠ h.objs.size := Nat.ne_of_lt (Heap.lt_size hx)
  refine wpAny_bind (wpAny_alloc' ?_)
  refine wpAny_bind (wpAny_update' hx₁ ?_)
  unfold dictMade
  dsimp only
  rw [if_neg (by decide +kernel)]
  refine wpAny_bind (wpAny_pure ?_)
  refine wpAny_pure ?_
  have hgd : ((h.push { cls := .type "dict", data := .dict #[] }).update x fun o => { cls := o.cls, dict := some h.objs.size, data := o.data, slots := o.slots }).get? h.objs.size
      = some { cls := .type "dict", data := .dict #[] } :=
    (Heap.get?_update_ne _ _ _ _ hxs.symm).trans (Heap.get?_push_at rfl rfl)
  have hnd : ((h.push { cls := .type "dict", data := .dict #[] }).update x fun o => { cls := o.cls, dict := some h.objs.size, data := o.data, slots := o.slots }).Ns h.objs.size (fun _ => none) :=
    ⟨_, #[], _, hgd, rfl, fun e he => absurd he (by simp), fun _ => rfl⟩
  show wpAny _ _ (storeInDict h.objs.size (.str name tk) name v) _ _ _
  unfold storeInDict newKeyGuard
  refine wpAny_bind (wpAny_pure (wpAny_bind (wpAny_nsSet1 (Heap.Ns1.of_empty hnd) fun h' hn' hs => ?_)))
  obtain ⟨oD, esD, epD, hoD, hdD, hcD⟩ := hn'.count (Within.cons name v Within.nil)
  refine wpAny_bind (wpAny_lookBehind hoD (by rw [hdD]; exact pastItsLine_dict (Nat.le_trans hcD (by rw [List.length_cons, List.length_nil, sizeLine_eq]; omega))) ?_)
  wp_walk
  have hx' : h'.get? x = some { o with dict := some h.objs.size } := ?_
  refine hq h' _ h.objs.size oD rfl hoD ?_ hx' (fun b ob hbx hb => ?_)
  · obtain ⟨o', es, ep, e1, e2, e3, eu, e4⟩ := hn'
    obtain rfl := Option.some.inj (hoD.symm.trans e1)
    exact ⟨es, ep, e2, e3, fun y => by rw [e4 y]⟩
  · exact (hs.2 b (Nat.ne_of_lt (Heap.lt_size hb))).trans ((Heap.get?_update_ne _ _ _ _ hbx).trans (Heap.get?_push_of_some _ hb))
  · refine (hs.2 x hxs).trans (Heap.get?_update_self _ hx₁ ?_)
    have hfr := (Heap.get?_some_iff.mp hx).2
    obtain ⟨oc, od, odt, osl⟩ := o
    cases odt <;> first | rfl | exact hfr
theorem fn_setAttr {fd : FuncData} {Q : Unit → Shared → Prop} (hx : h.get? x = some o) (hc : o.cls = .type "function") (hdn : o.dict = none) (hnc : o.data = .func fd) (hB : typeLookup (.type "function") name = pure none)
    (hq : ∀ h' tk' D oD, D = h.objs.size → h'.get? D = some oD → LCg.NsObj oD (fun y => if y = name then some v else none) → h'.get? x = some { o with dict := some D } →
      (∀ b ob, b ≠ x → h.get? b = some ob → h'.get? b = some ob) → Q () ⟨h', g, d, tk', os⟩) :
    wpAny (model prog w) A (setAttr (.ref x) name v) Q E ⟨h, g, d, t, os⟩ := by
  have f3 := fnStore.slot.bind (.ref x)
  unfold setAttr callSpecial? specialOf
  repeat (any_goals (first | assumption | (with_reducible refine wpAny_loadPart_at hx ?_; rw [hc]) | rw [fnStore.slot.lookup] | wp_step))
  trace_state
  refine codeAny_call_builtin fnStore.slot.plain fnStore.entry (fn_check hx hc (fn_entry hx hc hdn hnc hB fun h' tk' D oD e1 e2 e3 e4 e5 => ?_))
  repeat (any_goals (first | assumption | wp_step))
  exact hq h' tk' D oD e1 e2 e3 e4 e5
end
end
section
open Builtin Builtin.ObjectAttr
theorem fn_lk_ga : typeLookup (.type "function") "__getattribute__" = pure (some (.builtin "object.__getattribute__")) := by rw [typeLookup_type, builtinLookup_eq_fast]; kernel_rfl
theorem fn_lk_hook : typeLookup (.type "function") "__getattr__" = pure none := by rw [typeLookup_type, builtinLookup_eq_fast]; kernel_rfl
theorem fn_slot_ga : Slot "function" "__getattribute__" "object.__getattribute__" := .of (owner := "object") (n := "__getattribute__") (by rw [typeLookup_type, builtinLookup_eq_fast]; kernel_rfl) (by decide +kernel) (by decide +kernel) (by decide +kernel)
    (by first | exact .inl (by decide +kernel) | exact .inr (by decide +kernel)) (by rw [isSubtype_type]; kernel_rfl)
theorem fn_entry_ga : entryFor table "object.__getattribute__" = some Builtin.«object.__getattribute__» := entryFor_of_tree (by kernel_rfl)
theorem fn_ga_kind : builtinKind "object.__getattribute__" = some .slot := by decide +kernel
theorem fn_ga_split : splitId "object.__getattribute__" = some ("object", "__getattribute__") := by decide +kernel
theorem fn_ga_args (a b : Value) : argsOk "object.__getattribute__" ⟨[a, b], []⟩ := by unfold argsOk; kernel_rfl
section
variable {prog : Program} {w : World} {A : Around} {E : Value → Shared → Prop} {h : Heap} {g : Array GenState} {d : Drawn} {t : Nat} {os : OsState} {x : Addr} {o : Obj} {name : Str} {v : Value}
theorem fn_ga_check {M : Model} {nameV : Value} {Q : Unit → Shared → Prop} (hx : h.get? x = some o) (hc : o.cls = .type "function") (hq : Q () ⟨h, g, d, t, os⟩) :
    wpAny M A (checkBuiltinCall "object.__getattribute__" ⟨[.ref x, nameV], []⟩) Q E ⟨h, g, d, t, os⟩ := by
  have ha := fn_ga_args (.ref x) nameV
  simp only [checkBuiltinCall, fn_ga_kind, fn_ga_split]
  refine wpAny_bind ?_
  unfold isInstance
  repeat (first | (with_reducible refine wpAny_loadPart_at hx ?_; rw [hc]) | (rw [isSubtype_type]) | wp_step)
  exact hq
theorem fn_ga_entry {tk : Tok} {Q : Fin → Shared → Prop} {fd : FuncData} {D : Addr} {m : Str → Option Value} (hx : h.get? x = some o) (hc : o.cls = .type "function") (hdn : o.dict = some D) (hnc : o.data = .func fd) (hB : typeLookup (.type "function") name = pure none)
    (hns : h.Ns D m) (hv : m name = some v) (hq : Q (.done (.ret v)) ⟨h, g, d, t, os⟩) :
    wpAny (model prog w) A (Builtin.«object.__getattribute__» ⟨[.ref x, .str name tk], []⟩) Q E ⟨h, g, d, t, os⟩ := by
  unfold Builtin.«object.__getattribute__»
  repeat (first | rw [hB] | (with_reducible refine wpAny_loadPart_at hx ?_; rw [hc]) | wp_step)
  rw [hnc]
  dsimp only
  unfold instanceDict
  repeat (first | (with_reducible refine wpAny_loadPart_at hx ?_; rw [hc]) | wp_step)
  rw [hdn]
  repeat (first | (with_reducible refine wpAny_nsGet hns ?_; rw [hv]) | wp_step)
  exact hq
theorem fn_getAttr {expr : Bool} {Q : Value → Shared → Prop} {fd : FuncData} {D : Addr} {m : Str → Option Value} (hx : h.get? x = some o) (hc : o.cls = .type "function") (hdn : o.dict = some D) (hnc : o.data = .func fd) (hB : typeLookup (.type "function") name = pure none)
    (hns : h.Ns D m) (hv : m name = some v) (hh : handedOut v = pure v) (hq : Q v ⟨h, g, d, t + 1, os⟩) :
    wpAny (model prog w) A (getAttr (.ref x) name expr) Q E ⟨h, g, d, t, os⟩ := by
  have f3 := fn_slot_ga.bind (.ref x)
  unfold getAttr getAttrBy
  repeat (first | (with_reducible refine wpAny_loadPart_at hx ?_; rw [hc]) | rw [fn_lk_ga] | wp_step)
  rw [if_neg (by simp [onTheHeap])]
  unfold boundAndCalled
  rw [f3]
  refine wpAny_bind (wpAny_pure ?_)
  refine wpAny_call (codeAny_call_builtin fn_slot_ga.plain fn_entry_ga (fn_ga_check hx hc (fn_ga_entry hx hc hdn hnc hB hns hv ?_)))
  dsimp only
  rw [hh]
  exact wpAny_pure hq
theorem fn_method {pl : Sem Bool} {Q : Value × List Value → Shared → Prop} {fd : FuncData} {D : Addr} {m : Str → Option Value} (hx : h.get? x = some o) (hc : o.cls = .type "function") (hdn : o.dict = some D) (hnc : o.data = .func fd) (hB : typeLookup (.type "function") name = pure none)
    (hns : h.Ns D m) (hv : m name = some v) (hh : handedOut v = pure v) (hq : Q (v, []) ⟨h, g, d, t + 1, os⟩) :
    wpAny (model prog w) A (getMethod (.ref x) name pl) Q E ⟨h, g, d, t, os⟩ := by
  have hcan := PySem.F.canon_object_ga
  unfold getMethod specialOf
  repeat ((fail_if_success (with_reducible show wpAny _ _ (getAttr _ _ _) _ _ _)); (first | (with_reducible refine wpAny_loadPart_at hx ?_; rw [hc]) | rw [fn_lk_ga] | rw [fn_lk_hook] | rw [hB] | (with_reducible first | refine wpAny_pure ?_ | refine wpAny_bind ?_) | dsimp only | simp only [hcan, bne_self_eq_false, Bool.false_eq_true, if_false, Option.isSome_none] | wp_step))
  refine fn_getAttr hx hc hdn hnc hB hns hv hh ?_
  exact wpAny_pure hq
end
end
section
open Builtin
theorem args_dec2 (a b : Value) : argsOk "bytes.decode" ⟨[a, b], []⟩ := by unfold argsOk; kernel_rfl
section
variable {b : Array UInt8} {c : UInt8} {cs : List UInt8} {t u : Tok} {x : PySem.Str} {n : Nat}
theorem road_lat {id : String} : _codecs.decodeRoad id b (PySem.Str.ofString "latin-1") none [] = (_codecs.runDecoder id _codecs.latin1Decoder none true b 0 [] >>= fun r => mkStr ⟨r.1⟩) := by kernel_rfl
theorem meets_lat {t1 t2 : Tok} {d : PySem.Str} (hd : ∀ id, _codecs.runDecoder id _codecs.latin1Decoder none true b 0 [] = pure (x.cps, n)) :
    Meets («_codecs.decode.text» ⟨[.bytes b t, .str (PySem.Str.ofString "latin-1") t1, .none, .str d t2], []⟩) (fun _ R s => x.length ≤ sizeLine ∧ R (.ok (.ret (.str x s.toks))) { s with toks := s.toks + 1 }) := by
  refine .of_wp fun prog w A R s hS => ?_
  obtain ⟨hsz, h⟩ := hS
  show wpAny _ _ (Bytes.bytesLike _ (.bytes b t) >>= fun r => _) _ _ s
  refine wpAny_bind (wpAny_of_eq KBd.like_eq ?_)
  refine wpAny_bind (wpAny_of_eq KBd.held_eq ?_)
  show wpAny _ _ (_codecs.decodeRoad _ b (PySem.Str.ofString "latin-1") none [] >>= fun v => _) _ _ s
  rw [road_lat, hd]
  refine wpAny_bind (wpAny_bind (wpAny_pure ?_))
  exact wpAny_mkStr (wpAny_pure ⟨_, rfl, h⟩) hsz
theorem entry_lat : «bytes.decode» ⟨[.bytes (c :: cs).toArray t, .str (PySem.Str.ofString "latin-1") u], []⟩ = (mkStr (PySem.Str.ofString "utf-8") >>= fun _ => mkStr (PySem.Str.ofString "latin-1") >>= fun e => mkStr (PySem.Str.ofString "bytes.decode") >>= fun d =>
    call (.builtin "_codecs.decode.text") [.bytes (c :: cs).toArray t, e, .none, d] >>= fun v => ret v) := by kernel_rfl
theorem meets_declat (hd : ∀ id, _codecs.runDecoder id _codecs.latin1Decoder none true (c :: cs).toArray 0 [] = pure (x.cps, n)) :
    Meets («bytes.decode» ⟨[.bytes (c :: cs).toArray t, .str (PySem.Str.ofString "latin-1") u], []⟩) (fun _ R s => x.length ≤ sizeLine ∧ ∀ t' k, R (.ok (.ret (.str x t'))) { s with toks := k }) := by
  refine .of_wp fun prog w A R s hS => ?_
  obtain ⟨hsz, h⟩ := hS
  rw [entry_lat]
  refine wpAny_bind (wpAny_mkStr ?_ (by decide))
  refine wpAny_bind (wpAny_mkStr ?_ (by decide))
  refine wpAny_bind (wpAny_mkStr ?_ (by decide))
  exact wpAny_bind (call_function_meets KBd.kind_text KBd.plain_text KBd.entry_text (KBd.args_text _ _ _ _) (meets_lat hd) ⟨hsz, wpAny_pure ⟨_, rfl, h _ _⟩⟩)
theorem entry_lat0 : «bytes.decode» ⟨[.bytes #[] t, .str (PySem.Str.ofString "latin-1") u], []⟩ = (rule "bytes.decode.empty" >>= fun _ => mkStr PySem.Str.empty >>= fun v => ret v) := by kernel_rfl
theorem meets_declat0 : Meets («bytes.decode» ⟨[.bytes #[] t, .str (PySem.Str.ofString "latin-1") u], []⟩) (fun _ R s => ∀ t' k, R (.ok (.ret (.str PySem.Str.empty t'))) { s with toks := k }) := by
  refine .of_wp fun prog w A R s h => ?_
  rw [entry_lat0]
  exact wpAny_bind (wpAny_rule (wpAny_bind (wpAny_mkStr (wpAny_pure ⟨_, rfl, h _ _⟩) (by decide))))
end
/-- a text's code points -/
noncomputable def codes (x : Str) : List Int := x.cps.toList.map fun n : Nat => (n : Int)
noncomputable def five : List Str := [Str.ofString "", Str.ofString "a", Str.ofString "ÿ", Str.ofString "b c", Str.ofString "ab"]
theorem bInts_inj {b c : Array UInt8} (h : KBw.bInts b = KBw.bInts c) : b = c := by
  unfold KBw.bInts at h
  have k : b.toList = c.toList := (List.map_inj_right (fun x y e => UInt8.toNat_inj.mp (Int.ofNat.inj e))).mp h
  exact Array.ext' k
theorem latDec {prog : Program} {w : World} {A : Around} {E : Value → Shared → Prop} {s : Shared} {b : Array UInt8} {t u : Tok} {x : Str} {Q : Value → Shared → Prop} (hx : x ∈ five) (hb : KBw.bInts b = codes x) (h : ∀ t' k, Q (.str x t') { s with toks := k }) :
    wpAny (model prog w) A (call (.builtin "bytes.decode") [.bytes b t, .str (Str.ofString "latin-1") u]) Q E s := by
  have go : ∀ (c : UInt8) (cs : List UInt8) (n : Nat), KBw.bInts (c :: cs).toArray = codes x → (∀ id, _codecs.runDecoder id _codecs.latin1Decoder none true (c :: cs).toArray 0 [] = pure (x.cps, n)) → x.length ≤ sizeLine → wpAny (model prog w) A (call (.builtin "bytes.decode") [.bytes b t, .str (Str.ofString "latin-1") u]) Q E s := by
    intro c cs n e hd hsz
    rw [bInts_inj (hb.trans e.symm)]
    exact call_meets FB.slot_bytes_decode (typeIs_bytes _ _ _) FB.entry_bytes_decode (args_dec2 _ _) (meets_declat hd) ⟨hsz, h⟩
  simp only [five, List.mem_cons, List.not_mem_nil, or_false] at hx
  rcases hx with rfl | rfl | rfl | rfl | rfl
  · rw [bInts_inj (b := b) (c := #[]) (hb.trans (by kernel_rfl))]
    exact call_meets FB.slot_bytes_decode (typeIs_bytes _ _ _) FB.entry_bytes_decode (args_dec2 _ _) meets_declat0 h
  · exact go 97 [] 1 (by kernel_rfl) (fun id => by kernel_rfl) (by rw [sizeLine_eq]; decide +kernel)
  · exact go 255 [] 1 (by kernel_rfl) (fun id => by kernel_rfl) (by rw [sizeLine_eq]; decide +kernel)
  · exact go 98 [32, 99] 3 (by kernel_rfl) (fun id => by kernel_rfl) (by rw [sizeLine_eq]; decide +kernel)
  · exact go 97 [98] 2 (by kernel_rfl) (fun id => by kernel_rfl) (by rw [sizeLine_eq]; decide +kernel)
theorem latEnc_entry {t u : Tok} {x : Str} (hx : x ∈ five) : ∃ b, KBw.bInts b = codes x ∧ b.size ≤ 3 ∧ «str.encode» ⟨[.str x t, .str (Str.ofString "latin-1") u], []⟩ = (mkBytes b >>= fun v => ret v) := by
  simp only [five, List.mem_cons, List.not_mem_nil, or_false] at hx
  rcases hx with rfl | rfl | rfl | rfl | rfl
  · exact ⟨#[], by kernel_rfl, by decide, by kernel_rfl⟩
  · exact ⟨#[97], by kernel_rfl, by decide, by kernel_rfl⟩
  · exact ⟨#[255], by kernel_rfl, by decide, by kernel_rfl⟩
  · exact ⟨#[98, 32, 99], by kernel_rfl, by decide, by kernel_rfl⟩
  · exact ⟨#[97, 98], by kernel_rfl, by decide, by kernel_rfl⟩
theorem latEnc {prog : Program} {w : World} {A : Around} {E : Value → Shared → Prop} {s : Shared} {t u : Tok} {x : Str} {Q : Value → Shared → Prop} (hx : x ∈ five) (h : ∀ b t' k, KBw.bInts b = codes x → Q (.bytes b t') { s with toks := k }) :
    wpAny (model prog w) A (call (.builtin "str.encode") [.str x t, .str (Str.ofString "latin-1") u]) Q E s := by
  obtain ⟨b, hb, hz, e⟩ := latEnc_entry (t := t) (u := u) hx
  refine call_meets (S := fun _ R s => ∀ t' k, R (.ok (.ret (.bytes b t'))) { s with toks := k }) PySem.F.slot_str_encode (typeIs_str _ _ _) PySem.F.entry_str_encode (PySem.F.args_str_encode_2 _ _) (.of_wp fun prog w A R s h => ?_) (fun t' k => h b t' k hb)
  rw [e]
  exact wpAny_bind (wpAny_mkBytes (wpAny_pure ⟨_, rfl, h _ _⟩) (by rw [sizeLine_eq]; omega))
end
section
open Builtin PyProof.Rows PySem.MeetsSeq PySem.MeetsSeq2 PySem.MeetsSeq3 PySem.AutoSeq1
/-- the order of two lists of texts, as the builtin loop reckons it: the first unlike texts decide, else the lengths -/
noncomputable def ltL : List Str → List Str → Bool
  | _, [] => false
  | [], _ :: _ => true
  | x :: xs, y :: ys => if x = y then ltL xs ys else slt x y
theorem ltL_nil (a : List Str) : ltL a [] = false := by cases a <;> rfl
theorem sa_arr {items : Array Value} {xs : List Str} (h : StrsAre items.toList xs) (i : Nat) : (i < xs.length ∧ ∃ t, items[i]? = some (.str (xs.getD i Str.empty) t) ∧ xs.drop i = xs.getD i Str.empty :: xs.drop (i + 1)) ∨ (items[i]? = none ∧ xs.drop i = []) := by
  have hl := h.length
  rcases Nat.lt_or_ge i xs.length with hi | hi
  · left
    obtain ⟨t, ht⟩ := sa_getD h hi
    refine ⟨hi, t, by rw [← Array.getElem?_toList]; exact ht, ?_⟩
    rw [List.drop_eq_getElem_cons hi]
    simp [List.getD, List.getElem?_eq_getElem hi]
  · right
    exact ⟨by rw [← Array.getElem?_toList]; exact List.getElem?_eq_none (by omega (splitDisjunctions := true)), List.drop_of_length_le hi⟩
theorem gt_end {items items2 : Array Value} {xs ys : List Str} (hx : items.size = xs.length) (hy : items2.size = ys.length) (i : Nat) (h3 : i ≤ xs.length) (h4 : i ≤ ys.length) (h : xs.drop i = [] ∨ ys.drop i = []) :
    decide (items.size > items2.size) = ltL (ys.drop i) (xs.drop i) := by
  have e1 : (xs.drop i).length = xs.length - i := List.length_drop
  have e2 : (ys.drop i).length = ys.length - i := List.length_drop
  rcases h with h | h
  · rw [h] at e1 ⊢
    rw [List.length_nil] at e1
    rw [ltL_nil]
    simp
    omega (splitDisjunctions := true)
  · rw [h] at e2 ⊢
    rw [List.length_nil] at e2
    cases hxx : xs.drop i with
    | nil => rw [hxx, List.length_nil] at e1; simp [ltL]; omega (splitDisjunctions := true)
    | cons z zs => rw [hxx, List.length_cons] at e1; simp [ltL]; omega (splitDisjunctions := true)
theorem gt_loop (l b : Addr) (items items2 : Array Value) (n n2 : Nat) (xs ys : List Str) (h1 : StrsAre items.toList xs) (h2 : StrsAre items2.toList ys) (k : Nat) :
    ∀ i : Nat, xs.length - i = k → i ≤ xs.length → i ≤ ys.length → Meets (Builtin.«list.__eq__.loop» ⟨[.ref l, .ref b, rawInt i, rawInt 4], []⟩)
      (fun _ R s => s.heap.get? l = some (listOf items n) ∧ s.heap.get? b = some (listOf items2 n2) ∧ R (.ok (.ret (.bool (ltL (ys.drop i) (xs.drop i))))) s) := by
  have hx := h1.length
  have hy := h2.length
  rw [Array.length_toList] at hx hy
  induction k with
  | zero =>
    intro i hk h3 h4 prog w A R s h
    obtain ⟨hp, g, d, tk, os⟩ := s; obtain ⟨hl, hb, h⟩ := h
    wp_walk using wpAny_loadPart' hl, wpAny_loadPart' hb
    rw [Int.toNat_natCast]
    rcases sa_arr h1 i with ⟨hi, _⟩ | ⟨e1, e2⟩
    · omega (splitDisjunctions := true)
    rw [e1]
    wp_walk using wpAny_loadPart' hl, wpAny_loadPart' hb
    show R (.ok (.ret (.bool (decide (items.size > items2.size))))) _
    rw [gt_end hx hy i h3 h4 (.inl e2)]
    exact h
  | succ k ih =>
    intro i hk h3 h4 prog w A R s h
    obtain ⟨hp, g, d, tk, os⟩ := s; obtain ⟨hl, hb, h⟩ := h
    wp_walk using wpAny_loadPart' hl, wpAny_loadPart' hb
    rw [Int.toNat_natCast]
    have hc : ((i : Int) + 1) = ((i + 1 : Nat) : Int) := by push_cast; rfl
    rcases sa_arr h1 i with ⟨hi, t1, e1, e2⟩ | ⟨e1, e2⟩
    · rcases sa_arr h2 i with ⟨hj, t2, f1, f2⟩ | ⟨f1, f2⟩
      · rw [e1, f1]
        dsimp only
        refine wpAny_bind (eqBool_str ?_)
        rw [e2, f2, ltL] at h
        by_cases hq : xs.getD i Str.empty = ys.getD i Str.empty
        · rw [if_pos (by rw [hq]; exact beq_self_eq_true _)]
          rw [if_pos hq.symm] at h
          rw [hc]
          wp_walk
          exact ⟨plainId_quiet plain_eq_loop _, codeAny_builtin entry_eq_loop (by
            rw [Around.under_plainId plain_eq_loop _]
            exact ih (i + 1) (by omega (splitDisjunctions := true)) (by omega (splitDisjunctions := true)) (by omega (splitDisjunctions := true)) prog w A R _ ⟨hl, hb, h⟩)⟩
        · rw [if_neg (by intro hh; exact hq (eq_of_beq hh))]
          rw [if_neg (fun hh => hq hh.symm)] at h
          wp_walk using wpAny_loadPart' hl, wpAny_loadPart' hb
          rw [e1, f1]
          dsimp only
          refine wpAny_bind (gt_s ?_)
          wp_walk
          exact h
      · rw [e1, f1]
        wp_walk using wpAny_loadPart' hl, wpAny_loadPart' hb
        show R (.ok (.ret (.bool (decide (items.size > items2.size))))) _
        rw [gt_end hx hy i h3 h4 (.inr f2)]
        exact h
    · exfalso
      have := congrArg List.length e2
      rw [List.length_drop, List.length_nil] at this
      omega (splitDisjunctions := true)
theorem list_gt_at (l b : Addr) (items items2 : Array Value) (n n2 : Nat) (xs ys : List Str) (h1 : StrsAre items.toList xs) (h2 : StrsAre items2.toList ys) :
    Meets (Builtin.«list.__gt__» ⟨[.ref l, .ref b], []⟩)
      (fun _ R s => s.heap.get? l = some (listOf items n) ∧ s.heap.get? b = some (listOf items2 n2) ∧ R (.ok (.ret (.bool (ltL ys xs)))) s) := by
  intro prog w A R s h
  obtain ⟨hp, g, d, tk, os⟩ := s; obtain ⟨hl, hb, h⟩ := h
  have f3 := AutoSeq1.sub_list_list
  wp_walk using wpAny_loadPart' hl, wpAny_loadPart' hb
  exact ⟨plainId_quiet plain_eq_loop _, codeAny_builtin entry_eq_loop (by
    rw [Around.under_plainId plain_eq_loop _]
    exact gt_loop l b items items2 n n2 xs ys h1 h2 _ 0 rfl (Nat.zero_le _) (Nat.zero_le _) prog w A R _ ⟨hl, hb, h⟩)⟩
theorem lt_end {items items2 : Array Value} {xs ys : List Str} (hx : items.size = xs.length) (hy : items2.size = ys.length) (i : Nat) (h3 : i ≤ xs.length) (h4 : i ≤ ys.length) (h : xs.drop i = [] ∨ ys.drop i = []) :
    decide (items.size < items2.size) = ltL (xs.drop i) (ys.drop i) := by
  have e1 : (xs.drop i).length = xs.length - i := List.length_drop
  have e2 : (ys.drop i).length = ys.length - i := List.length_drop
  rcases h with h | h
  · rw [h] at e1 ⊢
    rw [List.length_nil] at e1
    cases hyy : ys.drop i with
    | nil => rw [hyy, List.length_nil] at e2; simp [ltL]; omega (splitDisjunctions := true)
    | cons z zs => rw [hyy, List.length_cons] at e2; simp [ltL]; omega (splitDisjunctions := true)
  · rw [h] at e2 ⊢
    rw [List.length_nil] at e2
    rw [ltL_nil]
    simp
    omega (splitDisjunctions := true)
theorem lt_loop (l b : Addr) (items items2 : Array Value) (n n2 : Nat) (xs ys : List Str) (h1 : StrsAre items.toList xs) (h2 : StrsAre items2.toList ys) (k : Nat) :
    ∀ i : Nat, xs.length - i = k → i ≤ xs.length → i ≤ ys.length → Meets (Builtin.«list.__eq__.loop» ⟨[.ref l, .ref b, rawInt i, rawInt 0], []⟩)
      (fun _ R s => s.heap.get? l = some (listOf items n) ∧ s.heap.get? b = some (listOf items2 n2) ∧ R (.ok (.ret (.bool (ltL (xs.drop i) (ys.drop i))))) s) := by
  have hx := h1.length
  have hy := h2.length
  rw [Array.length_toList] at hx hy
  induction k with
  | zero =>
    intro i hk h3 h4 prog w A R s h
    obtain ⟨hp, g, d, tk, os⟩ := s; obtain ⟨hl, hb, h⟩ := h
    wp_walk using wpAny_loadPart' hl, wpAny_loadPart' hb
    rw [Int.toNat_natCast]
    rcases sa_arr h1 i with ⟨hi, _⟩ | ⟨e1, e2⟩
    · omega (splitDisjunctions := true)
    rw [e1]
    wp_walk using wpAny_loadPart' hl, wpAny_loadPart' hb
    show R (.ok (.ret (.bool (decide (items.size < items2.size))))) _
    rw [lt_end hx hy i h3 h4 (.inl e2)]
    exact h
  | succ k ih =>
    intro i hk h3 h4 prog w A R s h
    obtain ⟨hp, g, d, tk, os⟩ := s; obtain ⟨hl, hb, h⟩ := h
    wp_walk using wpAny_loadPart' hl, wpAny_loadPart' hb
    rw [Int.toNat_natCast]
    have hc : ((i : Int) + 1) = ((i + 1 : Nat) : Int) := by push_cast; rfl
    rcases sa_arr h1 i with ⟨hi, t1, e1, e2⟩ | ⟨e1, e2⟩
    · rcases sa_arr h2 i with ⟨hj, t2, f1, f2⟩ | ⟨f1, f2⟩
      · rw [e1, f1]
        dsimp only
        refine wpAny_bind (eqBool_str ?_)
        rw [e2, f2, ltL] at h
        by_cases hq : xs.getD i Str.empty = ys.getD i Str.empty
        · rw [if_pos (by rw [hq]; exact beq_self_eq_true _)]
          rw [if_pos hq] at h
          rw [hc]
          wp_walk
          exact ⟨plainId_quiet plain_eq_loop _, codeAny_builtin entry_eq_loop (by
            rw [Around.under_plainId plain_eq_loop _]
            exact ih (i + 1) (by omega (splitDisjunctions := true)) (by omega (splitDisjunctions := true)) (by omega (splitDisjunctions := true)) prog w A R _ ⟨hl, hb, h⟩)⟩
        · rw [if_neg (by intro hh; exact hq (eq_of_beq hh))]
          rw [if_neg hq] at h
          wp_walk using wpAny_loadPart' hl, wpAny_loadPart' hb
          rw [e1, f1]
          dsimp only
          refine wpAny_bind (lt_s ?_)
          wp_walk
          exact h
      · rw [e1, f1]
        wp_walk using wpAny_loadPart' hl, wpAny_loadPart' hb
        show R (.ok (.ret (.bool (decide (items.size < items2.size))))) _
        rw [lt_end hx hy i h3 h4 (.inr f2)]
        exact h
    · exfalso
      have := congrArg List.length e2
      rw [List.length_drop, List.length_nil] at this
      omega (splitDisjunctions := true)
theorem list_lt_at (l b : Addr) (items items2 : Array Value) (n n2 : Nat) (xs ys : List Str) (h1 : StrsAre items.toList xs) (h2 : StrsAre items2.toList ys) :
    Meets (Builtin.«list.__lt__» ⟨[.ref l, .ref b], []⟩)
      (fun _ R s => s.heap.get? l = some (listOf items n) ∧ s.heap.get? b = some (listOf items2 n2) ∧ R (.ok (.ret (.bool (ltL xs ys)))) s) := by
  intro prog w A R s h
  obtain ⟨hp, g, d, tk, os⟩ := s; obtain ⟨hl, hb, h⟩ := h
  have f3 := AutoSeq1.sub_list_list
  wp_walk using wpAny_loadPart' hl, wpAny_loadPart' hb
  exact ⟨plainId_quiet plain_eq_loop _, codeAny_builtin entry_eq_loop (by
    rw [Around.under_plainId plain_eq_loop _]
    exact lt_loop l b items items2 n n2 xs ys h1 h2 _ 0 rfl (Nat.zero_le _) (Nat.zero_le _) prog w A R _ ⟨hl, hb, h⟩)⟩
section
variable {prog : Program} {w : World} {A : Around} {E : Value → Shared → Prop} {s : Shared} {h₀ : Heap} {L : Addr} {news : List (Addr × Obj)}
theorem gt_lists {la lb : Addr} {vs us : List Value} {xs ys : List Str} {n k : Nat} {Q : Value → Shared → Prop} (N : News h₀ L s.heap news) (m1 : (la, listOf vs.toArray n) ∈ news) (m2 : (lb, listOf us.toArray k) ∈ news) (h1 : StrsAre vs xs) (h2 : StrsAre us ys)
    (hu : A.units < cLine) (h : Q (.bool (ltL ys xs)) s) : wpAny (model prog w) A (compareOp .Gt (.ref la) (.ref lb)) Q E s :=
  cmp_ofGt (richCompare_meets_room (op := .Gt) ⟨_, N.get m1, rfl⟩ ⟨_, N.get m2, rfl⟩ F.slot_list_gt F.entry_list_gt (F.args_list_gt_2 _ _) (list_gt_at la lb vs.toArray us.toArray n k xs ys (by simpa using h1) (by simpa using h2))
    ⟨N.get m1, N.get m2, show Value.bool (ltL ys xs) ≠ Value.notImplemented ∧ Q (.bool (ltL ys xs)) s from ⟨(fun x => nomatch x), h⟩⟩ hu)
theorem lt_lists {la lb : Addr} {vs us : List Value} {xs ys : List Str} {n k : Nat} {Q : Value → Shared → Prop} (N : News h₀ L s.heap news) (m1 : (la, listOf vs.toArray n) ∈ news) (m2 : (lb, listOf us.toArray k) ∈ news) (h1 : StrsAre vs xs) (h2 : StrsAre us ys)
    (hu : A.units < cLine) (h : Q (.bool (ltL xs ys)) s) : wpAny (model prog w) A (compareOp .Lt (.ref la) (.ref lb)) Q E s :=
  cmp_ofLt (richCompare_meets_room (op := .Lt) ⟨_, N.get m1, rfl⟩ ⟨_, N.get m2, rfl⟩ F.slot_list_lt F.entry_list_lt (F.args_list_lt_2 _ _) (list_lt_at la lb vs.toArray us.toArray n k xs ys (by simpa using h1) (by simpa using h2))
    ⟨N.get m1, N.get m2, show Value.bool (ltL xs ys) ≠ Value.notImplemented ∧ Q (.bool (ltL xs ys)) s from ⟨(fun x => nomatch x), h⟩⟩ hu)
end
end
section
open Builtin PyProof.Rows PySem.MeetsSeq PySem.MeetsSeq2 PySem.MeetsSeq3 PySem.AutoSeq1 PySem.SeqAt
/-! like data are equal: for ==, and (lists and tuples) for != -/
mutual
noncomputable def depD : Dat → Nat
  | .tuple ds => depL ds + 1
  | .list ds => depL ds + 1
  | _ => 0
noncomputable def depL : List Dat → Nat
  | [] => 0
  | d :: ds => max (depD d) (depL ds)
end
theorem ne_loopSame (l b : Addr) (items items2 : Array Value) (n n2 : Nat) (hsz : items.size = items2.size) (k : Nat) :
    ∀ i : Nat, items.size - i = k → Meets (Builtin.«list.__eq__.loop» ⟨[.ref l, .ref b, rawInt i, rawInt 3], []⟩)
      (fun A R s => s.heap.get? l = some (listOf items n) ∧ s.heap.get? b = some (listOf items2 n2) ∧
        (∀ j (h1 : j < items.size) (h2 : j < items2.size), EqAt A.in1 s items[j] items2[j] true) ∧
        R (.ok (.ret (.bool false))) s) := by
  induction k with
  | zero =>
    intro i hk prog w A R s h
    obtain ⟨hp, g, d, tk, os⟩ := s; obtain ⟨hl, hb, he, h⟩ := h
    wp_walk using wpAny_loadPart' hl, wpAny_loadPart' hb
    have hi1 : items[((i : Nat) : Int).toNat]? = none := by simp; omega (splitDisjunctions := true)
    have hi2 : items2[((i : Nat) : Int).toNat]? = none := by simp; omega (splitDisjunctions := true)
    rw [hi1, hi2]
    wp_walk using wpAny_loadPart' hl, wpAny_loadPart' hb
    show R (.ok (.ret (.bool (items.size != items2.size)))) _
    rw [hsz]
    simpa using h
  | succ k ih =>
    intro i hk prog w A R s h
    obtain ⟨hp, g, d, tk, os⟩ := s; obtain ⟨hl, hb, he, h⟩ := h
    wp_walk using wpAny_loadPart' hl, wpAny_loadPart' hb
    have hlt : i < items.size := by omega (splitDisjunctions := true)
    have hlt2 : i < items2.size := by omega (splitDisjunctions := true)
    have hi1 : items[((i : Nat) : Int).toNat]? = some items[i] := by simp [hlt]
    have hi2 : items2[((i : Nat) : Int).toNat]? = some items2[i] := by simp [hlt2]
    have hc : ((i : Int) + 1) = ((i + 1 : Nat) : Int) := by push_cast; rfl
    rw [hi1, hi2]
    refine wpAny_bind (he i hlt hlt2 prog w _ _ ?_)
    wp_walk
    rw [hc]
    exact ⟨plainId_quiet plain_eq_loop _, codeAny_builtin entry_eq_loop (by
      rw [Around.under_plainId plain_eq_loop _]
      exact ih (i + 1) (by omega (splitDisjunctions := true)) prog w A R _ ⟨hl, hb, he, h⟩)⟩
theorem list_neSame (l b : Addr) (items items2 : Array Value) (n n2 : Nat) (hsz : items.size = items2.size) :
    Meets (Builtin.«list.__ne__» ⟨[.ref l, .ref b], []⟩)
      (fun A R s => s.heap.get? l = some (listOf items n) ∧ s.heap.get? b = some (listOf items2 n2) ∧
        (∀ j (h1 : j < items.size) (h2 : j < items2.size), EqAt A.in1 s items[j] items2[j] true) ∧
        R (.ok (.ret (.bool false))) s) := by
  intro prog w A R s h
  obtain ⟨hp, g, d, tk, os⟩ := s; obtain ⟨hl, hb, he, h⟩ := h
  have f3 := AutoSeq1.sub_list_list
  have hz : (items.size != items2.size) = false := by simp [hsz]
  wp_walk using wpAny_loadPart' hl, wpAny_loadPart' hb
  all_goals first
    | exact ⟨plainId_quiet plain_eq_loop _, codeAny_builtin entry_eq_loop (by
        rw [Around.under_plainId plain_eq_loop _]
        exact ne_loopSame l b items items2 n n2 hsz _ 0 rfl prog w A R _ ⟨hl, hb, he, h⟩)⟩
    | trace_state
theorem tuple_neSame (l b : Addr) (items items2 : Array Value) (n n2 : Nat) (hsz : items.size = items2.size) :
    Meets (Builtin.«tuple.__ne__» ⟨[.ref l, .ref b], []⟩)
      (fun A R s => s.heap.get? l = some ({ cls := .type "tuple", data := .seq items n } : Obj) ∧ s.heap.get? b = some ({ cls := .type "tuple", data := .seq items2 n2 } : Obj) ∧
        (∀ j (h1 : j < items.size) (h2 : j < items2.size), EqAt A.in1 s items[j] items2[j] true) ∧
        R (.ok (.ret (.bool false))) s) :=
  .of_wp fun prog w A R s h => by
    obtain ⟨hp, g, d, tk, os⟩ := s; obtain ⟨hl, hb, he, h⟩ := h
    have f2 := AutoSeq1.sub_tuple_tuple
    have hZ : (items.toList.zip items2.toList).length = min items.size items2.size := by simp
    wp_walk using wpAny_loadPart' hl, wpAny_loadPart' hb, wpAny_forIn_list _ (fun rest b s' => b.1 = none ∧ s' = ⟨hp, g, d, tk, os⟩ ∧ ∃ i, rest = (items.toList.zip items2.toList).drop i ∧
      R (.ok (.ret (.bool false))) ⟨hp, g, d, tk, os⟩) _
    case turn =>
      rintro ⟨y, x⟩ rest b s' ⟨hb', rfl, i, hz, hR⟩
      have hlt : i < (items.toList.zip items2.toList).length := by
        rcases Nat.lt_or_ge i (items.toList.zip items2.toList).length with h' | h'
        · exact h'
        · rw [List.drop_of_length_le h'] at hz; cases hz
      have hm : i < min items.size items2.size := hZ ▸ hlt
      have h1 : i < items.size := Nat.lt_of_lt_of_le hm (Nat.min_le_left _ _)
      have h2 : i < items2.size := Nat.lt_of_lt_of_le hm (Nat.min_le_right _ _)
      rw [List.drop_eq_getElem_cons hlt] at hz
      injection hz with hyx hrest
      have hy : y = items[i] := by have := congrArg Prod.fst hyx; simpa using this
      have hx : x = items2[i] := by have := congrArg Prod.snd hyx; simpa using this
      subst hy hx
      refine wpAny_bind (he i h1 h2 prog w _ _ ?_)
      wp_walk
      exact ⟨rfl, rfl, i + 1, hrest, hR⟩
    case fin =>
      rintro ⟨b1, b2⟩ s' ⟨hb', rfl, i, hz, hR⟩
      simp only at hb'
      subst hb'
      wp_walk
      exact ⟨_, rfl, by simpa [Builtin.Tuple.tupleCompareSizes, hsz] using hR⟩
    case h =>
      exact ⟨rfl, rfl, 0, rfl, by simpa using h⟩
section
variable {s : Shared} {h₀ : Heap} {L : Addr} {news : List (Addr × Obj)}
theorem range_all_true (n : Nat) : ((List.range n).all fun _ => true) = true := by simp
mutual
theorem dat_same (N : News h₀ L s.heap news) : ∀ {d : Dat} {v u : Value}, DatIn news v d → DatIn news u d → ∀ A : Around, A.units + depD d < cLine → EqAt A s v u true
  | .none, _, _, h1, h2, A, _ => by cases h1; cases h2; exact EqAt.same _
  | .bool b, _, _, h1, h2, A, _ => by cases h1; cases h2; exact EqAt.same _
  | .int i, _, _, h1, h2, A, _ => by
    cases h1 with | int _ t => cases h2 with | int _ t' => exact fun prog w E Q hq => wpAny_eqBool_int (by simpa using hq)
  | .str x, _, _, h1, h2, A, _ => by
    cases h1 with | str _ t => cases h2 with | str _ t' => exact fun prog w E Q hq => eqBool_str (by simpa using hq)
  | .bytes b, _, _, h1, h2, A, _ => by
    cases h1 with | bytes _ t => cases h2 with | bytes _ t' => exact fun prog w E Q hq => eqBool_bytes (by simpa using hq)
  | .tuple ds, _, _, h1, h2, A, hu => by
    rw [depD] at hu
    cases h1 with | @tuple a vs n _ m1 r1 => cases h2 with | @tuple b us k _ m2 r2 =>
    by_cases hab : a = b
    · subst hab; exact EqAt.same _
    · refine EqAt.of_refs hab ?_
      have hlen := r1.length.trans r2.length.symm
      have q := RcAt.tuples (A := A) (e := fun _ => true) (s := s) ⟨_, N.get m1, rfl, _, rfl⟩ ⟨_, N.get m2, rfl, _, rfl⟩ (by omega (splitDisjunctions := true)) (dats_same N r1 r2 A.in1 (by show A.units + 1 + _ < _; omega (splitDisjunctions := true)))
      rw [range_all_true, show (vs.toArray.size == us.toArray.size) = true by simpa using hlen] at q
      exact q
  | .list ds, _, _, h1, h2, A, hu => by
    rw [depD] at hu
    cases h1 with | @list a vs n _ m1 r1 => cases h2 with | @list b us k _ m2 r2 =>
    by_cases hab : a = b
    · subst hab; exact EqAt.same _
    · refine EqAt.of_refs hab ?_
      have hlen := r1.length.trans r2.length.symm
      have q := RcAt.lists (A := A) (e := fun _ => true) (s := s) ⟨_, N.get m1, rfl, _, rfl⟩ ⟨_, N.get m2, rfl, _, rfl⟩ (by simpa using hlen) (by omega (splitDisjunctions := true)) (dats_same N r1 r2 A.in1 (by show A.units + 1 + _ < _; omega (splitDisjunctions := true)))
      rw [range_all_true] at q
      exact q
theorem dats_same (N : News h₀ L s.heap news) : ∀ {ds : List Dat} {vs us : List Value}, DatAll news vs ds → DatAll news us ds → ∀ A : Around, A.units + depL ds < cLine →
    ∀ j (h1 : j < vs.toArray.size) (h2 : j < us.toArray.size), EqAt A s vs.toArray[j] us.toArray[j] true
  | [], _, _, h1, h2, A, hu => by cases h1; intro j h; simp at h
  | d :: ds, _, _, h1, h2, A, hu => by
    rw [depL] at hu
    cases h1 with | cons a1 r1 => cases h2 with | cons a2 r2 =>
    intro j hj1 hj2
    cases j with
    | zero => exact dat_same N a1 a2 A (by omega (splitDisjunctions := true))
    | succ j => exact dats_same N r1 r2 A (by omega (splitDisjunctions := true)) j (by simpa using hj1) (by simpa using hj2)
end
end
section
variable {prog : Program} {w : World} {A : Around} {E : Value → Shared → Prop} {s : Shared} {h₀ : Heap} {L : Addr} {news : List (Addr × Obj)}
/-- `a != b` of two lists that hold like data -/
theorem ne_sameL {a b : Addr} {vs us : List Value} {ds : List Dat} {n k : Nat} {Q : Value → Shared → Prop} (N : News h₀ L s.heap news) (m1 : (a, listOf vs.toArray n) ∈ news) (m2 : (b, listOf us.toArray k) ∈ news) (r1 : DatAll news vs ds) (r2 : DatAll news us ds)
    (hu : A.units + 1 + depL ds < cLine) (h : Q (.bool false) s) : wpAny (model prog w) A (compareOp .NotEq (.ref a) (.ref b)) Q E s :=
  cmp_ofNotEq (richCompare_meets_room (op := .NotEq) ⟨_, N.get m1, rfl⟩ ⟨_, N.get m2, rfl⟩ F.slot_list_ne F.entry_list_ne (F.args_list_ne_2 _ _) (list_neSame a b vs.toArray us.toArray n k (by simpa using r1.length.trans r2.length.symm))
    ⟨N.get m1, N.get m2, dats_same N r1 r2 A.in1 (by show A.units + 1 + _ < _; omega (splitDisjunctions := true)), show Value.bool false ≠ Value.notImplemented ∧ Q (.bool false) s from ⟨(fun x => nomatch x), h⟩⟩ (by omega (splitDisjunctions := true)))
theorem ne_sameT {a b : Addr} {vs us : List Value} {ds : List Dat} {n k : Nat} {Q : Value → Shared → Prop} (N : News h₀ L s.heap news) (m1 : (a, ({ cls := .type "tuple", data := .seq vs.toArray n } : Obj)) ∈ news) (m2 : (b, ({ cls := .type "tuple", data := .seq us.toArray k } : Obj)) ∈ news) (r1 : DatAll news vs ds) (r2 : DatAll news us ds)
    (hu : A.units + 1 + depL ds < cLine) (h : Q (.bool false) s) : wpAny (model prog w) A (compareOp .NotEq (.ref a) (.ref b)) Q E s :=
  cmp_ofNotEq (richCompare_meets_room (op := .NotEq) ⟨_, N.get m1, rfl⟩ ⟨_, N.get m2, rfl⟩ F.slot_tuple_ne F.entry_tuple_ne (F.args_tuple_ne_2 _ _) (tuple_neSame a b vs.toArray us.toArray n k (by simpa using r1.length.trans r2.length.symm))
    ⟨N.get m1, N.get m2, dats_same N r1 r2 A.in1 (by show A.units + 1 + _ < _; omega (splitDisjunctions := true)), show Value.bool false ≠ Value.notImplemented ∧ Q (.bool false) s from ⟨(fun x => nomatch x), h⟩⟩ (by omega (splitDisjunctions := true)))
theorem eq_sameL {a b : Addr} {vs us : List Value} {ds : List Dat} {n k : Nat} {Q : Value → Shared → Prop} (N : News h₀ L s.heap news) (m1 : (a, listOf vs.toArray n) ∈ news) (m2 : (b, listOf us.toArray k) ∈ news) (r1 : DatAll news vs ds) (r2 : DatAll news us ds)
    (hu : A.units + 1 + depL ds < cLine) (h : Q (.bool true) s) : wpAny (model prog w) A (compareOp .Eq (.ref a) (.ref b)) Q E s :=
  eq_listAt (e := fun _ => true) ⟨_, N.get m1, rfl, _, rfl⟩ ⟨_, N.get m2, rfl, _, rfl⟩ (by simpa using r1.length.trans r2.length.symm) (by omega (splitDisjunctions := true)) (dats_same N r1 r2 A.in1 (by show A.units + 1 + _ < _; omega (splitDisjunctions := true))) (by rw [range_all_true]; exact h)
end
end
section
open Builtin PyProof.Rows PySem.AutoSeq1
theorem mro_object : mroOf (.type "object") = pure [.type "object"] := by rw [mroOf_type]; kernel_rfl
theorem lookup_object_new : typeLookup (.type "object") "__new__" = pure (some (.builtin "object.__new__")) := by rw [typeLookup_type, builtinLookup_eq_fast]; kernel_rfl
theorem called_object : TypeCalled "object" "object.__new__" "object.__init__" :=
  ⟨by decide +kernel, by decide +kernel, ⟨_, _, mro_object⟩, madeBy_type mro_object lookup_object_new (by decide +kernel), by decide +kernel, by rw [isSubtype_type]; kernel_rfl, PySem.F.slot_object_init⟩
theorem typeCall_object_0 : checkTypeCall "object" ⟨[], []⟩ = pure () := by kernel_rfl
theorem newCall_object_0 : checkBuiltinCall "object.__new__" ⟨[.type "object"], []⟩ = pure () := by kernel_rfl
theorem madeHere_object : Bind.madeHere "object.__new__" (.type "object") = pure () := by
  unfold Bind.madeHere
  have e : Bind.staticBase (.type "object") = pure (.type "object") := by first | rfl | kernel_rfl
  rw [e]
  simp only [pure_bind, called_object.made]
  first | rfl | kernel_rfl | (simp; rfl)
theorem isType_object : isType (.type "object") = pure true := by first | rfl | kernel_rfl
theorem object_new_meets : Meets (Builtin.«object.__new__» ⟨[.type "object"], []⟩) (fun _ R s => R (.ok (.ret (.ref s.heap.objs.size))) { s with heap := s.heap.push { cls := .type "object", data := .plain } }) :=
  .of_wp fun prog w A R s h => by
    obtain ⟨hp, g, d, tk, os⟩ := s
    have f1 := isType_object
    have f2 := madeHere_object
    wp_walk
    exact ⟨_, rfl, h⟩
section
variable {prog : Program} {w : World} {A : Around} {E : Value → Shared → Prop} {s : Shared} {h₀ : Heap} {L : Addr} {m : Str → Option Value} {news : List (Addr × Obj)}
/-- `object()`: a thing of its own -/
theorem object_call {Q : Value → Shared → Prop} (F : Fr h₀ L s.heap m) (N : News h₀ L s.heap news)
    (h : ∀ D h', Fr h₀ L h' m → News h₀ L h' ((D, ({ cls := .type "object", data := .plain } : Obj)) :: news) → (∀ p ∈ news, p.1 < D) → Q (.ref D) { s with heap := h' }) :
    wpAny (model prog w) A (call (.type "object") []) Q E s := by
  refine callType_meets (Q₁ := fun obj s₁ => s₁.TypeIs obj "object" ∧ Q obj s₁) called_object typeCall_object_0 newCall_object_0 PySem.F.entry_object_new PySem.F.entry_object_init object_new_meets ⟨⟨_, Heap.get?_push_size _ rfl, rfl⟩, ?_⟩
    (fun obj s₁ hq => ⟨hq.1, PySem.F.args_object_init_1 obj, fun _ R s => R (.ok (.ret .none)) s, .of_wp fun prog w A R s h => wpAny_pure ⟨_, rfl, h⟩, rfl, hq.2⟩)
  refine h _ _ (F.push _) (News.more (F.push _) (fun q hq => ⟨Heap.get?_push_of_some _ (N q hq).1, (N q hq).2⟩) (Heap.get?_push_size _ rfl) (fun es n q => by cases q) ?_) (fun p hp => Heap.lt_size (N p hp).1)
  exact next_is_new F
end
end
section
open Builtin PyProof.Rows PySem.AutoSeq1 PySem.SeqAt
/-! a thing of its own (object()) beside texts: ==, is, and lists that hold both -/
theorem str_eq_obj (x : Str) (t : Tok) (b : Addr) : Meets (Builtin.«str.__eq__» ⟨[.str x t, .ref b], []⟩) (fun _ R s => s.heap.get? b = some ({ cls := .type "object", data := .plain } : Obj) ∧ R (.ok (.ret .notImplemented)) s) := by
  intro prog w A R s h
  obtain ⟨hp, g, d, tk, os⟩ := s; obtain ⟨hb, h⟩ := h
  wp_walk using wpAny_loadPart' hb, wpAny_load' hb
  exact h
theorem obj_eq_str (x : Str) (t : Tok) (b : Addr) : Meets (Builtin.«object.__eq__» ⟨[.ref b, .str x t], []⟩) (fun _ R s => s.heap.get? b = some ({ cls := .type "object", data := .plain } : Obj) ∧ R (.ok (.ret .notImplemented)) s) := by
  intro prog w A R s h
  obtain ⟨hp, g, d, tk, os⟩ := s; obtain ⟨hb, h⟩ := h
  wp_walk using wpAny_loadPart' hb, wpAny_load' hb
  exact h
theorem sub_str_object : isSubtype (.type "str") (.type "object") = pure true := by rw [isSubtype_type]; kernel_rfl
theorem slot_object_eq_refl : Slot "object" (cmpInfo .Eq).2.1 "object.__eq__" := PySem.F.slot_object_eq
section
variable {prog : Program} {w : World} {A : Around} {E : Value → Shared → Prop} {s : Shared}
theorem rc_obj_str {b : Addr} {x : Str} {t : Tok} {Q : Value → Shared → Prop} (hb : s.heap.get? b = some ({ cls := .type "object", data := .plain } : Obj)) (hu : A.units < cLine) (h : Q (.bool false) s) : wpAny (model prog w) A (richCompare .Eq (.ref b) (.str x t)) Q E s := by
  have ha : s.TypeIs (.ref b) "object" := ⟨_, hb, rfl⟩
  have hs := typeIs_str s x t
  have h2 := PySem.F.slot_str_eq_refl
  have h1 := PySem.F.slot_object_eq
  rcases hi : cmpInfo CmpOp.Eq with ⟨sym, f, r⟩
  rw [hi] at h1 h2
  simp only [richCompare, hi, ha.oneThing_none]
  try with_reducible refine wpAny_holding ?_
  refine wpAny_bind (wpAny_cRoomFor_or (.inr hu) ?_)
  refine wpAny_bind (wpAny_typeOf ha (wpAny_bind (wpAny_typeOf hs ?_)))
  simp only [show (Value.type "object" != Value.type "str") = true by decide, if_true]
  refine wpAny_bind (wpAny_of_eq sub_str_object ?_)
  simp only [if_true, Bool.not_true, Bool.false_eq_true, if_false]
  refine wpAny_bind (m := tryCompare (.str x t) _ (.ref b)) (wpAny_tryCompare_declines hs h2 (call_meets h2 hs PySem.F.entry_str_eq (PySem.F.args_str_eq_2 _ _) (str_eq_obj x t b) ⟨hb, rfl, ?_⟩))
  refine wpAny_bind (m := tryCompare (.ref b) _ (.str x t)) (wpAny_tryCompare_declines ha h1 (call_meets h1 ha PySem.F.entry_object_eq (PySem.F.args_object_eq_2 _ _) (obj_eq_str x t b) ⟨hb, rfl, ?_⟩))
  exact wpAny_bind (wpAny_rule (wpAny_bind (wpAny_of_eq (rfl : isSame (.ref b) (.str x t) = pure false) (wpAny_pure h))))
end
/-- a place of the list: a text, or the mark NL -/
noncomputable def Val (NL : Addr) (v : Value) (o : Option Str) : Prop := match o with
  | none => v = .ref NL
  | some x => ∃ t, v = .str x t
noncomputable def AtS (NL : Addr) (vs : List Value) (f : Nat → Option Str) (n : Nat) : Prop := vs.length = n ∧ ∀ p v, vs[p]? = some v → Val NL v (f p)
theorem atS_of {NL : Addr} {vs : List Value} {xs : List Str} (h : StrsAre vs xs) : AtS NL vs (fun p => some (xs.getD p Str.empty)) xs.length := ⟨h.length, fun p v hv => by
  obtain ⟨_, t, e⟩ := sa_item h hv
  exact ⟨t, e⟩⟩
theorem atS_set {NL : Addr} {vs : List Value} {f : Nat → Option Str} {n j : Nat} (h : AtS NL vs f n) : AtS NL (vs.set j (.ref NL)) (fun p => if p = j then none else f p) n := ⟨by rw [List.length_set]; exact h.1, fun p v hv => by
  rw [List.getElem?_set] at hv
  dsimp only
  by_cases e : j = p
  · rw [if_pos e] at hv
    rw [if_pos e.symm]
    split at hv
    · exact (Option.some.inj hv).symm
    · cases hv
  · rw [if_neg e] at hv
    rw [if_neg (fun q : p = j => e q.symm)]
    exact h.2 p v hv⟩
theorem atS_congr {NL : Addr} {vs : List Value} {f g : Nat → Option Str} {n : Nat} (h : AtS NL vs f n) (e : ∀ p, p < n → f p = g p) : AtS NL vs g n := ⟨h.1, fun p v hv => by
  rw [← e p (by rw [← h.1]; exact (List.getElem?_eq_some_iff.mp hv).1)]
  exact h.2 p v hv⟩
section
variable {prog : Program} {w : World} {A : Around} {E : Value → Shared → Prop} {s : Shared} {h₀ : Heap} {L D NL : Addr} {m : Str → Option Value} {news news' : List (Addr × Obj)} {vs : List Value} {f : Nat → Option Str} {n k : Nat} {j : Int} {u : Tok}
theorem at_sub {value slice : PySem.Expr} {Q : Value → Shared → Prop} (N : News h₀ L s.heap news) (hm : (D, listOf vs.toArray k) ∈ news) (hi : AtS NL vs f n) (h0 : 0 ≤ j) (h1 : j < n) (hfit : j < 2 ^ 63) (h : ∀ v, Val NL v (f j.toNat) → Q v s)
    (hs : subscripted slice false (.ref D) (.int j u) = operate [.ref D, .int j u] (getItem (.ref D) (.int j u)) := by with_unfolding_all rfl) :
    wpAny (model prog w) A (subscriptTail value slice (.ref D) (.int j u)) Q E s := by
  have hlt : j.toNat < vs.length := by rw [hi.1]; omega
  obtain ⟨v, hv⟩ : ∃ v, vs[j.toNat]? = some v := ⟨_, List.getElem?_eq_getElem hlt⟩
  have hl : s.heap.IsList D vs.toArray := PySem.IsL.isList (n := k) (N _ hm).1
  exact tail_any hl.typeIs slot_list_getitem.lookup (wpAny_getItem_list hl h0 hfit (by simpa using hv) (h v (hi.2 _ v hv))) hs
theorem at_set {Q : Unit → Shared → Prop} (F : Fr h₀ L s.heap m) (N : News h₀ L s.heap news) (U : Upd D (listOf vs.toArray k) (listOf (vs.set j.toNat (.ref NL)).toArray k) news news') (hi : AtS NL vs f n) (h0 : 0 ≤ j) (h1 : j < n) (hfit : j < 2 ^ 63) 
    (h : ∀ h', Fr h₀ L h' m → News h₀ L h' news' → AtS NL (vs.set j.toNat (.ref NL)) (fun p => if p = j.toNat then none else f p) n → Q () { s with heap := h' }) : wpAny (model prog w) A (setItem (.ref D) (.int j u) (.ref NL)) Q E s := by
  obtain ⟨pre, post, rfl, rfl, a, b⟩ := U.split
  have z := N (D, listOf vs.toArray k) (List.mem_append.mpr (.inr (.head _)))
  refine ki_setAt z.1 h0 hfit (by rw [List.size_toArray, hi.1]; exact h1) (h _ (F.change (Heap.SameBut.update ..) z.2.1 z.2.2) (ki_turn _ N a b ?_ ?_) (atS_set hi))
  · simp
  · simp
end
end
section
/-! the marks that _count_diff_all_purpose leaves in a list -/
noncomputable def maskF (xs : List Str) (Z : List Str) (p : Nat) : Option Str := if xs.getD p Str.empty ∈ Z then none else some (xs.getD p Str.empty)
/-- amid the inner loop: also the x that stand ahead of j -/
noncomputable def maskJ (xs : List Str) (Z : List Str) (x : Str) (j : Nat) (p : Nat) : Option Str := if xs.getD p Str.empty ∈ Z ∨ (p < j ∧ xs.getD p Str.empty = x) then none else some (xs.getD p Str.empty)
theorem maskJ_start {xs Z : List Str} {x : Str} {i : Nat} (h : ∀ p, p < i → xs.getD p Str.empty ≠ x) (p : Nat) : maskF xs Z p = maskJ xs Z x i p := by
  unfold maskF maskJ
  by_cases h1 : xs.getD p Str.empty ∈ Z
  · rw [if_pos h1, if_pos (.inl h1)]
  · rw [if_neg h1, if_neg]
    rintro (h2 | ⟨h2, h3⟩)
    · exact h1 h2
    · exact h p h2 h3
theorem maskJ_end {xs Z W : List Str} {x : Str} {n : Nat} (hW : ∀ z, z ∈ W ↔ z ∈ Z ∨ z = x) (p : Nat) (hp : p < n) : maskJ xs Z x n p = maskF xs W p := by
  unfold maskF maskJ
  by_cases h1 : xs.getD p Str.empty ∈ W
  · rw [if_pos h1, if_pos]
    rcases (hW _).mp h1 with h2 | h2
    · exact .inl h2
    · exact .inr ⟨hp, h2⟩
  · rw [if_neg h1, if_neg]
    rintro (h2 | ⟨_, h3⟩)
    · exact h1 ((hW _).mpr (.inl h2))
    · exact h1 ((hW _).mpr (.inr h3))
theorem maskJ_hit {xs Z : List Str} {x : Str} {j : Nat} (h : xs.getD j Str.empty = x) (p : Nat) : (if p = j then none else maskJ xs Z x j p) = maskJ xs Z x (j + 1) p := by
  unfold maskJ
  by_cases e : p = j
  · subst e
    rw [if_pos rfl, if_pos (.inr ⟨Nat.lt_succ_self _, h⟩)]
  · rw [if_neg e]
    by_cases h1 : xs.getD p Str.empty ∈ Z ∨ (p < j ∧ xs.getD p Str.empty = x)
    · rw [if_pos h1, if_pos (h1.imp id fun h2 => ⟨Nat.lt_succ_of_lt h2.1, h2.2⟩)]
    · rw [if_neg h1, if_neg]
      rintro (h2 | ⟨h2, h3⟩)
      · exact h1 (.inl h2)
      · exact h1 (.inr ⟨by omega, h3⟩)
theorem maskJ_miss {xs Z : List Str} {x : Str} {j : Nat} (h : xs.getD j Str.empty ≠ x) (p : Nat) : maskJ xs Z x j p = maskJ xs Z x (j + 1) p := by
  unfold maskJ
  by_cases h1 : xs.getD p Str.empty ∈ Z ∨ (p < j ∧ xs.getD p Str.empty = x)
  · rw [if_pos h1, if_pos (h1.imp id fun h2 => ⟨Nat.lt_succ_of_lt h2.1, h2.2⟩)]
  · rw [if_neg h1, if_neg]
    rintro (h2 | ⟨h2, h3⟩)
    · exact h1 (.inl h2)
    · by_cases e : p = j
      · subst e; exact h h3
      · exact h1 (.inr ⟨by omega, h3⟩)
theorem maskJ_val {xs Z : List Str} {x : Str} {j : Nat} (hx : x ∉ Z) : (maskJ xs Z x j j = none ∧ xs.getD j Str.empty ≠ x) ∨ maskJ xs Z x j j = some (xs.getD j Str.empty) := by
  unfold maskJ
  by_cases h1 : xs.getD j Str.empty ∈ Z
  · left
    rw [if_pos (.inl h1)]
    exact ⟨rfl, fun q => hx (q ▸ h1)⟩
  · right
    rw [if_neg]
    rintro (h2 | ⟨h2, _⟩)
    · exact h1 h2
    · exact Nat.lt_irrefl _ h2
theorem cnt_hit {xs : List Str} {x : Str} {j : Nat} (hj : j < xs.length) (h : xs.getD j Str.empty = x) : (xs.take (j + 1)).countP (· == x) = (xs.take j).countP (· == x) + 1 := by
  rw [List.take_succ_eq_append_getElem hj, List.countP_append, List.countP_singleton]
  have : xs[j] = x := by rw [← h]; simp [List.getD, List.getElem?_eq_getElem hj]
  rw [this, if_pos (beq_self_eq_true _)]
theorem cnt_miss {xs : List Str} {x : Str} {j : Nat} (hj : j < xs.length) (h : xs.getD j Str.empty ≠ x) : (xs.take (j + 1)).countP (· == x) = (xs.take j).countP (· == x) := by
  rw [List.take_succ_eq_append_getElem hj, List.countP_append, List.countP_singleton]
  have : xs[j] ≠ x := by
    intro q; apply h; rw [← q]; simp [List.getD, List.getElem?_eq_getElem hj]
  rw [if_neg (by intro q; exact this (eq_of_beq q)), Nat.add_zero]
theorem cnt_zero {xs : List Str} {x : Str} {i : Nat} (h : x ∉ xs.take i) : (xs.take i).countP (· == x) = 0 := by
  rw [List.countP_eq_zero]
  intro y hy q
  exact h (eq_of_beq q ▸ hy)
theorem take_ne {xs : List Str} {x : Str} {i : Nat} (hi : i ≤ xs.length) (h : x ∉ xs.take i) (p : Nat) (hp : p < i) : xs.getD p Str.empty ≠ x := by
  intro q
  apply h
  have hl : p < xs.length := by omega
  rw [← q]
  simp only [List.getD, List.getElem?_eq_getElem hl, Option.getD_some]
  exact List.mem_take_iff_getElem.mpr ⟨p, by omega, rfl⟩
theorem maskF_some {xs Z : List Str} {p : Nat} {x : Str} (h : maskF xs Z p = some x) : xs.getD p Str.empty = x ∧ x ∉ Z := by
  unfold maskF at h
  split at h
  · cases h
  · rename_i hn
    have e := Option.some.inj h
    exact ⟨e, e ▸ hn⟩
theorem maskF_none {xs Z : List Str} {p : Nat} (h : maskF xs Z p = none) : xs.getD p Str.empty ∈ Z := by
  unfold maskF at h
  split at h
  · assumption
  · cases h
theorem maskJ_some {xs Z : List Str} {p j : Nat} {x y : Str} (h : maskJ xs Z x j p = some y) : xs.getD p Str.empty = y := by
  unfold maskJ at h
  split at h
  · cases h
  · exact Option.some.inj h
theorem maskJ_none {xs Z : List Str} {j : Nat} {x : Str} (hx : x ∉ Z) (h : maskJ xs Z x j j = none) : xs.getD j Str.empty ≠ x := by
  rcases maskJ_val (xs := xs) (j := j) hx with h1 | h1
  · exact h1.2
  · rw [h1] at h; cases h
end
section
open Builtin PyProof.Rows PySem.Builtin.Bytes
/-! b''.join of a list of bytes -/
noncomputable def bvals (l : List (Array UInt8 × Tok)) : List Value := l.map fun p => .bytes p.1 p.2
theorem takeQ {M : Model} {A : Around} {E : Value → Shared → Prop} {s : Shared} {id : String} {b : Array UInt8} {t : Tok} {Q : Option (Array UInt8 × Option Value) → Shared → Prop} (h : Q (some (b, none)) s) : wpAny M A (takeBufferQuiet? id (.bytes b t) 0) Q E s := by
  unfold takeBufferQuiet? takeBuffer?
  rw [KBy.special_eq KBy.look_buffer, KBy.own_buffer]
  refine wpAny_bind (wpAny_attempt ?_)
  refine wpAny_bind (wpAny_pure ?_)
  refine wpAny_bind (wpAny_pure ?_)
  refine wpAny_ite ?_
  rw [if_neg (by decide)]
  refine wpAny_bind (wpAny_pure ?_)
  refine wpAny_bind (wpAny_of_eq KBy.buffer_eq ?_)
  exact wpAny_pure (wpAny_pure h)
theorem joinLet {M : Model} {A : Around} {E : Value → Shared → Prop} {s : Shared} {Q : Unit → Shared → Prop} {keep : List Value} : ∀ (l : List (Value × Option Value)), (∀ p ∈ l, p.2 = none) → Q () s → wpAny M A (joinLetGo l keep) Q E s
  | [], _, h => wpAny_pure h
  | (x, u) :: rest, hu, h => by
    have : u = none := hu _ (.head _)
    subst this
    unfold joinLetGo
    exact wpAny_bind (wpAny_letGo (joinLet rest (fun p hp => hu p (.tail _ hp)) h))
theorem for_range {M : Model} {A : Around} {E : Value → Shared → Prop} {s : Shared} {β : Type} {n : Nat} {f : Nat → β → Sem (ForInStep β)} (I : Nat → β → Shared → Prop) {Q : β → Shared → Prop}
    (turn : ∀ i c s, i < n → I i c s → wpAny M A (f i c) (fun r s' => match r with | .yield c' => I (i + 1) c' s' | .done c' => Q c' s') E s)
    (fin : ∀ c s, I n c s → Q c s) {c : β} (h : I 0 c s) : wpAny M A (forIn [0:n] c f) Q E s := by
  rw [Std.Legacy.Range.forIn_eq_forIn_range']
  have hsz : ([0:n] : Std.Legacy.Range).size = n := by simp [Std.Legacy.Range.size]
  show wpAny M A (forIn (List.range' 0 ([0:n] : Std.Legacy.Range).size 1) c f) Q E s
  rw [hsz]
  refine wpAny_forIn_list f (fun l c s => ∃ i, i ≤ n ∧ l = List.range' i (n - i) 1 ∧ I i c s) Q ?_ ?_ _ c ⟨0, Nat.zero_le _, by rw [Nat.sub_zero], h⟩
  · rintro x rest c s ⟨i, hi, hl, hI⟩
    have hlt : i < n := by
      rcases Nat.lt_or_ge i n with h' | h'
      · exact h'
      · rw [show n - i = 0 by omega] at hl; simp at hl
    obtain ⟨k, hk⟩ : ∃ k, n - i = k + 1 := ⟨n - i - 1, by omega⟩
    rw [hk, List.range'_succ] at hl
    obtain ⟨rfl, rfl⟩ := List.cons.inj hl
    refine wpAny_mono (turn x c s (by omega) hI) (fun r s' h' => ?_) fun _ _ e => e
    cases r with
    | done c' => exact h'
    | yield c' => exact ⟨x + 1, by omega, by congr 1; omega, h'⟩
  · rintro c s ⟨i, hi, hl, hI⟩
    have : i = n := by
      rcases Nat.lt_or_ge i n with h' | h'
      · obtain ⟨k, hk⟩ : ∃ k, n - i = k + 1 := ⟨n - i - 1, by omega⟩
        rw [hk, List.range'_succ] at hl; simp at hl
      · omega
    subst this; exact fin _ _ hI
theorem one_item {β : Type} {xs : Array Value} {f : Value → β} {g : Array Value → β} : xs.size ≠ 1 → (match xs with | #[x] => f x | y => g y) = g xs := by
  rcases xs with ⟨ls⟩
  rcases ls with _ | ⟨x, _ | ⟨y, r⟩⟩
  · intro _; rfl
  · intro h; exact absurd rfl h
  · intro _; rfl
theorem wp_eq {α : Type} {M : Model} {A : Around} {E : Value → Shared → Prop} {s : Shared} {t u : Sem α} {Q : α → Shared → Prop} (e : t = u) (h : wpAny M A u Q E s) : wpAny M A t Q E s := e ▸ h
theorem meets_bjoin (a : Addr) (l : List (Array UInt8 × Tok)) (n : Nat) (t : Tok) (hl : 2 ≤ l.length) (fit : tooLong ((l.map (·.1)).toArray.foldl (· + ·.size) (0 * ((l.map (·.1)).toArray.size - 1))) = false) (hsz : (joined #[] (l.map (·.1))).size ≤ sizeLine) :
    Meets («bytes.join» ⟨[.bytes #[] t, .ref a], []⟩) (fun _ R s => s.heap.get? a = some (listOf (bvals l).toArray n) ∧ ∀ t' k, R (.ok (.ret (.bytes (joined #[] (l.map (·.1))) t'))) { s with toks := k }) := by
  refine .of_wp fun prog w A R s h => ?_
  obtain ⟨hp, g, d, tk, os⟩ := s
  obtain ⟨hL, h⟩ := h
  unfold «bytes.join» joinM
  wp_walk using wpAny_loadPart' hL
  have hz : ((bvals l).toArray).size = l.length := by simp [bvals]
  generalize hA : (bvals l).toArray = arr at hz hL ⊢
  refine wp_eq (one_item (by omega)) ?_
  dsimp only
  refine wpAny_bind (for_range (fun i c s' => s' = ⟨hp, g, d, tk, os⟩ ∧ c = ((l.take i).map (·.1) |>.toArray, (l.take i).map fun p => (Value.bytes p.1 p.2, none))) ?_ ?_ ⟨rfl, rfl⟩)
  · rintro i _ _ hi ⟨rfl, rfl⟩
    rw [hz] at hi
    have hx : arr.getD i Value.none = .bytes l[i].1 l[i].2 := by
      rw [← hA]
      simp [bvals, Array.getD_eq_getD_getElem?, hi]
    have hany : (((l.take i).map fun p => (Value.bytes p.1 p.2, (none : Option Value))).any fun x => x.1.onHeap) = false := by
      rw [List.any_eq_false]
      intro x hx
      obtain ⟨p, _, rfl⟩ := List.mem_map.mp hx
      exact Bool.false_ne_true
    wp_walk using wpAny_loadPart' hL
    rw [if_neg (by rw [hany]; decide), hx]
    refine wpAny_bind (wpAny_holding (takeQ ?_))
    wp_walk using wpAny_loadPart' hL
    refine ⟨rfl, ?_⟩
    simp only [List.take_succ_eq_append_getElem hi, List.map_append, List.map_cons, List.map_nil, List.push_toArray]
  · rintro _ s' ⟨rfl, rfl⟩
    rw [hz, List.take_length]
    wp_walk using wpAny_loadPart' hL
    refine wp_eq (if_neg (by intro h9; exact Bool.false_ne_true (fit.symm.trans (by simpa using h9)))) ?_
    refine wpAny_bind (wpAny_mkBytes ?_ (by simpa using hsz))
    refine wpAny_bind (wpAny_holding (wpAny_point ?_))
    refine wpAny_bind (joinLet _ (fun p hp => by obtain ⟨q, _, rfl⟩ := List.mem_map.mp hp; rfl) ?_)
    exact wpAny_pure ⟨_, rfl, by simpa using h _ _⟩
theorem joined_eq (bs : List (Array UInt8)) : joined #[] bs = bs.foldl (· ++ ·) #[] := by
  have go : ∀ (l : List (Array UInt8)) (k : Nat) (acc : Array UInt8), (l.zipIdx k).foldl (fun out (p, i) => (if i > 0 then out ++ #[] else out) ++ p) acc = l.foldl (· ++ ·) acc := by
    intro l
    induction l with
    | nil => intro k acc; rfl
    | cons x r ih =>
      intro k acc
      rw [List.zipIdx_cons, List.foldl_cons, List.foldl_cons, ih]
      congr 1
      show (if k > 0 then acc ++ #[] else acc) ++ x = acc ++ x
      split <;> simp
  exact go bs 0 #[]
theorem bInts_app (a b : Array UInt8) : KBw.bInts (a ++ b) = KBw.bInts a ++ KBw.bInts b := by
  unfold KBw.bInts
  rw [Array.toList_append, List.map_append]
theorem bInts_join (bs : List (Array UInt8)) : KBw.bInts (joined #[] bs) = bs.flatMap KBw.bInts := by
  rw [joined_eq]
  have go : ∀ (l : List (Array UInt8)) (acc : Array UInt8), KBw.bInts (l.foldl (· ++ ·) acc) = KBw.bInts acc ++ l.flatMap KBw.bInts := by
    intro l
    induction l with
    | nil => intro acc; simp
    | cons x r ih => intro acc; rw [List.foldl_cons, ih, bInts_app, List.flatMap_cons, List.append_assoc]
  rw [go]
  rfl
theorem bInts_size (a : Array UInt8) : (KBw.bInts a).length = a.size := by
  unfold KBw.bInts
  rw [List.length_map, Array.length_toList]
theorem foldl_size (l : List (Array UInt8)) (n : Nat) : l.foldl (· + ·.size) n = n + (l.flatMap KBw.bInts).length := by
  induction l generalizing n with
  | nil => simp
  | cons x r ih => rw [List.foldl_cons, ih, List.flatMap_cons, List.length_append, bInts_size]; omega
theorem args_bjoin (a b : Value) : argsOk "bytes.join" ⟨[a, b], []⟩ := by unfold argsOk; kernel_rfl
theorem slot_bjoin : Slot "bytes" "join" "bytes.join" :=
  .of (owner := "bytes") (n := "join") (by rw [typeLookup_type, builtinLookup_eq_fast]; kernel_rfl) (by decide +kernel) (by decide +kernel) (by decide +kernel)
    (by first | exact .inl (by decide +kernel) | exact .inr (by decide +kernel)) (by rw [isSubtype_type]; kernel_rfl)
theorem type_bjoin : typeOf (.builtin "bytes.join") = pure (.type "method_descriptor") := by show builtinType _ = _; rw [builtinType_eq_fast]; kernel_rfl
theorem entry_bjoin : entryFor table "bytes.join" = some Builtin.«bytes.join» := entryFor_of_tree (by kernel_rfl)
/-- b''.join(list of two or more bytes) -/
theorem bjoin_call {prog : Program} {w : World} {A : Around} {E : Value → Shared → Prop} {s : Shared} {h₀ : Heap} {L a : Addr} {news : List (Addr × Obj)} {t : Tok} {n : Nat} {l : List (Array UInt8 × Tok)} {Q : Value → Shared → Prop} (N : News h₀ L s.heap news) (hm : (a, listOf (bvals l).toArray n) ∈ news) (hl : 2 ≤ l.length) (hz : (l.flatMap fun p => KBw.bInts p.1).length ≤ 1000)
    (h : ∀ b t' k, KBw.bInts b = (l.flatMap fun p => KBw.bInts p.1) → Q (.bytes b t') { s with toks := k }) : wpAny (model prog w) A (call (.builtin "bytes.join") [.bytes #[] t, .ref a]) Q E s := by
  have e : (l.map (·.1)).flatMap KBw.bInts = l.flatMap fun p => KBw.bInts p.1 := by rw [List.flatMap_map]
  refine call_meets slot_bjoin (typeIs_bytes _ _ _) entry_bjoin (args_bjoin _ _) (meets_bjoin a l n t hl ?_ ?_) ⟨N.get hm, fun t' k => h _ t' k ?_⟩
  · rw [List.foldl_toArray, Nat.zero_mul, foldl_size, e]
    unfold tooLong
    rw [sizeLine_eq]
    exact decide_eq_false (by omega)
  · rw [← bInts_size, bInts_join, e, sizeLine_eq]; omega
  · rw [bInts_join, e]
theorem bjoin_method {M : Model} {A : Around} {E : Value → Shared → Prop} {s : Shared} {b : Array UInt8} {t : Tok} {pl : Sem Bool} {Q : Value × List Value → Shared → Prop} (h : Q (.builtin "bytes.join", [.bytes b t]) s) : wpAny M A (getMethod (.bytes b t) "join" pl) Q E s := by
  with_reducible exact KBd.method_of (.bytes b t) (typeIs_bytes _ _ _) slot_bjoin type_bjoin KBd.noRef h
end
section
open PyProof.Rows.LCg
/-- the source of a comprehension over a list of the ledger, whose name is a cell (a comprehension within reads it) -/
noncomputable def SrcC (prog : Program) (w : World) (A : Around) (h₀ : Heap) (L : Addr) (m : Str → Option Value) (env : Env) (elt : Expr) (x : Str) (scope : Scope) (cl : List (Str × Addr)) (Fin : Shared → List Value → List (Addr × Obj) → Prop) (xv : Value) (s₁ : Shared) : Prop :=
  ∃ (ax : Addr) (its : Array Value) (nn : Nat) (news : List (Addr × Obj)) (J : Nat → List Value → List (Addr × Obj) → Prop), xv = .ref ax ∧ A.handled = none ∧ Fr h₀ L s₁.heap m ∧ News h₀ L s₁.heap news ∧ (ax, listOf its nn) ∈ news ∧ its.size ≤ sizeLine ∧ J 0 [] news ∧
    (∀ i ys news' v I oI C oC K oK D h tk (E' : Value → Shared → Prop), its[i]? = some v → J i ys news' → (ax, listOf its nn) ∈ news' → oK.data = .cell (some v) → Fr h₀ L h m → News h₀ L h ((I, oI) :: (C, oC) :: (D, lst ys) :: (K, oK) :: news') → Off3 I C D ((K, oK) :: news') → (∀ p ∈ news', p.1 ≠ K) → ((@Ne Nat I C) ∧ (@Ne Nat I D) ∧ (@Ne Nat C D)) →
      wpAny (model prog w) A (eval elt (compEnvC scope ((x, K) :: cl) C env)) (CompEnd h₀ L m { s₁ with heap := h, toks := tk } I oI C oC D (lst ys) (fun _ => True) (fun y n' => ∃ n'', n' = (K, oK) :: n'' ∧ (∀ p ∈ n'', p.1 ≠ K) ∧ (ax, listOf its nn) ∈ n'' ∧ J (i + 1) (ys ++ [y]) n'')) E' { s₁ with heap := h, toks := tk }) ∧
    (∀ ys news', J its.size ys news' → Fin s₁ ys news')
section
variable {prog : Program} {w : World} {A : Around} {E : Value → Shared → Prop} {s : Shared} {h₀ : Heap} {L : Addr} {m : Str → Option Value} {env : Env}
theorem lt_ne {a b : Addr} (h : @LT.lt Nat _ a b) : @Ne Nat a b := Nat.ne_of_lt h
/-- what holds between two turns -/
structure Tc (h₀ : Heap) (L : Addr) (m : Str → Option Value) (ax : Addr) (its : Array Value) (nn : Nat) (J : Nat → List Value → List (Addr × Obj) → Prop) (I C D K : Addr) (i : Nat) (ys : List Value) (news : List (Addr × Obj)) (h : Heap) : Prop where
  fr : Fr h₀ L h m
  it : h.IsListIter I ax i
  nw : ∃ oI oC oK, News h₀ L h ((I, oI) :: (C, oC) :: (D, lst ys) :: (K, oK) :: news) ∧ (∃ v, oK.data = .cell v) ∧ ∃ m', NsObj oC m'
  off : ∀ p ∈ news, p.1 ≠ I ∧ p.1 ≠ C ∧ p.1 ≠ D ∧ p.1 ≠ K
  mem : (ax, listOf its nn) ∈ news
  len : ys.length = i
  j : J i ys news
theorem lay4 {h : Heap} {ax : Addr} {its : Array Value} {nn : Nat} {news : List (Addr × Obj)} {J : Nat → List Value → List (Addr × Obj) → Prop} (F : Fr h₀ L h m) (N : News h₀ L h news) (hm : (ax, listOf its nn) ∈ news) (hJ : J 0 [] news)
    {H1 H2 H3 H4 : Heap} (e1 : H1 = h.push { cls := .type "list_iterator", data := .fields #[.ref ax, .int 0 0] }) (e2 : H2 = H1.push (lst [])) (e3 : H3 = H2.push { cls := .type "dict", data := .dict #[] }) (e4 : H4 = H3.push { cls := .type "cell", data := .cell none }) :
    Tc h₀ L m ax its nn J h.objs.size H2.objs.size H1.objs.size H3.objs.size 0 [] news H4 ∧ ((@Ne Nat h.objs.size H2.objs.size) ∧ (@Ne Nat h.objs.size H1.objs.size) ∧ (@Ne Nat H2.objs.size H1.objs.size)) ∧ ((@Ne Nat h.objs.size H3.objs.size) ∧ (@Ne Nat H1.objs.size H3.objs.size) ∧ (@Ne Nat H2.objs.size H3.objs.size)) := by
  have z1 : H1.objs.size = h.objs.size + 1 := by rw [e1, Heap.size_push]
  have z2 : H2.objs.size = H1.objs.size + 1 := by rw [e2, Heap.size_push]
  have z3 : H3.objs.size = H2.objs.size + 1 := by rw [e3, Heap.size_push]
  have F1 : Fr h₀ L H1 m := by rw [e1]; exact F.push _
  have F2 : Fr h₀ L H2 m := by rw [e2]; exact F1.push _
  have F3 : Fr h₀ L H3 m := by rw [e3]; exact F2.push _
  have F4 : Fr h₀ L H4 m := by rw [e4]; exact F3.push _
  have N1 := N.push F { cls := .type "list_iterator", data := .fields #[.ref ax, .int 0 0] }
  rw [← e1] at N1
  have N2 := N1.push F1 (lst [])
  rw [← e2] at N2
  have N3 := N2.push F2 { cls := .type "dict", data := .dict #[] }
  rw [← e3] at N3
  have N4 := N3.push F3 { cls := .type "cell", data := .cell none }
  rw [← e4] at N4
  refine ⟨⟨F4, ⟨_, (N4 _ (.tail _ (.tail _ (.tail _ (.head _))))).1, rfl, rfl⟩, ⟨{ cls := .type "list_iterator", data := .fields #[.ref ax, .int 0 0] }, { cls := .type "dict", data := .dict #[] }, { cls := .type "cell", data := .cell none }, fun q hq => N4 q ?_, ⟨_, rfl⟩, ⟨fun _ => none, #[], 0, rfl, ?_, fun _ => rfl⟩⟩, fun p hp => ?_, hm, rfl, hJ⟩, ⟨by omega, by omega, by omega⟩, ⟨by omega, by omega, by omega⟩⟩
  · revert q; repeat' (first | with_reducible refine List.forall_mem_cons.mpr ⟨?_, ?_⟩ | (intro _ hS9; (repeat (first | with_reducible exact hS9 | with_reducible refine List.mem_cons_of_mem _ ?_)); done) | with_reducible refine List.forall_mem_append.mpr ⟨?_, ?_⟩ | ((repeat (first | with_reducible exact List.mem_cons_self | with_reducible refine List.mem_cons_of_mem _ ?_)); done) | with_reducible exact fun _ h => absurd h List.not_mem_nil)
  · exact fun e he => by simp at he
  · have : @LT.lt Nat _ p.1 h.objs.size := Heap.lt_size (N p hp).1
    exact ⟨show @Ne Nat _ _ by omega, show @Ne Nat _ _ by omega, show @Ne Nat _ _ by omega, show @Ne Nat _ _ by omega⟩
theorem block_C {elt iter : Expr} {x : Str} {px : Pos} {scope : Scope} {cl : List (Str × Addr)} {pos : Pos} {s₁ : Shared} {ax : Addr} {its : Array Value} {nn : Nat} {news : List (Addr × Obj)} {J : Nat → List Value → List (Addr × Obj) → Prop} {RR : Value → Addr → Result → Shared → Prop}
    (hkind : scope.kind = .function) (hcells : ∀ n, cellsFrom n scope.names cl = (x, n) :: cl) (hpush : ∀ h : Heap, pushCells h scope.names = h.push { cls := .type "cell", data := .cell none })
    (hx : (relabel scope env).names.lookup x = some .cell) (hh : A.handled = none) (F : Fr h₀ L s₁.heap m) (N : News h₀ L s₁.heap news) (hm : (ax, listOf its nn) ∈ news) (hsz : its.size ≤ sizeLine) (hJ : J 0 [] news)
    (step : ∀ i ys news' v I oI C oC K oK D h tk (E' : Value → Shared → Prop), its[i]? = some v → J i ys news' → (ax, listOf its nn) ∈ news' → oK.data = .cell (some v) → Fr h₀ L h m → News h₀ L h ((I, oI) :: (C, oC) :: (D, lst ys) :: (K, oK) :: news') → Off3 I C D ((K, oK) :: news') → (∀ p ∈ news', p.1 ≠ K) → ((@Ne Nat I C) ∧ (@Ne Nat I D) ∧ (@Ne Nat C D)) →
      wpAny (model prog w) A (eval elt (compEnvC scope ((x, K) :: cl) C env)) (CompEnd h₀ L m { s₁ with heap := h, toks := tk } I oI C oC D (lst ys) (fun _ => True) (fun y n' => ∃ n'', n' = (K, oK) :: n'' ∧ (∀ p ∈ n'', p.1 ≠ K) ∧ (ax, listOf its nn) ∈ n'' ∧ J (i + 1) (ys ++ [y]) n'')) E' { s₁ with heap := h, toks := tk })
    (hRR : ∀ D C h tk m' ys news', Fr h₀ L h m → News h₀ L h ((D, lst ys) :: news') → Off1 D news' → h.Ns C m' → h₀.get? C = none → C ≠ L → (∀ p ∈ (D, lst ys) :: news', p.1 ≠ C) → J its.size ys news' → RR (.ref D) C (.ok .next) { s₁ with heap := h, toks := tk }) :
    wpAny (model prog w) A (pyIter (.ref ax)) (fun it s₂ => wpAny (model prog w) A (newList []) (fun acc s₃ => wpAny (model prog w) A (newFunctionEnv scope env.globals cl [] env.qual none .none (some env)) (fun cenv s₄ =>
      codeAny (model prog w) A (.compStart (.ListComp elt [⟨.Name x px, iter, [], 0⟩] scope pos) 0 it acc { cenv with scope := relabel scope env }) (RR acc cenv.locals) s₄) E s₃) E s₂) E s₁ := by
  have loop : ∀ (I D C K : Addr) (H4 : Heap), Tc h₀ L m ax its nn J I C D K 0 [] news H4 → @Ne Nat I C → @Ne Nat I D → @Ne Nat C D → @Ne Nat I K → @Ne Nat D K → @Ne Nat C K → ∀ s₃ : Shared, s₃ = { s₁ with heap := H4 } → codeAny (model prog w) A (.compLoop (.ListComp elt [⟨.Name x px, iter, [], 0⟩] scope pos) 0 (.ref I) (.ref D) (compEnvC scope ((x, K) :: cl) C env)) (RR (.ref D) C) s₃ := by
    intro I D C K H4 tc nIC nID nCD nIK nDK nCK
    rintro s₃ rfl
    let P9 : Nat → Shared → Prop := fun k s' => ∃ h' tk i ys news', s' = { s₁ with heap := h', toks := tk } ∧ i ≤ its.size ∧ k = its.size + 1 - i ∧ Tc h₀ L m ax its nn J I C D K i ys news' h'
    refine codeAny_compLoop_tests P9 ?_ (its.size + 1) ⟨H4, s₁.toks, 0, [], news, rfl, Nat.zero_le _, rfl, tc⟩
    rintro k s' ⟨h', tk, i, ys, news', rfl, hi, rfl, tc'⟩
    obtain ⟨oI, oC, oK, N', ⟨v0, hv0⟩, m', hoC⟩ := tc'.nw
    have F' := tc'.fr
    have off' := tc'.off
    have hne := (off' _ tc'.mem).1
    have W := Walks.list (prog := prog) (w := w) (A := A) hh I ax hne its
    have zI := N' _ (.head _)
    have zC := N' _ (.tail _ (.head _))
    have zD := N' _ (.tail _ (.tail _ (.head _)))
    have zK := N' _ (.tail _ (.tail _ (.tail _ (.head _))))
    have hst : h'.IsListIter I ax i ∧ h'.IsList ax its := ⟨tc'.it, ⟨_, (N' _ (.tail _ (.tail _ (.tail _ (.tail _ tc'.mem))))).1, rfl, _, rfl⟩⟩
    by_cases hlt : i < its.size
    · refine W.item i _ _ _ hlt hst fun v h2 tk2 hv hst2 hk2 => ?_
      have k2 : ∀ b o, b ≠ I → h'.get? b = some o → h2.get? b = some o := fun b o hb e => hk2 b o (by simpa using hb) e
      refine wpAny_assign_Name (wpAny_storeName_cell (c := K) hkind hx (by simp [compEnvC]) ⟨oK, k2 _ _ nIK.symm zK.1, hv0⟩ fun h3 hv3 hs3 => ?_)
      refine wpAny_tests_nil ?_
      simp only [if_true]
      obtain ⟨oK', hK', dK'⟩ := hv3
      obtain ⟨oI', hI', dI'⟩ := hst2.1
      have k3 : ∀ b o, b ≠ I → b ≠ K → h'.get? b = some o → h3.get? b = some o := fun b o hb hb' e => (hs3.2 b hb').trans (k2 b o hb e)
      have F3 : Fr h₀ L h3 m := kas_fr (fr_but F' hk2 zI.2.1.symm zI.2.2) hs3 zK.2.1 zK.2.2
      have N3 : News h₀ L h3 ((I, oI') :: (C, oC) :: (D, lst ys) :: (K, oK') :: news') := by
        intro q hq
        rcases List.mem_cons.mp hq with h9 | hq
        · rw [h9]; exact ⟨(hs3.2 I nIK).trans hI', zI.2⟩
        rcases List.mem_cons.mp hq with h9 | hq
        · rw [h9]; exact ⟨k3 _ _ nIC.symm nCK zC.1, zC.2⟩
        rcases List.mem_cons.mp hq with h9 | hq
        · rw [h9]; exact ⟨k3 _ _ nID.symm nDK zD.1, zD.2⟩
        rcases List.mem_cons.mp hq with h9 | hq
        · rw [h9]; exact ⟨hK', zK.2⟩
        · have z := N' q (.tail _ (.tail _ (.tail _ (.tail _ hq))))
          exact ⟨k3 _ _ (off' q hq).1 (off' q hq).2.2.2 z.1, z.2⟩
      refine wpAny_mono (step i ys news' v I oI' C oC K oK' D h3 _ _ hv tc'.j tc'.mem dK' F3 N3 ⟨⟨nIK.symm, nCK.symm, nDK.symm⟩, Off3.of fun p hp => ⟨(off' p hp).1, (off' p hp).2.1, (off' p hp).2.2.1⟩⟩ (fun p hp => (off' p hp).2.2.2) ⟨nIC, nID, nCD⟩) (fun y s4 h4 => ?_) fun _ _ e => e
      obtain ⟨h4, tk4, nw4, rfl, F4, N4, off4, _, n2, rfl, hK4, hm4, hj4⟩ := h4
      have off5 := off4.2.mem
      have yI := N4 _ (.head _)
      have yC := N4 _ (.tail _ (.head _))
      have yD := N4 _ (.tail _ (.tail _ (.head _)))
      have yK := N4 _ (.tail _ (.tail _ (.tail _ (.head _))))
      refine append_at (hsz := by rw [List.size_toArray, tc'.len]; exact Nat.le_trans hi hsz) yD.1 fun h5 hs5 hD5 => ?_
      refine ⟨its.size + 1 - (i + 1), by omega, h5, tk4, i + 1, ys ++ [y], n2, rfl, hlt, rfl, kas_fr F4 hs5 yD.2.1 yD.2.2, ?_, ⟨oI', oC, oK', ?_, ⟨_, dK'⟩, m', hoC⟩, fun p hp => ⟨(off5 p hp).1, (off5 p hp).2.1, (off5 p hp).2.2, hK4 p hp⟩, hm4, by rw [List.length_append, tc'.len]; rfl, hj4⟩
      · exact ⟨oI', (hs5.2 I nID).trans yI.1, dI'⟩
      · intro q hq
        rcases List.mem_cons.mp hq with h9 | hq
        · rw [h9]; exact ⟨(hs5.2 I nID).trans yI.1, yI.2⟩
        rcases List.mem_cons.mp hq with h9 | hq
        · rw [h9]; exact ⟨(hs5.2 C nCD).trans yC.1, yC.2⟩
        rcases List.mem_cons.mp hq with h9 | hq
        · rw [h9]; exact ⟨hD5.trans (congrArg some (lst_snoc ys y)), yD.2⟩
        rcases List.mem_cons.mp hq with h9 | hq
        · rw [h9]; exact ⟨(hs5.2 K nDK.symm).trans yK.1, yK.2⟩
        · have z := N4 q (.tail _ (.tail _ (.tail _ (.tail _ hq))))
          exact ⟨(hs5.2 q.1 (off5 q hq).2.2).trans z.1, z.2⟩
    · obtain rfl : i = its.size := Nat.le_antisymm hi (Nat.not_lt.mp hlt)
      refine W.done _ _ _ hst fun h2 tk2 hk2 => ?_
      have k2 : ∀ b o, b ≠ I → h'.get? b = some o → h2.get? b = some o := fun b o hb e => hk2 b o (by simpa using hb) e
      refine hRR D C h2 tk2 m' ys news' (fr_but F' hk2 zI.2.1.symm zI.2.2) ?_ (Off3.of (I := I) (C := C) (D := D) fun p hp => ⟨(off' p hp).1, (off' p hp).2.1, (off' p hp).2.2.1⟩).one (hoC.ns (k2 _ _ nIC.symm zC.1)) zC.2.2 zC.2.1 ?_ tc'.j
      · intro q hq
        rcases List.mem_cons.mp hq with h9 | hq
        · rw [h9]; exact ⟨k2 _ _ nID.symm zD.1, zD.2⟩
        · have z := N' q (.tail _ (.tail _ (.tail _ (.tail _ hq))))
          exact ⟨k2 _ _ (off' q hq).1 z.1, z.2⟩
      · exact List.forall_mem_cons.mpr ⟨nCD.symm, fun q hq => (off' q hq).2.1⟩
  have hl : s₁.heap.IsList ax its := ⟨_, (N _ hm).1, rfl, _, rfl⟩
  refine wpAny_pyIter_list hl ?_
  refine wpAny_newObj_type ?_
  simp only [newFunctionEnv, Option.isSome_some, if_true]
  refine wpAny_bind (wpAny_alloc ?_)
  refine wpAny_bind (wpAny_layCells _ (fun name kind cells => by cases hkc : kind == NameKind.cell <;> simp [hkc]) _ _ _ _ ?_)
  rw [List.forIn_nil]
  refine wpAny_bind (wpAny_pure (wpAny_pure ?_))
  simp only [hcells, hpush]
  generalize hH1 : s₁.heap.push { cls := .type "list_iterator", data := .fields #[.ref ax, .int 0 0] } = H1
  generalize hH2 : H1.push { cls := .type "list", data := .seq #[] } = H2
  generalize hH3 : H2.push { cls := .type "dict", data := .dict #[] } = H3
  generalize hH4 : H3.push { cls := .type "cell", data := .cell none } = H4
  obtain ⟨tc, ⟨nIC, nID, nCD⟩, nIK, nDK, nCK⟩ := lay4 (J := J) F N hm hJ hH1.symm hH2.symm hH3.symm hH4.symm
  exact codeAny_compStart_list (loop _ _ _ _ _ tc nIC nID nCD nIK nDK nCK _ rfl) ((Walks.list hh _ ax (tc.off _ tc.mem).1 its).self 0 _ _ _ ⟨tc.it, ⟨_, (tc.nw.choose_spec.choose_spec.choose_spec.1 _ (.tail _ (.tail _ (.tail _ (.tail _ tc.mem))))).1, rfl, _, rfl⟩⟩ (loop _ _ _ _ _ tc nIC nID nCD nIK nDK nCK _ rfl))
theorem ListComp_C {elt iter : Expr} {x : Str} {px : Pos} {scope : Scope} {cl : List (Str × Addr)} {pos : Pos} {Q : Value → Shared → Prop} (_F₀ : Fr h₀ L s.heap m)
    (hclos : closureFor scope env = pure cl) (hkind : scope.kind = .function)
    (hnames : ∀ y ∈ scope.names, y.2 = .local → scope.names.lookup y.1 = some .local) (hcells : ∀ n, cellsFrom n scope.names cl = (x, n) :: cl) (hpush : ∀ h : Heap, pushCells h scope.names = h.push { cls := .type "cell", data := .cell none })
    (hx : (relabel scope env).names.lookup x = some .cell)
    (h : wpAny (model prog w) A (eval iter env) (SrcC prog w A h₀ L m env elt x scope cl (fun s₂ => FinE h₀ L m s₂ Q)) E s)
    (hs : ∀ x, foldedSetIterable iter env x = pure x := by intro _; rfl) :
    wpAny (model prog w) A (eval (.ListComp elt [⟨.Name x px, iter, [], 0⟩] scope pos) env) Q E s := by
  rw [eval_ListComp]
  refine wpAny_comprehension_free (use := none) rfl hs hclos hkind hnames (wpAny_mono h (fun xv s₁ h₁ => ?_) fun _ _ e => e)
  obtain ⟨ax, its, nn, news, J, rfl, hh, F, N, hm, hsz, hJ, step, fin⟩ := h₁
  refine block_C hkind hcells hpush hx hh F N hm hsz hJ step ?_
  intro D C h tk m' ys news' F' N' o1 hn hC₀ hCL offC hj
  refine ⟨m', hn, fun h5 hs5 => fin ys news' hj D h5 tk (kas_fr F' hs5 hCL hC₀) (kas_news N' hs5 offC) o1⟩
theorem Assign_ListComp_C {elt iter : Expr} {x y : Str} {px py : Pos} {scope : Scope} {cl : List (Str × Addr)} {pos spos : Pos} {Q : Flow → Shared → Prop} (_F₀ : Fr h₀ L s.heap m) (hLe : env.locals = L)
    (hsw : swapsWith (.ListComp elt [⟨.Name x px, iter, [], 0⟩] scope pos) (some (.Name y py)) spos.line env = pure true)
    (hclos : closureFor scope env = pure cl) (hkind : scope.kind = .function)
    (hnames : ∀ y ∈ scope.names, y.2 = .local → scope.names.lookup y.1 = some .local) (hcells : ∀ n, cellsFrom n scope.names cl = (x, n) :: cl) (hpush : ∀ h : Heap, pushCells h scope.names = h.push { cls := .type "cell", data := .cell none })
    (hx : (relabel scope env).names.lookup x = some .cell) (hy : env.kindOf y = some .local) (hp : (env.scope.kind == .class || (env.scope.kind == .module && env.locals != env.globals)) = false)
    (h : wpAny (model prog w) A (eval iter env) (SrcC prog w A h₀ L m env elt x scope cl (fun s₂ => FinA h₀ L m s₂ y Q)) E s)
    (hs : ∀ x, foldedSetIterable iter env x = pure x := by intro _; rfl) :
    wpAny (model prog w) A (exec (.Assign [.Name y py] (.ListComp elt [⟨.Name x px, iter, [], 0⟩] scope pos) spos) env) Q E s := by
  subst hLe
  rw [exec_Assign_Name_used _ _ _ _ hsw]
  refine wpAny_bind (wpAny_standAt (wpAny_bind ?_))
  show wpAny _ A (do let _ ← comprehension (.ListComp elt [⟨.Name x px, iter, [], 0⟩] scope pos) scope env _ (newList []) false (eval iter env) (some (assign (.Name y py) env))) _ _ s
  refine wpAny_bind (wpAny_mono (wpAny_comprehension_free (use := some (assign (.Name y py) env)) (Q := fun _ s' => Q .next s') rfl hs hclos hkind hnames (wpAny_mono h (fun xv s₁ h₁ => ?_) fun _ _ e => e)) (fun _ s' hq => wpAny_pure (wpAny_pure hq)) fun _ _ e => e)
  obtain ⟨ax, its, nn, news, J, rfl, hh, F, N, hm, hsz, hJ, step, fin⟩ := h₁
  refine block_C hkind hcells hpush hx hh F N hm hsz hJ step ?_
  intro D C h tk m' ys news' F' N' o1 hn hC₀ hCL offC hj
  show wpAny _ A (assign (.Name y py) env (.ref D)) _ _ _
  refine wpAny_assign_Name (wpAny_storeName_local hy F'.ns (fun h₂ hn₂ hs₂ => ?_) hp)
  have hL₀ : h₀.get? env.locals = none := Heap.get?_none_of_le F'.above
  have F₂ : Fr h₀ env.locals h₂ (fun z => if z = y then some (.ref D) else m z) := ⟨hn₂, fun b o e => hs₂.extBut b o (fun q => by rw [q, hL₀] at e; cases e) (F'.keep b o e), F'.above⟩
  have N₂ : News h₀ env.locals h₂ ((D, lst ys) :: news') := fun p hp => ⟨(hs₂.2 p.1 (N' p hp).2.1).trans (N' p hp).1, (N' p hp).2⟩
  exact ⟨m', hn.sameBut hs₂ hCL, fun h5 hs5 => fin ys news' hj D h5 _ (kas_fr F₂ hs5 hCL hC₀) (kas_news N₂ hs5 offC) o1⟩
end
end
section
open PyProof.Rows.LCg
/-- the source of a comprehension over pairs, with a test; neither the test nor the element touches the heap -/
noncomputable def SrcU (prog : Program) (w : World) (A : Around) (h₀ : Heap) (L : Addr) (m : Str → Option Value) (env : Env) (ct elt : Expr) (xa xb : Str) (scope : Scope) (cl : List (Str × Addr)) (Fin : Shared → List Value → List (Addr × Obj) → Prop) (xv : Value) (s₁ : Shared) : Prop :=
  ∃ (I : Addr) (fp wr : List Addr) (n : Nat) (Pt : Nat → Array Value → Prop) (St : Nat → Heap → Prop) (Mid : Nat → Addr → Heap → Prop) (news : List (Addr × Obj)) (J : Nat → List Value → Prop), xv = .ref I ∧ A.handled = none ∧ WalksU prog w A I fp wr n Pt St Mid ∧ n ≤ sizeLine ∧ St 0 s₁.heap ∧
    (∀ b ∈ fp, b < s₁.heap.objs.size) ∧ Fr h₀ L s₁.heap m ∧ News h₀ L s₁.heap news ∧ (∀ b ∈ wr, b ≠ L ∧ h₀.get? b = none ∧ ∀ p ∈ news, p.1 ≠ b) ∧ (∀ i vals, Pt i vals → ∃ v1 v2, vals = #[v1, v2]) ∧ J 0 [] ∧
    (∀ i ys v1 v2 C oC D m₂ h tk (E' : Value → Shared → Prop), Pt i #[v1, v2] → J i ys → NsObj oC m₂ → m₂ xa = some v1 → m₂ xb = some v2 → Fr h₀ L h m → News h₀ L h ((C, oC) :: (D, lst ys) :: news) →
      wpAny (model prog w) A (isTrue ct (compEnvC scope cl C env) (eval ct (compEnvC scope cl C env))) (fun ok s' => if ok = true then wpAny (model prog w) A (eval elt (compEnvC scope cl C env)) (fun y s₂ => ∃ tk', s₂ = { s₁ with heap := h, toks := tk' } ∧ J (i + 1) (ys ++ [y])) E' s' else ∃ tk', s' = { s₁ with heap := h, toks := tk' } ∧ J (i + 1) ys) E' { s₁ with heap := h, toks := tk }) ∧
    (∀ ys, J n ys → Fin s₁ ys news)
section
variable {prog : Program} {w : World} {A : Around} {E : Value → Shared → Prop} {s : Shared} {h₀ : Heap} {L : Addr} {m : Str → Option Value} {env : Env}
structure Tu (h₀ : Heap) (L : Addr) (m : Str → Option Value) (news : List (Addr × Obj)) (J : Nat → List Value → Prop) (St : Nat → Heap → Prop) (C D : Addr) (i : Nat) (ys : List Value) (h : Heap) : Prop where
  fr : Fr h₀ L h m
  st : St i h
  nw : ∃ oC, News h₀ L h ((C, oC) :: (D, lst ys) :: news) ∧ ∃ m', NsObj oC m'
  len : ys.length ≤ i
  j : J i ys
theorem ListComp_Z {elt ct iter : Expr} {xa xb : Str} {pa pb tp : Pos} {tk : Nat} {scope : Scope} {cl : List (Str × Addr)} {pos : Pos} {Q : Value → Shared → Prop} (_F₀ : Fr h₀ L s.heap m)
    (hclos : closureFor scope env = pure cl) (hkind : scope.kind = .function)
    (hnames : ∀ y ∈ scope.names, y.2 = .local → scope.names.lookup y.1 = some .local) (hcells : ∀ n, cellsFrom n scope.names cl = cl) (hpush : ∀ h : Heap, pushCells h scope.names = h)
    (hxa : scope.names.lookup xa = some .local) (hxb : scope.names.lookup xb = some .local) (hab : xa ≠ xb)
    (h : wpAny (model prog w) A (eval iter env) (SrcU prog w A h₀ L m env ct elt xa xb scope cl (fun s₂ => FinE h₀ L m s₂ Q)) E s)
    (hs : ∀ x, foldedSetIterable iter env x = pure x := by intro _; rfl) :
    wpAny (model prog w) A (eval (.ListComp elt [⟨.Tuple [.Name xa pa, .Name xb pb] tk tp, iter, [ct], 0⟩] scope pos) env) Q E s := by
  rw [eval_ListComp]
  refine wpAny_comprehension_free (use := none) rfl hs hclos hkind hnames (wpAny_mono h (fun xv s₁ h₁ => ?_) fun _ _ e => e)
  obtain ⟨I, fp, wr, n, Pt, St, Mid, news, J, rfl, hh, W, hsz, hst, hfp, F, N, hwr, hPt, hJ, step, fin⟩ := h₁
  have loop : ∀ (D C : Addr) (H2 : Heap), Tu h₀ L m news J St C D 0 [] H2 → @Ne Nat D C → (∀ b ∈ fp, @Ne Nat b D ∧ @Ne Nat b C) → (∀ p ∈ news, @Ne Nat p.1 D ∧ @Ne Nat p.1 C) → ∀ s₃ : Shared, s₃ = { s₁ with heap := H2 } → codeAny (model prog w) A (.compLoop (.ListComp elt [⟨.Tuple [.Name xa pa, .Name xb pb] tk tp, iter, [ct], 0⟩] scope pos) 0 (.ref I) (.ref D) (compEnvC scope cl C env)) (compPost (model prog w) A E none Q (.ref D) C) s₃ := by
    intro D C H2 tu nDC dFp dNw
    rintro s₃ rfl
    let P9 : Nat → Shared → Prop := fun k s' => ∃ h' tk i ys, s' = { s₁ with heap := h', toks := tk } ∧ i ≤ n ∧ k = n + 1 - i ∧ Tu h₀ L m news J St C D i ys h'
    refine kct_loop P9 ?_ (n + 1) ⟨H2, s₁.toks, 0, [], rfl, Nat.zero_le _, rfl, tu⟩
    rintro k s' ⟨h', tk, i, ys, rfl, hi, rfl, tu'⟩
    obtain ⟨oC, N', m', hoC⟩ := tu'.nw
    have F' := tu'.fr
    have zC := N' _ (.head _)
    have zD := N' _ (.tail _ (.head _))
    have cwr : C ∉ wr := fun q => (dFp C (W.sub C q)).2 rfl
    have dwr : D ∉ wr := fun q => (dFp D (W.sub D q)).1 rfl
    have nwr : ∀ p ∈ news, p.1 ∉ wr := fun p hp q => (hwr _ q).2.2 p hp rfl
    have lwr : L ∉ wr := fun q => (hwr _ q).1 rfl
    have frk : ∀ {ha hb : Heap}, Fr h₀ L ha m → (∀ b o, b ∉ wr → ha.get? b = some o → hb.get? b = some o) → Fr h₀ L hb m := fun {ha hb} Fa hk => ⟨Fa.ns.at' fun o e => hk L o lwr e, fun b o e => hk b o (fun q => by rw [(hwr b q).2.1] at e; cases e) (Fa.keep b o e), Fa.above⟩
    have nwk : ∀ {ha hb : Heap} {oC : Obj} {ys : List Value}, News h₀ L ha ((C, oC) :: (D, lst ys) :: news) → (∀ b o, b ∉ wr → ha.get? b = some o → hb.get? b = some o) → News h₀ L hb ((C, oC) :: (D, lst ys) :: news) := fun {ha hb oC ys} Na hk q hq => ⟨hk _ _ (by
      rcases List.mem_cons.mp hq with h9 | hq
      · rw [h9]; exact cwr
      rcases List.mem_cons.mp hq with h9 | hq
      · rw [h9]; exact dwr
      · exact nwr q hq) (Na q hq).1, (Na q hq).2⟩
    by_cases hlt : i < n
    · refine W.item i _ _ _ hlt tu'.st fun T vals h2 tk2 hP hT hm hk2 => ?_
      obtain ⟨v1, v2, rfl⟩ := hPt i vals hP
      dsimp only
      refine W.go _ _ _ i T _ _ _ hm fun h3 hst3 hk3 => ?_
      have hT3 : IsTup h3 T #[v1, v2] := by
        obtain ⟨o, e, r⟩ := hT
        exact ⟨o, hk3 _ _ (W.apart _ _ _ hm) e, r⟩
      have F3 : Fr h₀ L h3 m := frk (frk F' hk2) hk3
      have N3 := nwk (nwk N' hk2) hk3
      refine assign_Tuple_tuple hh hT3 rfl rfl fun h4 he => ?_
      have he' : ∀ b o, h3.get? b = some o → h4.get? b = some o := fun b o e => he b o (Nat.ne_of_lt (Heap.lt_size e)) e
      have F4 := F3.keeps he'
      have N4 := N3.grown he'
      have hn4 := hoC.ns (N4 _ (.head _)).1
      refine assignInOrder_cons (wpAny_assign_Name (wpAny_storeName_local (lookup_relabel_local hxa) hn4 (fun h5 hn5 hs5 => ?_) (by simp [compEnvC, relabel, hkind])))
      refine assignInOrder_cons (wpAny_assign_Name (wpAny_storeName_local (lookup_relabel_local hxb) hn5 (fun h6 hn6 hs6 => ?_) (by simp [compEnvC, relabel, hkind])))
      refine assignInOrder_nil ?_
      have k6 : ∀ b o, b ≠ C → h4.get? b = some o → h6.get? b = some o := fun b o hb e => (hs6.2 b hb).trans ((hs5.2 b hb).trans e)
      have hst6 : St (i + 1) h6 := W.frame _ _ _ hst3 fun b hb o e => k6 b o (dFp b hb).2 (he' b o e)
      obtain ⟨oC6, heC, hoC6⟩ := ns_obj hn6
      have F6 : Fr h₀ L h6 m := kas_fr (kas_fr F4 hs5 zC.2.1 zC.2.2) hs6 zC.2.1 zC.2.2
      have N6 : News h₀ L h6 ((C, oC6) :: (D, lst ys) :: news) := by
        intro q hq
        rcases List.mem_cons.mp hq with h9 | hq
        · rw [h9]; exact ⟨heC, zC.2⟩
        rcases List.mem_cons.mp hq with h9 | hq
        · rw [h9]; exact ⟨k6 _ _ nDC (N4 _ (.tail _ (.head _))).1, zD.2⟩
        · have z := N4 q (.tail _ (.tail _ hq))
          exact ⟨k6 _ _ (dNw q hq).2 z.1, z.2⟩
      refine wpAny_mono (step i ys v1 v2 C oC6 D _ h6 _ _ hP tu'.j hoC6 (by simp [hab]) (by simp) F6 N6) (fun ok s4 h4' => ?_) fun _ _ e => e
      cases ok with
      | true =>
        simp only [if_true] at h4' ⊢
        refine wpAny_mono h4' (fun y s5 h5' => ?_) fun _ _ e => e
        obtain ⟨tk5, rfl, hj5⟩ := h5'
        refine append_at (hsz := by rw [List.size_toArray]; exact Nat.le_trans (Nat.le_trans tu'.len hi) hsz) (N6 _ (.tail _ (.head _))).1 fun h7 hs7 hD7 => ?_
        refine ⟨n + 1 - (i + 1), by omega, h7, tk5, i + 1, ys ++ [y], rfl, hlt, rfl, kas_fr F6 hs7 zD.2.1 zD.2.2, W.frame _ _ _ hst6 fun b hb o e => (hs7.2 b (dFp b hb).1).trans e, ⟨oC6, ?_, _, hoC6⟩, by rw [List.length_append, List.length_singleton]; exact Nat.succ_le_succ tu'.len, hj5⟩
        intro q hq
        rcases List.mem_cons.mp hq with h9 | hq
        · rw [h9]; exact ⟨(hs7.2 C nDC.symm).trans heC, zC.2⟩
        rcases List.mem_cons.mp hq with h9 | hq
        · rw [h9]; exact ⟨hD7.trans (congrArg some (lst_snoc ys y)), zD.2⟩
        · have z := N6 q (.tail _ (.tail _ hq))
          exact ⟨(hs7.2 q.1 (dNw q hq).1).trans z.1, z.2⟩
      | false =>
        simp only [Bool.false_eq_true, if_false] at h4' ⊢
        obtain ⟨tk5, rfl, hj5⟩ := h4'
        exact ⟨n + 1 - (i + 1), by omega, h6, tk5, i + 1, ys, rfl, hlt, rfl, F6, hst6, ⟨oC6, N6, _, hoC6⟩, Nat.le_succ_of_le tu'.len, hj5⟩
    · obtain rfl : i = n := Nat.le_antisymm hi (Nat.not_lt.mp hlt)
      refine W.done _ _ _ tu'.st fun h2 tk2 hk2 => ?_
      have F2 := frk F' hk2
      have N2 := nwk N' hk2
      refine ⟨m', hoC.ns (N2 _ (.head _)).1, fun h5 hs5 => fin ys tu'.j D h5 tk2 (kas_fr F2 hs5 zC.2.1 zC.2.2) (kas_news (fun q hq => N2 q (.tail _ hq)) hs5 (List.forall_mem_cons.mpr ⟨nDC, fun q hq => (dNw q hq).2⟩)) ?_⟩
      exact (Off3.of (I := D) (C := D) (D := D) fun p hp => ⟨(dNw p hp).1, (dNw p hp).1, (dNw p hp).1⟩).one
  refine W.self 0 s₁ _ _ hst ?_
  refine wpAny_newObj_type ?_
  simp only [newFunctionEnv, Option.isSome_some, if_true]
  refine wpAny_bind (wpAny_alloc ?_)
  refine wpAny_bind (wpAny_layCells _ (fun name kind cells => by cases hkc : kind == NameKind.cell <;> simp [hkc]) _ _ _ _ ?_)
  rw [List.forIn_nil]
  refine wpAny_bind (wpAny_pure (wpAny_pure ?_))
  simp only [hcells, hpush]
  generalize hH1 : s₁.heap.push { cls := .type "list", data := .seq #[] } = H1
  generalize hH2 : H1.push { cls := .type "dict", data := .dict #[] } = H2
  have z1 : H1.objs.size = s₁.heap.objs.size + 1 := by rw [← hH1, Heap.size_push]
  have F1 : Fr h₀ L H1 m := by rw [← hH1]; exact F.push _
  have F2 : Fr h₀ L H2 m := by rw [← hH2]; exact F1.push _
  have N1 := N.push F (lst [])
  rw [show s₁.heap.push (lst []) = H1 from hH1] at N1
  have N2 := N1.push F1 { cls := .type "dict", data := .dict #[] }
  rw [hH2] at N2
  have up : ∀ b o, s₁.heap.get? b = some o → H2.get? b = some o := fun b o e => by rw [← hH2, ← hH1]; exact Heap.get?_push_of_some _ (Heap.get?_push_of_some _ e)
  have hst2 : St 0 H2 := W.frame _ _ _ hst fun b _ o e => up b o e
  have nDC : @Ne Nat s₁.heap.objs.size H1.objs.size := by omega
  have dFp : ∀ b ∈ fp, @Ne Nat b s₁.heap.objs.size ∧ @Ne Nat b H1.objs.size := fun b hb => by
    have : @LT.lt Nat _ b s₁.heap.objs.size := hfp b hb
    exact ⟨by omega, by omega⟩
  have dNw : ∀ p ∈ news, @Ne Nat p.1 s₁.heap.objs.size ∧ @Ne Nat p.1 H1.objs.size := fun p hp => by
    have : @LT.lt Nat _ p.1 s₁.heap.objs.size := Heap.lt_size (N p hp).1
    exact ⟨by omega, by omega⟩
  have tu : Tu h₀ L m news J St H1.objs.size s₁.heap.objs.size 0 [] H2 := ⟨F2, hst2, ⟨{ cls := .type "dict", data := .dict #[] }, N2, fun _ => none, #[], 0, rfl, fun e he => by simp at he, fun _ => rfl⟩, Nat.le_refl _, hJ⟩
  exact codeAny_compStart_list (loop _ _ _ tu nDC dFp dNw _ rfl) (W.self 0 _ _ _ tu.st (loop _ _ _ tu nDC dFp dNw _ rfl))
end
end
section
open PyProof.Rows
/-! tuple(x) for an object x of a class that stands on tuple -/
section
variable {prog : Program} {w : World} {A : Around} {E : Value → Shared → Prop} {s : Shared}
theorem next_subItem {it t : Addr} {i : Nat} {ot : Obj} {items : Array Value} {n : Nat} {x : Value} {Q : Option Value → Shared → Prop} (hit : IsTupIter s.heap it t i) (ht : s.heap.get? t = some ot) (hd : ot.data = .seq items n) (hx : items[i]? = some x)
    (hQ : ∀ h', IsTupIter h' it t (i + 1) → Heap.SameBut it s.heap h' → Q (some x) { s with heap := h' }) : wpAny (model prog w) A (pyNext (.ref it)) Q E s := by
  obtain ⟨o, ho, hc, hi⟩ := id hit
  unfold pyNext
  refine wpAny_bind (wpAny_attempt (wpAny_callSpecial?_slot (name := Str.ofString "__next__") hit.typeIs slot_tupleiter_next (wpAny_call_entry slot_tupleiter_next hit.typeIs entry_tupleiter_next ?_ (args_tupleiter_next _))))
  show wpAny _ _ (field (.ref it) 0 >>= _) _ _ s
  refine wpAny_bind (wpAny_field ho hi (x := .ref t) rfl ?_)
  show wpAny _ _ (if (Value.ref t == Value.none) = true then _ else _) _ _ s
  rw [if_neg (show ¬ ((Value.ref t == Value.none) = true) from Bool.false_ne_true)]
  show wpAny _ _ (field (.ref it) 1 >>= _) _ _ s
  refine wpAny_bind (wpAny_field ho hi (x := .int i 0) rfl ?_)
  show wpAny _ _ (seqItems? (.ref t) >>= _) _ _ s
  refine wpAny_bind (wpAny_seqItems ht hd ?_)
  simp only [Int.toNat_natCast, hx]
  refine wpAny_bind (wpAny_setField ho hi (by simp) (wpAny_pure ⟨x, rfl, wpAny_pure (hQ _ ?_ (Heap.SameBut.update ..))⟩))
  exact ⟨_, Heap.get?_update_self _ ho (Obj.isFreed_of_fields (Obj.data_mapFields hi _)), (Obj.cls_mapFields ..).trans hc, by rw [Obj.data_mapFields hi]; simp [rawInt]⟩
theorem next_subEnd {it t : Addr} {i : Nat} {ot : Obj} {items : Array Value} {n : Nat} {Q : Option Value → Shared → Prop} (hh : A.handled = none) (hit : IsTupIter s.heap it t i) (ht : s.heap.get? t = some ot) (hd : ot.data = .seq items n) (hx : items[i]? = none)
    (hQ : ∀ h', Heap.ExtBut it s.heap h' → Q none { s with heap := h' }) : wpAny (model prog w) A (pyNext (.ref it)) Q E s := by
  obtain ⟨o, ho, hc, hi⟩ := id hit
  unfold pyNext
  refine wpAny_bind (wpAny_attempt (wpAny_callSpecial?_slot (name := Str.ofString "__next__") hit.typeIs slot_tupleiter_next (wpAny_call_entry slot_tupleiter_next hit.typeIs entry_tupleiter_next ?_ (args_tupleiter_next _))))
  show wpAny _ _ (field (.ref it) 0 >>= _) _ _ s
  refine wpAny_bind (wpAny_field ho hi (x := .ref t) rfl ?_)
  show wpAny _ _ (if (Value.ref t == Value.none) = true then _ else _) _ _ s
  rw [if_neg (show ¬ ((Value.ref t == Value.none) = true) from Bool.false_ne_true)]
  show wpAny _ _ (field (.ref it) 1 >>= _) _ _ s
  refine wpAny_bind (wpAny_field ho hi (x := .int i 0) rfl ?_)
  show wpAny _ _ (seqItems? (.ref t) >>= _) _ _ s
  refine wpAny_bind (wpAny_seqItems ht hd ?_)
  simp only [Int.toNat_natCast, hx]
  refine wpAny_bind (wpAny_rule (wpAny_bind (wpAny_setField ho hi (by simp) ?_)))
  show wpAny _ _ (newExc (.type "StopIteration") [] >>= _) _ _ _
  refine wpAny_bind ?_
  simp only [newExc, newTuple]
  refine wpAny_bind (wpAny_newObj_type ?_ (by size_fits))
  refine wpAny_bind (m := firstArgMember _ _) (wpAny_of_eq (a := Value.none) (by first | rfl | (simp only [firstArgMember]; rfl)) ?_)
  refine wpAny_newObj_type ?_ (by size_fits)
  simp only [raiseNew]
  refine wpAny_bind (wpAny_handled ?_)
  first | rw [show A.in1.handled = none from hh] | rw [hh]
  refine wpAny_bind (wpAny_pure (wpAny_throw ?_))
  refine wpAny_bind (wpAny_isInstance (T := "StopIteration") (b := true) ⟨_, Heap.get?_push_size _ rfl, rfl⟩ isSubtype_stop ?_)
  exact wpAny_pure (hQ _ (((Heap.SameBut.update ..).extBut.push _).push _))
/-- what the heap tells of x's class -/
structure SubTup (M : Model) (h : Heap) (x C : Addr) : Prop where
  ty : Looks M h (typeOf (.ref x)) (.ref C)
  it : Looks M h (typeLookup (.ref C) "__iter__") (some (.builtin "tuple.__iter__"))
  ln : Looks M h (typeLookup (.ref C) "__len__") (some (.builtin "tuple.__len__"))
  inst : Looks M h (isSubtype (.ref C) (.type "tuple")) true
theorem ti_kind : builtinKind "tuple.__iter__" = some .slot := by decide +kernel
theorem ti_split : splitId "tuple.__iter__" = some ("tuple", "__iter__") := by decide +kernel
theorem tl_kind : builtinKind "tuple.__len__" = some .slot := by decide +kernel
theorem tl_split : splitId "tuple.__len__" = some ("tuple", "__len__") := by decide +kernel
theorem sub_iter {x C : Addr} {h : Heap} {Q : Value → Shared → Prop} (Y : SubTup (model prog w) h x C) (hk : ∀ b o, h.get? b = some o → s.heap.get? b = some o)
    (hQ : Q (.ref s.heap.objs.size) { s with heap := s.heap.push { cls := .type "tuple_iterator", data := .fields #[.ref x, .int 0 0] } }) : wpAny (model prog w) A (pyIter (.ref x)) Q E s := by
  obtain ⟨ty, itl, ln, inst⟩ := Y
  obtain ⟨hp, g, d, tk, os⟩ := s
  replace ty := ty.keeps hk
  replace itl := itl.keeps hk
  replace inst := inst.keeps hk
  have ins : Looks (model prog w) hp (isInstance (.ref x) (.type "tuple")) true := by unfold isInstance; exact ty.andThen inst
  clear hk ln
  unfold pyIter specialOf
  repeat lk
  have fin : wpAny (model prog w) A (call (.builtin "tuple.__iter__") [.ref x]) (fun v s' => v = .ref hp.objs.size ∧ s' = ⟨hp.push { cls := .type "tuple_iterator", data := .fields #[.ref x, .int 0 0] }, g, d, tk, os⟩) E ⟨hp, g, d, tk, os⟩ := by
    refine wpAny_call ?_
    refine codeAny_call_builtin_at (Code.quiet_builtin _ (by decide +kernel)) PySem.F.entry_tuple_iter ?_
    refine check_slot (i := "tuple.__iter__") ti_kind ti_split ?_ (PySem.F.args_tuple_iter_1 _) ?_
    · exact ins
    show wpAny _ _ (do ret (← newFields "tuple_iterator" [.ref x, rawInt 0])) _ _ _
    exact wpAny_bind (wpAny_newObj_type (wpAny_pure ⟨rfl, rfl⟩))
  have rest : ∀ v s', (v = .ref hp.objs.size ∧ s' = ⟨hp.push { cls := .type "tuple_iterator", data := .fields #[.ref x, .int 0 0] }, g, d, tk, os⟩) → wpAny (model prog w) A (do
      match ← (do typeLookup (← typeOf v) (Str.ofString "__next__")) with
      | none => rule "iter.non-iterator"; raiseError "TypeError" s!"iter() returned non-iterator of type '{← typeNameOf v}'"
      | some _ => pure v) Q E s' := by
    rintro v s' ⟨rfl, rfl⟩
    refine wpAny_bind (wpAny_bind (wpAny_typeOf (T := "tuple_iterator") ⟨_, Heap.get?_push_size _ rfl, rfl⟩ ?_))
    rw [slot_tupleiter_next.lookup]
    exact wpAny_pure (wpAny_pure hQ)
  simp only [PySem.F.slot_tuple_iter.bind]
  refine wpAny_ite ?_
  split
  · refine wpAny_bind (wpAny_pure (wpAny_pure ?_))
    dsimp only
    rw [builtin_beq_none, if_neg (by decide)]
    exact wpAny_bind (wpAny_mono fin (fun v s' hv => wpAny_pure (rest v s' hv)) fun _ _ e => e)
  · refine wpAny_tryCatch (wpAny_bind (wpAny_pure (wpAny_pure ?_)))
    dsimp only
    rw [builtin_beq_none, if_neg (by decide)]
    exact wpAny_bind (wpAny_mono fin (fun v s' hv => wpAny_pure (rest v s' hv)) fun _ _ e => e)
theorem sub_len {x C : Addr} {h : Heap} {ot : Obj} {items : Array Value} {n : Nat} {Q : Value → Shared → Prop} (Y : SubTup (model prog w) h x C) (hk : ∀ b o, h.get? b = some o → s.heap.get? b = some o) (ht : s.heap.get? x = some ot) (hd : ot.data = .seq items n) (hsz : items.size ≤ 1000)
    (hQ : ∀ t k, Q (.int items.size t) { s with toks := k }) : wpAny (model prog w) A (call (.builtin "len") [.ref x]) Q E s := by
  obtain ⟨ty, itl, ln, inst⟩ := Y
  obtain ⟨hp, g, d, tk, os⟩ := s
  replace ty := ty.keeps hk
  replace ln := ln.keeps hk
  replace inst := inst.keeps hk
  have ins : Looks (model prog w) hp (isInstance (.ref x) (.type "tuple")) true := by unfold isInstance; exact ty.andThen inst
  clear hk itl
  refine call_function_entry kind_len plain_len entry_len (args_len1 _) ?_
  unfold Builtin.«len»
  refine wpAny_bind (m := oneArg "len" _) (wpAny_pure ?_)
  refine wpAny_bind (m := callSpecial? (.ref x) (Str.ofString "__len__")) ?_
  unfold callSpecial? specialOf
  repeat ((fail_if_success (with_reducible show wpAny _ _ (call _ _ _) _ _ _)); lk)
  refine wpAny_call ?_
  refine codeAny_call_builtin_at (Code.quiet_builtin _ (by decide +kernel)) PySem.F.entry_tuple_len ?_
  refine check_slot (i := "tuple.__len__") tl_kind tl_split ?_ (PySem.F.args_tuple_len_1 _) ?_
  · exact ins
  show wpAny _ _ (do retInt (← Builtin.Tuple.tupleItemsOf (.ref x)).size) _ _ _
  unfold Builtin.Tuple.tupleItemsOf
  refine wpAny_bind (wpAny_bind (wpAny_seqItems ht hd (wpAny_pure ?_)))
  refine wpAny_bind (wpAny_mkInt (wpAny_pure ?_))
  refine wpAny_pure ?_
  refine wpAny_bind (wpAny_holding (wpAny_pure ?_))
  refine wpAny_bind (wpAny_letGo ?_)
  show wpAny _ _ (if ((items.size : Nat) : Int) < 0 then _ else _) _ _ _
  rw [if_neg (by omega)]
  show wpAny _ _ (if ((items.size : Nat) : Int) ≥ 2 ^ 63 then _ else _) _ _ _
  rw [if_neg (by omega)]
  exact wpAny_bind (wpAny_mkInt (wpAny_pure ⟨_, rfl, hQ _ _⟩))
theorem sub_loop {x I S : Addr} {ot : Obj} {items : Array Value} {n : Nat} {res : Value} {R : Result → Shared → Prop} (hh : A.handled = none) (hd : ot.data = .seq items n) (hsz : items.size ≤ 1000) (hIS : I ≠ S) (hxS : x ≠ S) (hxI : x ≠ I) :
    ∀ (k i : Nat) (s : Shared) (acc : Array Value) (c : Nat), items.size - i = k → i ≤ items.size → IsTupIter s.heap I x i → s.heap.get? x = some ot → s.heap.get? S = some { cls := .type "list", dict := none, data := .seq acc c, slots := #[] } → acc.toList = items.toList.take i →
    (∀ h' acc' c', (∀ b o, b ≠ S → b ≠ I → s.heap.get? b = some o → h'.get? b = some o) → h'.get? S = some { cls := .type "list", dict := none, data := .seq acc' c', slots := #[] } → acc'.toList = items.toList → R (.ok (.ret res)) { s with heap := h' }) →
    codeAny (model prog w) A (.builtin "list.extend.loop" ⟨[.ref S, .ref I, res], []⟩) R s := by
  intro k
  induction k with
  | zero =>
    intro i s acc c hk hi hit hx hS hacc hR
    have hin : i = items.size := by omega
    subst hin
    refine codeAny_builtin PySem.F.entry_extend_loop ?_
    rw [Around.under_plainId PySem.F.plain_extend_loop _]
    show wpAny _ A.in1 (pyNext (.ref I) >>= _) _ _ s
    refine wpAny_bind (next_subEnd (A := A.in1) hh hit hx hd (by simp) fun h' he => ?_)
    refine wpAny_pure (hR h' acc c (fun b o _ hb e => he b o hb e) (he S _ hIS.symm hS) ?_)
    rw [hacc, ← Array.length_toList, List.take_length]
  | succ k ih =>
    intro i s acc c hk hi hit hx hS hacc hR
    have hlt : i < items.size := by omega
    refine codeAny_builtin PySem.F.entry_extend_loop ?_
    rw [Around.under_plainId PySem.F.plain_extend_loop _]
    show wpAny _ A.in1 (pyNext (.ref I) >>= _) _ _ s
    refine wpAny_bind (next_subItem hit hx hd (x := items[i]) (by simp [hlt]) fun h' hit' hs' => ?_)
    have hS' : h'.get? S = _ := (hs'.2 S hIS.symm).trans hS
    have hx' : h'.get? x = _ := (hs'.2 x hxI).trans hx
    show wpAny _ A.in1 (updateSeq S (·.push items[i]) >>= _) _ _ _
    have hal : acc.size ≤ 1000 := by
      rw [← Array.length_toList, hacc, List.length_take, Array.length_toList]; omega
    refine wpAny_bind (wpAny_updateSeq hS' rfl ?_ (by unfold sizeLine; omega) (by rw [Array.size_push]; unfold sizeLine; omega))
    have oth : ∀ b o, b ≠ S → h'.get? b = some o → (h'.update S (Obj.mapSeq (·.push items[i]))).get? b = some o := fun b o hb e => (Heap.get?_update_other _ _ (Ne.symm hb)).trans e
    refine wpAny_pure ⟨plainId_quiet PySem.F.plain_extend_loop _, ih (i + 1) _ (acc.push items[i]) _ (by omega) hlt ?_ (oth _ _ hxS hx') (Heap.get?_update_self _ hS' rfl) ?_ fun h2 acc' c' hk2 hS2 hacc2 => ?_⟩
    · obtain ⟨o, e, r⟩ := hit'
      exact ⟨o, oth _ _ hIS e, r⟩
    · rw [Array.toList_push, hacc, List.take_succ_eq_append_getElem (by simpa using hlt)]
      simp
    · exact hR h2 acc' c' (fun b o h1 h2' e => hk2 b o h1 h2' (oth b o h1 ((hs'.2 b h2').trans e))) hS2 hacc2
end
end
section
open PyProof.Rows
section
variable {prog : Program} {w : World} {A : Around} {E : Value → Shared → Prop} {s : Shared}
theorem sub_hint {x C : Addr} {h : Heap} {ot : Obj} {items : Array Value} {n : Nat} {Q : Bool → Shared → Prop} (Y : SubTup (model prog w) h x C) (hk : ∀ b o, h.get? b = some o → s.heap.get? b = some o) (ht : s.heap.get? x = some ot) (hd : ot.data = .seq items n) (hsz : items.size ≤ 1000)
    (hQ : ∀ k, Q (((items.size : Nat) : Int) != 0) { s with toks := k }) : wpAny (model prog w) A (Builtin.List.listLengthHint (.ref x)) Q E s := by
  have Y' := Y
  obtain ⟨ty, itl, ln, inst⟩ := Y
  obtain ⟨hp, g, d, tk, os⟩ := s
  replace ty := ty.keeps hk
  replace ln := ln.keeps hk
  replace inst := inst.keeps hk
  have ins : Looks (model prog w) hp (isInstance (.ref x) (.type "tuple")) true := by unfold isInstance; exact ty.andThen inst
  unfold Builtin.List.listLengthHint specialOf
  iterate 3 lk
  lk
  dsimp only
  rw [tl_split]
  dsimp only
  lk
  lk
  simp only [Bool.not_true, Bool.false_eq_true, if_false]
  rw [if_pos (by kernel_rfl)]
  lk
  lk
  dsimp only
  refine wpAny_bind (sub_len Y' hk ht hd hsz fun t k => ?_)
  exact wpAny_bind (m := asInt? _) (wpAny_pure (wpAny_pure (hQ k)))
theorem sub_collect {x C : Addr} {ot : Obj} {items : Array Value} {n : Nat} {Q : List Value → Shared → Prop} (Y : SubTup (model prog w) s.heap x C) (hh : A.handled = none) (ht : s.heap.get? x = some ot) (hd : ot.data = .seq items n) (hsz : items.size ≤ 1000) (h0 : 0 < items.size)
    (hQ : ∀ h' k, (∀ b o, s.heap.get? b = some o → h'.get? b = some o) → Q items.toList { s with heap := h', toks := k }) : wpAny (model prog w) A (collect (.ref x)) Q E s := by
  unfold collect
  refine wpAny_bind (wpAny_runValue (codeAny_builtin PySem.F.entry_proto_collect ?_))
  rw [Around.under_plainId PySem.F.plain_proto_collect _]
  show wpAny _ A.in1 (newList [] >>= fun l => again (.builtin "list.__iadd__" ⟨[l, .ref x], []⟩)) _ _ s
  refine wpAny_bind (wpAny_newObj_type ?_)
  refine wpAny_pure ⟨plainId_quiet PySem.F.plain_list_iadd _, codeAny_builtin PySem.F.entry_list_iadd ?_⟩
  rw [Around.under_plainId PySem.F.plain_list_iadd _]
  have hlt : @LT.lt Nat _ x s.heap.objs.size := Heap.lt_size ht
  have keep1 : ∀ b o, s.heap.get? b = some o → (s.heap.push { cls := .type "list", data := .seq ([] : List Value).toArray }).get? b = some o := fun b o e => Heap.get?_push_of_some _ e
  have hS1 : (s.heap.push { cls := .type "list", data := .seq ([] : List Value).toArray }).get? s.heap.objs.size = some { cls := .type "list", data := .seq #[] 0 } := Heap.get?_push_size _ rfl
  have zz : (s.heap.push { cls := .type "list", data := .seq ([] : List Value).toArray }).objs.size = s.heap.objs.size + 1 := Heap.size_push ..
  show wpAny _ A.in1 (Builtin.List.listExtendWith (.ref s.heap.objs.size) (.ref x) (.ref s.heap.objs.size)) _ _ _
  generalize s.heap.push { cls := .type "list", data := .seq ([] : List Value).toArray } = H1 at *
  generalize hSe : s.heap.objs.size = S at *
  unfold Builtin.List.listExtendWith
  refine wpAny_bind (Y.ty A.in1 _ _ _ keep1 ?_)
  have h1 : Builtin.List.listSameRef (.ref S) (.ref x) = false := by
    simp only [Builtin.List.listSameRef]
    exact beq_eq_false_iff_ne.mpr (fun q => by have q' : @Eq Nat S x := q; omega)
  have h2 : (Value.ref C == Value.type "list") = false := rfl
  have h3 : (Value.ref C == Value.type "tuple") = false := rfl
  simp only [h1, h2, h3, Bool.or_false, Bool.false_eq_true, if_false]
  refine wpAny_bind (sub_iter (s := { s with heap := H1 }) Y keep1 ?_)
  refine wpAny_bind (wpAny_holding ?_)
  have hI2 : (H1.push { cls := .type "tuple_iterator", data := .fields #[.ref x, .int 0 0] }).get? H1.objs.size = some { cls := .type "tuple_iterator", data := .fields #[.ref x, .int 0 0] } := Heap.get?_push_size _ rfl
  have keep2 : ∀ b o, H1.get? b = some o → (H1.push { cls := .type "tuple_iterator", data := .fields #[.ref x, .int 0 0] }).get? b = some o := fun b o e => Heap.get?_push_of_some _ e
  dsimp only
  generalize H1.push { cls := .type "tuple_iterator", data := .fields #[.ref x, .int 0 0] } = H2 at *
  refine sub_hint Y (fun b o e => keep2 b o (keep1 b o e)) (keep2 _ _ (keep1 _ _ ht)) hd hsz fun k9 => ?_
  have hIS : @Ne Nat H1.objs.size S := by omega
  have hxS : @Ne Nat x S := by omega
  have hxI : @Ne Nat x H1.objs.size := by omega
  have hS2 := keep2 _ _ hS1
  rw [if_pos (by rw [Bool.or_eq_true]; left; exact bne_iff_ne.mpr (by omega))]
  refine wpAny_bind (wpAny_rule ?_)
  refine wpAny_bind ?_
  show wpAny _ A.in1 (updateSeq S (·.push .none) >>= fun _ => updateSeq S (·.pop)) _ _ _
  refine wpAny_bind (wpAny_updateSeq hS2 rfl ?_)
  have hS3 := Heap.get?_update_self (Obj.mapSeq (·.push Value.none)) hS2 rfl
  refine wpAny_updateSeq hS3 rfl ?_
  have hS4 := Heap.get?_update_self (Obj.mapSeq (·.pop)) hS3 rfl
  have oth : ∀ b o, b ≠ S → H2.get? b = some o → ((H2.update S (Obj.mapSeq (·.push Value.none))).update S (Obj.mapSeq (·.pop))).get? b = some o := fun b o hb e => (Heap.get?_update_other _ _ (Ne.symm hb)).trans ((Heap.get?_update_other _ _ (Ne.symm hb)).trans e)
  refine wpAny_pure ⟨plainId_quiet PySem.F.plain_extend_loop _, sub_loop hh hd hsz hIS hxS hxI items.size 0 _ #[] _ (Nat.sub_zero _) (Nat.zero_le _) ⟨_, oth _ _ hIS hI2, rfl, rfl⟩ (oth _ _ hxS (keep2 _ _ (keep1 _ _ ht))) hS4 rfl fun h' acc' c' k hS' hacc => ?_⟩
  show wpAny _ A (load S >>= _) _ _ _
  refine wpAny_bind (wpAny_load hS' ?_)
  dsimp only
  rw [hacc]
  refine wpAny_pure (hQ h' _ fun b o e => k b o ?_ ?_ (oth b o ?_ (keep2 _ _ (keep1 _ _ e))))
  all_goals (have hb : @LT.lt Nat _ b S := by rw [← hSe]; exact Heap.lt_size e)
  · exact Nat.ne_of_lt hb
  · show @Ne Nat b H1.objs.size
    omega
  · exact Nat.ne_of_lt hb
theorem sub_new {x C : Addr} {ot : Obj} {items : Array Value} {n : Nat} (hd : ot.data = .seq items n) (hsz : items.size ≤ 1000) (h0 : 0 < items.size) :
    MeetsIn prog w (Builtin.«tuple.__new__» ⟨[.type "tuple", .ref x], []⟩) (fun A R s => (s.heap.get? x = some ot ∧ A.handled = none ∧ SubTup (model prog w) s.heap x C) ∧ ∀ (h' : Heap) (k : Nat), (∀ b o, s.heap.get? b = some o → h'.get? b = some o) → R (.ok (.ret (.ref h'.objs.size))) { s with heap := h'.push { cls := .type "tuple", data := .seq items }, toks := k }) :=
  .of_wp fun A R s h => by
    obtain ⟨hp, g, d, tk, os⟩ := s
    obtain ⟨⟨ht, hh, Y⟩, h⟩ := h
    have hsub := sub_tuple_self
    have hinit := init_tuple_lookup
    have hmh := madeHere_tuple
    have hh1 : A.in1.handled = none := hh
    wp_walk using Y.ty.here, sub_collect (s := ⟨hp, g, d, tk, os⟩) Y hh1 ht hd hsz h0
    intro h' k hk
    refine wpAny_bind (wpAny_pure ?_)
    show wpAny _ _ (Builtin.Tuple.tupleExact items.toList.toArray >>= fun v => ret v) _ _ _
    unfold Builtin.Tuple.tupleExact
    refine wpAny_bind (wpAny_newObj_type ?_ (by show items.toList.toArray.size ≤ sizeLine; rw [Array.toArray_toList]; unfold sizeLine; omega))
    refine wpAny_pure ⟨_, rfl, ?_⟩
    rw [Array.toArray_toList]
    exact h h' k hk
theorem sub_tuple {x C : Addr} {ot : Obj} {items : Array Value} {n : Nat} {Q : Value → Shared → Prop} (Y : SubTup (model prog w) s.heap x C) (hh : A.handled = none) (ht : s.heap.get? x = some ot) (hd : ot.data = .seq items n) (hsz : items.size ≤ 1000) (h0 : 0 < items.size)
    (hQ : ∀ (h' : Heap) (k : Nat), (∀ b o, s.heap.get? b = some o → h'.get? b = some o) → Q (.ref h'.objs.size) { s with heap := h'.push { cls := .type "tuple", data := .seq items }, toks := k }) : wpAny (model prog w) A (call (.type "tuple") [.ref x]) Q E s :=
  callType_newIn PySem.F.called_tuple (by decide) (PySem.F.typeCall_tuple_1 _) (PySem.F.newCall_tuple_1 _) (fun obj => PySem.F.args_object_init_2 obj _) PySem.F.entry_tuple_new (sub_new hd hsz h0) ⟨⟨ht, hh, Y⟩, fun h' k hk => ⟨⟨_, Heap.get?_push_size _ rfl, rfl⟩, hQ h' k hk⟩⟩
end
section
variable {prog : Program} {w : World} {A : Around} {E : Value → Shared → Prop} {s : Shared} {h₀ : Heap} {L x C : Addr} {m : Str → Option Value} {news : List (Addr × Obj)} {ot : Obj} {items : Array Value} {n : Nat}
/-- the same, over a ledger -/
theorem sub_tupleK {Q : Value → Shared → Prop} (F : Fr h₀ L s.heap m) (N : News h₀ L s.heap news) (Y : SubTup (model prog w) s.heap x C) (hh : A.handled = none) (hm : (x, ot) ∈ news) (hd : ot.data = .seq items n) (hsz : items.size ≤ 1000) (h0 : 0 < items.size)
    (hQ : ∀ (D : Addr) (h' : Heap) (k : Nat), Fr h₀ L h' m → News h₀ L h' ((D, ({ cls := .type "tuple", data := .seq items } : Obj)) :: news) → (∀ p ∈ news, p.1 < D) → Q (.ref D) { s with heap := h', toks := k }) : wpAny (model prog w) A (call (.type "tuple") [.ref x]) Q E s := by
  refine sub_tuple Y hh (N _ hm).1 hd hsz h0 fun h' k hk => ?_
  have F' := F.keeps hk
  have N' := N.grown hk
  exact hQ _ _ k (F'.push _) (N'.push F' _) fun p hp => Heap.lt_size (N' p hp).1
end
end
section
theorem wl_1 : True := by
  k_with "setItem ref int str" => ((k_here; (with_reducible show wpAny _ _ (setItem (Value.ref _) (Value.int _ _) (Value.str _ _)) _ _ _); k_dflt (refine' sa_set ?k1q1 ?k2q1 ?k3q1 ?k4q1 ?k5q1 ?k6q1 ?k7q1 ?_; (case k1q1 => k_asm); (case k2q1 => k_asm); (case k3q1 => k_upd); (case k4q1 => with_reducible assumption); (case k5q1 => omega); (case k6q1 => omega); (case k7q1 => omega); k_whole); intro _ _ _ _ _; (try k_sweep)))
  k_with "call builtin:len cons nil" => ((k_here; (with_reducible show wpAny _ _ (call (Value.builtin "len") [Value.ref _]) _ _ _); k_dflt (refine' sa_len ?k1q2 ?k2q2 ?k3q2 ?k4q2 ?_; (case k1q2 => k_asm); (case k2q2 => k_mem); (case k3q2 => with_reducible assumption); (case k4q2 => omega); k_whole)))
  k_with "own binaryOp RShift int int" => ((k_here; (refine rsh1 ?_)))
  k_with "compareOp Lt str str" => ((k_here; (refine lt_s ?_)))
  k_with "compareOp Gt str str" => ((k_here; (refine gt_s ?_)))
  trivial
local macro_rules | `(tactic| k_all) => `(tactic| first | assumption | exact allNe (by assumption) (by omega) | exact List.forall_mem_append.mpr ⟨by k_all, by k_all⟩)
local macro_rules | `(tactic| k_upd) => `(tactic| first | exact Del.head (by k_all) | (refine' Del.tail ?a ?b; (case a => k_ne); (case b => k_upd)))
theorem wl_2 : True := by
  k_with "unf" => (repeat' (first | (k_unfold; (try dsimp only)) | ((first | (with_reducible show wpAny _ _ (execs _ _) _ _ _) | (with_reducible show wpAny _ _ (call _ _) _ _ _) | (with_reducible show wpAny _ _ (isTrue _ _ _) _ _ _) | (with_reducible show wpAny _ _ (truthy _) _ _ _)); k_fold) | ((fail_if_success first | (with_reducible show KswEnd _ _ _ _ _ _ _ _ _ _ _ _) | (with_reducible show FlEnd _ _ _ _ _ _ _ _ _ _ _ _) | (with_reducible show F1End _ _ _ _ _ _ _ _ _ _ _) | (with_reducible show wpAny _ _ (exec (Stmt.While _ _ _ _) _) _ _ _) | (with_reducible show wpAny _ _ (exec (Stmt.For _ _ _ _ _) _) _ _ _) | (with_reducible show wpAny _ _ (pyIter _) (fun it s₂ => LoopAtV _ _ _ _ _ _ _ _ _ it s₂) _ _) | (with_reducible show wpAny _ _ (eval (PySem.Expr.ListComp _ _ _ _) _) _ _ _) | (with_reducible show LCg.CompSrc _ _ _ _ _ _ _ _ _ _ _ _ _ _) | (with_reducible show LCt.CompSrcT _ _ _ _ _ _ _ _ _ _ _ _ _ _ _) | (with_reducible show LCg.CompEnd _ _ _ _ _ _ _ _ _ _ _ _ _ _)); first | (dsimp only; first | ((with_reducible show _ ∧ _); with_reducible (k_extra "own And")) | ((with_reducible show wpAny _ _ (binaryOp Operator.Add (Value.bytes _ _) (Value.bytes _ _)) _ _ _); with_reducible (k_extra "own binaryOp Add bytes bytes")) | ((with_reducible show wpAny _ _ (binaryOp Operator.Add (Value.ref _) (Value.ref _)) _ _ _); with_reducible (k_extra "own binaryOp Add ref ref")) | ((with_reducible show wpAny _ _ (binaryOp Operator.Mod (Value.str _ _) (Value.ref _)) _ _ _); with_reducible (k_extra "own binaryOp Mod str ref")) | ((with_reducible show wpAny _ _ (binaryOp Operator.RShift _ _) _ _ _); with_reducible (k_extra "own binaryOp RShift int int")) | ((with_reducible show wpAny _ _ (eval (PySem.Expr.Name _ _) _) _ _ _); with_reducible (k_extra "own eval Name")) | ((with_reducible show wpAny _ _ (exec (Stmt.Raise _ _ _) _) _ _ _); with_reducible (k_extra "own exec Raise some none")) | ((with_reducible show wpAny _ _ (getMethod (Value.bytes _ _) _ _) _ _ _); with_reducible (k_extra "own getMethod bytes")) | ((with_reducible show wpAny _ _ (getMethod (Value.ref _) _ _) _ _ _); with_reducible (k_extra "own getMethod ref")) | ((with_reducible show wpAny _ _ (getMethod (Value.str _ _) _ _) _ _ _); with_reducible (k_extra "own getMethod str")) | ((with_reducible show wpAny _ _ (leaving _ _) _ _ _); k_extra "own leaving ref") | ((with_reducible show wpAny _ _ (subscriptTail _ (PySem.Expr.Slice _ _ _ _) (Value.ref _) _) _ _ _); with_reducible (k_extra "own subscriptTail Name Slice ref ref")) | ((with_reducible show wpAny _ _ (truthy (Value.ref _)) _ _ _); with_reducible (k_extra "own truthy ref")) | walk1) | ((with_reducible show _ ∧ _); with_reducible (k_extra "own And")) | ((with_reducible show wpAny _ _ (binaryOp Operator.Add (Value.bytes _ _) (Value.bytes _ _)) _ _ _); with_reducible (k_extra "own binaryOp Add bytes bytes")) | ((with_reducible show wpAny _ _ (binaryOp Operator.Add (Value.ref _) (Value.ref _)) _ _ _); with_reducible (k_extra "own binaryOp Add ref ref")) | ((with_reducible show wpAny _ _ (binaryOp Operator.Mod (Value.str _ _) (Value.ref _)) _ _ _); with_reducible (k_extra "own binaryOp Mod str ref")) | ((with_reducible show wpAny _ _ (binaryOp Operator.RShift _ _) _ _ _); with_reducible (k_extra "own binaryOp RShift int int")) | ((with_reducible show wpAny _ _ (eval (PySem.Expr.Name _ _) _) _ _ _); with_reducible (k_extra "own eval Name")) | ((with_reducible show wpAny _ _ (exec (Stmt.Raise _ _ _) _) _ _ _); with_reducible (k_extra "own exec Raise some none")) | ((with_reducible show wpAny _ _ (getMethod (Value.bytes _ _) _ _) _ _ _); with_reducible (k_extra "own getMethod bytes")) | ((with_reducible show wpAny _ _ (getMethod (Value.ref _) _ _) _ _ _); with_reducible (k_extra "own getMethod ref")) | ((with_reducible show wpAny _ _ (getMethod (Value.str _ _) _ _) _ _ _); with_reducible (k_extra "own getMethod str")) | ((with_reducible show wpAny _ _ (leaving _ _) _ _ _); k_extra "own leaving ref") | ((with_reducible show wpAny _ _ (subscriptTail _ (PySem.Expr.Slice _ _ _ _) (Value.ref _) _) _ _ _); with_reducible (k_extra "own subscriptTail Name Slice ref ref")) | ((with_reducible show wpAny _ _ (truthy (Value.ref _)) _ _ _); with_reducible (k_extra "own truthy ref")) | walk1 | (leave1; walk_say "STEP leave1"; try dsimp only) | fail "no step")))
  k_with "call builtin:list.append cons nil" => ((k_here; (with_reducible show wpAny _ _ (call (Value.builtin _) [Value.ref _, Value.str _ _]) _ _ _); k_dflt (refine' sa_append ?k1q6 ?k2q6 ?k3q6 ?k4q6 ?k5q6 ?_; (case k1q6 => k_asm); (case k2q6 => k_asm); (case k3q6 => k_upd); (case k4q6 => with_reducible assumption); (case k5q6 => omega); k_whole); intro _ _ _ _ _; (try k_sweep)))
  k_with "call builtin:list.pop cons nil" => ((k_here; (with_reducible show wpAny _ _ (call (Value.builtin _) [Value.ref _]) _ _ _); k_dflt (refine' sa_pop ?k1q7 ?k2q7 ?k3q7 ?k4q7 ?k5q7 ?k6q7 ?_; (case k1q7 => k_asm); (case k2q7 => k_asm); (case k3q7 => k_upd); (case k4q7 => with_reducible assumption); (case k5q7 => omega); (case k6q7 => omega); k_whole); intro _ _ _ _ _ _; (try k_sweep)))
  k_with "own truthy ref" => ((k_here; (with_reducible show wpAny _ _ (truthy (Value.ref _)) _ _ _); k_dflt (refine' sa_truthy ?k1q8 ?k2q8 ?k3q8 ?k4q8 ?_; (case k1q8 => k_asm); (case k2q8 => k_mem); (case k3q8 => with_reducible assumption); (case k4q8 => omega); k_whole)))
  k_with "F1Post nil next" => ((dsimp only [F1Post]))
  k_with "FlPost cons next" => ((dsimp only [FlPost]))
  k_with "own eval Name" => ((k_here; (with_reducible show wpAny _ _ (eval (Expr.Name _ _) (envOfC _ _ _ _ _)) _ _ _); k_dflt (refine' nameX_C ?Nq11 ?cq11 ?mq11 ?dq11 ?_ ?aq11 ?bq11; (case aq11 => rfl); (case bq11 => rfl); (case cq11 => exact rfl); (case Nq11 => k_asm); (case mq11 => first | (refine List.mem_cons_of_mem _ ?_; with_reducible assumption) | k_mem); (case dq11 => with_reducible assumption); k_whole)))
  trivial
section
section
variable {prog : Program} {w : World} {A₀ A : Around} {s : Shared} {base h₀ g₀ : Heap} {outer : List Env} {L : Addr} {m : Str → Option Value} {env : Env} {news : List (Addr × Obj)} {K : Frag} {p : Program} {loose : List Str} {mean : ExcName → Option Value} {mg mb : Str → Option Value}
  {R : Result → Shared → Prop} {name qual : Str} {params : Arguments} {body : List Stmt} {scope : Scope} {cl : List (Str × Addr)} {dV kV doc pm cdv ct : Value} {an : Option Addr} {fo : Obj} {f : Addr} {args : Args} {binds : List (Str × Value)}
theorem ts_mem {b : Addr} (hf : env.frame = some L) (hm : b ∈ (env :: outer).filterMap (·.frame)) : b = L ∨ b ∈ outer.filterMap (·.frame) := by
  obtain ⟨e, he, hf'⟩ := List.mem_filterMap.mp hm
  rcases List.mem_cons.mp he with rfl | he
  · exact .inl (Option.some.inj (hf'.symm.trans hf))
  · exact .inr (List.mem_filterMap.mpr ⟨e, he, hf'⟩)
theorem ts_below (B : Below A₀ base outer h₀) {h₁ : Heap} (T : KtsTurn (outer.filterMap (·.frame)) h₀ h₁) : Below A₀ base outer h₁ :=
  ⟨B.stack, fun b o e => T.other b o (B.stays b o e) (fun hm => by
    rw [(B.frames.mem hm).1] at e
    cases e), B.frames.of_keeps fun b o e _ => by
    obtain ⟨sl', hs'⟩ := T.up e
    exact ⟨_, hs', rfl⟩⟩
/-- groundX with the outer frames' slots free to change -/
theorem groundS (B : Below A₀ base outer h₀) (F : Fr h₀ L s.heap m) (N : News h₀ L s.heap news) (XB : K.In base) (TB : Top p loose mean mg mb base) (D : KtsDicts (outer.filterMap (·.frame)) h₀) (T0 : KtsTurn (outer.filterMap (·.frame)) g₀ h₀)
    (hA : A.frames = some (env :: outer)) (hf : env.frame = some L) (hke : env.scope.kind = .function) :
    KtsDicts ((env :: outer).filterMap (·.frame)) (hideAll s.heap (news.map (·.1))) ∧
      ∀ v s', LeaveS ((env :: outer).filterMap (·.frame)) A₀ base outer K p loose mean mg mb g₀ h₀ L m (hideAll s.heap (news.map (·.1))) R v s' → R (.ok (.ret v)) s' := by
  obtain ⟨FG, BG, st, lv⟩ := groundX (R := R) B F N hA hf hke
  have nL : L ∉ news.map (·.1) := fun q => by
    obtain ⟨p, hp, e⟩ := List.mem_map.mp q
    exact (N p hp).2.1 e
  obtain ⟨oL, es, ep, hL, hLd, hLk, hLf⟩ := F.ns
  have hLg := hideAll_get (news.map (·.1)) hL nL
  have nL₀ : h₀.get? L = none := kts_self F
  refine ⟨fun b hb => ?_, fun v s' hl => ?_⟩
  · rcases ts_mem hf hb with rfl | hb
    · exact ⟨oL, es, ep, hLg, hLd⟩
    · obtain ⟨o, es', n', ho', hd'⟩ := D b hb
      exact ⟨o, es', n', st b o ho', hd'⟩
  · rcases hl with hl | ⟨g', L', m', news', T', F', N', k⟩
    · exact lv v s' hl
    obtain ⟨sl, hs⟩ := T'.up hLg
    obtain ⟨T₁, S₁⟩ := kts_turn_at (h := s'.heap) (fs := outer.filterMap (·.frame)) (g := h₀)
      (fun b hb => by
        obtain ⟨_, o, ho', _⟩ := B.frames.mem hb
        exact ⟨o, ho'⟩)
      (fun b o e nmem => F'.keep b o (T'.other b o (st b o e) (fun q => by
        rcases ts_mem hf q with z | z
        · rw [z, nL₀] at e
          cases e
        · exact nmem z)))
      (fun b o e hm => by
        obtain ⟨sl', hs'⟩ := T'.up (st b o e)
        exact ⟨sl', F'.keep _ _ hs'⟩)
    have B₃ := ts_below B T₁
    refine k _ (T0.trans T₁) ⟨⟨_, es, ep, F'.keep _ _ hs, hLd, hLk, hLf⟩, S₁, by rw [T₁.size]; exact F.above⟩ (fun p hp => ⟨(N' p hp).1, fun q => ?_, ?_⟩) B₃ (XB.keeps B₃.stays) (TB.keeps B₃.stays) (D.turn T₁)
    · have := (N' p hp).2.2; rw [q, hs] at this; cases this
    · refine T₁.none_ _ ?_
      cases q : h₀.get? p.1 with
      | none => rfl
      | some o =>
        obtain ⟨sl', hs'⟩ := T'.up (st _ _ q)
        have := (N' p hp).2.2
        rw [hs'] at this
        cases this
theorem callS_plain {dV kV doc pm cdv ct oc : Value} {bs : List (Str × Value)} {od : Option Addr} {osl : Array (Option Value)} (B : Below A₀ base outer h₀) (F : Fr h₀ L s.heap m) (X₀ : K.In h₀) (N : News h₀ L s.heap news) (T : Top p loose mean mg mb h₀) (XB : K.In base) (TB : Top p loose mean mg mb base) (D : KtsDicts (outer.filterMap (·.frame)) h₀) (T0 : KtsTurn (outer.filterMap (·.frame)) g₀ h₀)
    (hA : A.frames = some (env :: outer)) (hf : env.frame = some L) (hke : env.scope.kind = .function)
    (ho : K.lookup f = some ⟨oc, od, .func (fnOf name qual params body scope dV kV doc pm an cdv ct), osl⟩) (hcd : codeIn K cdv qual = true) (hroom : A.depth < recursionLimit)
    (hbind : BindsTo s (fnOf name qual params body scope dV kV doc pm an cdv ct) args binds) (hloc : ∀ y ∈ binds, scope.names.lookup y.1 = some .local) (hbs : binds.reverse = bs)
    (h : ∀ g L' h₁ tk, Fr h₀ L g m → Fr g L' h₁ (fun y => bs.lookup y) → News g L' h₁ news → Below A base (env :: outer) g → K.In g → Top p loose mean mg mb g → KtsDicts ((env :: outer).filterMap (·.frame)) g →
      wpAny (model prog w) (A.deeper (envOf qual scope L' f cdv)) (execs body (envOf qual scope L' f cdv))
        (fun fl s' => LeaveS ((env :: outer).filterMap (·.frame)) A₀ base outer K p loose mean mg mb g₀ h₀ L m g R (match fl with | .ret v => v | _ => .none) s')
        (fun e s' => wpAny (model prog w) (A.deeper (envOf qual scope L' f cdv)) (leaving (envOf qual scope L' f cdv) e) (fun _ s'' => R (.error e) s'') (fun e' s'' => R (.error e') s'') s')
        { s with heap := h₁, toks := tk })
    (hco : scope.isCoroutine = false) (hgen : scope.isGenerator = false) (hk : scope.kind = .function)
    (hcell : ∀ x ∈ scope.names, x.2 ≠ .cell) : codeAny (model prog w) A (.call (.ref f) args) R s := by
  subst hbs
  have X := X₀.keeps F.keep
  obtain ⟨FG, BG, st, _⟩ := groundX (R := R) B F N hA hf hke
  obtain ⟨DG, lv⟩ := groundS (R := R) B F N XB TB D T0 hA hf hke
  refine codeAny_call_def (fd := fnOf name qual params body scope dV kV doc pm an cdv ct) (body := body) (binds := binds) hroom (X _ _ ho) rfl (T.nolimit.keeps F.keep) (codeRec_of X hcd) rfl hbind hcell hloc (fun h₁ hns hk₁ => ?_) hco hgen hk
  exact wpAny_mono (h _ s.heap.objs.size h₁ _ FG ⟨hns, fun b o e => hk₁ b o (of_hideAll _ e), Nat.le_of_eq (hideAll_size _ _)⟩
    (fun p hp => ⟨hk₁ _ _ (N p hp).1, Nat.ne_of_lt (Heap.lt_size (N p hp).1), hideAll_none _ (List.mem_map_of_mem hp)⟩) BG (X₀.keeps st) (T.keeps st) DG) (fun fl s' hl => lv _ _ hl) fun _ _ y => y
theorem callS_cells {dV kV doc pm cdv ct oc : Value} {od : Option Addr} {osl : Array (Option Value)} (B : Below A₀ base outer h₀) (F : Fr h₀ L s.heap m) (X₀ : K.In h₀) (N : News h₀ L s.heap news) (T : Top p loose mean mg mb h₀) (XB : K.In base) (TB : Top p loose mean mg mb base) (D : KtsDicts (outer.filterMap (·.frame)) h₀) (T0 : KtsTurn (outer.filterMap (·.frame)) g₀ h₀)
    (hA : A.frames = some (env :: outer)) (hf : env.frame = some L) (hke : env.scope.kind = .function)
    (ho : K.lookup f = some ⟨oc, od, .func (fnOf name qual params body scope dV kV doc pm an cdv ct), osl⟩) (hcd : codeIn K cdv qual = true) (hroom : A.depth < recursionLimit)
    (hbind : BindsTo s (fnOf name qual params body scope dV kV doc pm an cdv ct) args binds) (hkind : (binds.all fun y => scope.names.lookup y.1 == some .local || scope.names.lookup y.1 == some .cell) = true)
    (hnd : ((cellsFrom 0 scope.names []).map (·.1)).Nodup)
    (h : ∀ g L' h₁ tk cells, Fr h₀ L g m → Fr g L' h₁ (bindL (envOfC qual scope L' f cdv).kindOf binds fun _ => none) → News g L' h₁ (cells ++ news) →
      CellsAre (bindC (envOfC qual scope L' f cdv).kindOf binds fun _ => none) (cellsFrom (L' + 1) scope.names []) cells → Below A base (env :: outer) g → K.In g → Top p loose mean mg mb g → KtsDicts ((env :: outer).filterMap (·.frame)) g → (∀ p ∈ news, p.1 < L') →
      wpAny (model prog w) (A.deeper (envOfC qual scope L' f cdv)) (execs body (envOfC qual scope L' f cdv))
        (fun fl s' => LeaveS ((env :: outer).filterMap (·.frame)) A₀ base outer K p loose mean mg mb g₀ h₀ L m g R (match fl with | .ret v => v | _ => .none) s')
        (fun e s' => wpAny (model prog w) (A.deeper (envOfC qual scope L' f cdv)) (leaving (envOfC qual scope L' f cdv) e) (fun _ s'' => R (.error e) s'') (fun e' s'' => R (.error e') s'') s')
        { s with heap := h₁, toks := tk })
    (hco : scope.isCoroutine = false) (hgen : scope.isGenerator = false) (hk : scope.kind = .function) : codeAny (model prog w) A (.call (.ref f) args) R s := by
  have X := X₀.keeps F.keep
  obtain ⟨FG, BG, st, _⟩ := groundX (R := R) B F N hA hf hke
  obtain ⟨DG, lv⟩ := groundS (R := R) B F N XB TB D T0 hA hf hke
  refine codeAny_call_function hroom (X _ _ ho) rfl hco hgen rfl (codeRec_of X hcd) (hbind _ _ _ _ ?_)
  refine wpAny_newFunctionEnv_cells hk (kindsX hkind _) fun env' he s' x => ?_
  subst he
  refine ⟨((T.nolimit).keeps F.keep).keeps x.toInCall.keep, codeAny_func ?_⟩
  obtain ⟨h₁, tk, rfl, _⟩ := x.done
  have hk₁ := x.toInCall.keep
  obtain ⟨cells, NC, Y⟩ := Cl.news (h₀ := s.heap) (Nat.le_refl _) fun n c hm => ⟨x.cell n c (lookup_of_mem_nodup (cellsFrom_names scope.names 0 (s.heap.objs.size + 1) [] [] rfl ▸ hnd) hm), x.above n c hm⟩
  refine wpAny_mono (h _ s.heap.objs.size h₁ tk cells FG ⟨x.toInCall.ns, fun b o e => hk₁ b o (of_hideAll _ e), Nat.le_of_eq (hideAll_size _ _)⟩ (fun p hp => ?_) Y BG (X₀.keeps st) (T.keeps st) DG (fun p hp => Heap.lt_size (N p hp).1)) (fun fl s' hl => lv _ _ hl) fun _ _ y => y
  rcases List.mem_append.mp hp with hp | hp
  · refine ⟨(NC p hp).1, (NC p hp).2.1, ?_⟩
    cases q : (hideAll s.heap (news.map (·.1))).get? p.1 with
    | none => rfl
    | some o => have := of_hideAll _ q; rw [(NC p hp).2.2] at this; cases this
  · exact ⟨hk₁ _ _ (N p hp).1, Nat.ne_of_lt (Heap.lt_size (N p hp).1), hideAll_none _ (List.mem_map_of_mem hp)⟩
end
end
section
section
variable {g g₂ g₃ h h' : Heap} {L : Addr} {m : Str → Option Value} {fs : List Addr} {news led : List (Addr × Obj)}
/-- the frames of fs, with whatever slots, lie in the ledger -/
noncomputable def FrameLed (g : Heap) (fs : List Addr) (news : List (Addr × Obj)) : Prop := ∀ b ∈ fs, ∀ o, g.get? b = some o → ∃ sl, (b, { o with slots := sl }) ∈ news
theorem fl_mono (x : FrameLed g fs news) (k : ∀ q ∈ news, q ∈ led) : FrameLed g fs led := fun b hb o e => let ⟨sl, hs⟩ := x b hb o e; ⟨sl, k _ hs⟩
theorem fl_make (F : Fr g₂ L h m) (T : KtsTurn fs g g₂) (D : KtsDicts fs g) : ∃ frs, FrameLed g fs frs ∧ (∀ q ∈ frs, q.1 ∈ fs) ∧ News (hideAll g fs) L h frs := by
  have up : ∀ b ∈ fs, ∀ o, g.get? b = some o → ∃ sl, h.get? b = some { o with slots := sl } := fun b hb o e => by
    obtain ⟨sl, hs⟩ := T.frame b o e hb
    exact ⟨sl, F.keep _ _ hs⟩
  refine ⟨fs.filterMap fun b => (h.get? b).map fun o => (b, o), fun b hb o e => ?_, fun q hq => ?_, fun q hq => ?_⟩
  · obtain ⟨sl, hs⟩ := up b hb o e
    exact ⟨sl, List.mem_filterMap.mpr ⟨b, hb, by rw [hs]; rfl⟩⟩
  · obtain ⟨b, hb, e⟩ := List.mem_filterMap.mp hq
    obtain ⟨o, _, e'⟩ := Option.map_eq_some_iff.mp e
    rw [← e']
    exact hb
  · obtain ⟨b, hb, e⟩ := List.mem_filterMap.mp hq
    obtain ⟨o, ho, e'⟩ := Option.map_eq_some_iff.mp e
    rw [← e']
    refine ⟨ho, fun z => ?_, hideAll_none _ hb⟩
    obtain ⟨o', _, _, ho', _⟩ := D b hb
    obtain ⟨sl, hs⟩ := T.frame b o' ho' hb
    have := kts_self F
    rw [← (z : b = L), hs] at this
    cases this
theorem fl_hide (F : Fr g₂ L h m) (T : KtsTurn fs g g₂) : Fr (hideAll g fs) L h m := by
  refine ⟨F.ns, fun b o e => ?_, ?_⟩
  · have e' := of_hideAll _ e
    refine F.keep b o (T.other b o e' fun hb => ?_)
    rw [hideAll_none _ hb] at e
    cases e
  · rw [hideAll_size, ← T.size]
    exact F.above
theorem fl_news (N : News g₂ L h led) (T : KtsTurn fs g g₂) : News (hideAll g fs) L h led := fun q hq => by
  refine ⟨(N q hq).1, (N q hq).2.1, ?_⟩
  cases e : (hideAll g fs).get? q.1 with
  | none => rfl
  | some o =>
    obtain ⟨sl, hs⟩ := T.up (of_hideAll _ e)
    have := (N q hq).2.2
    rw [hs] at this
    cases this
theorem fl_off (N : News g₂ L h led) (T : KtsTurn fs g g₂) (D : KtsDicts fs g) : ∀ q ∈ led, q.1 ∉ fs := fun q hq hb => by
  obtain ⟨o, _, _, ho, _⟩ := D _ hb
  obtain ⟨sl, hs⟩ := T.frame _ o ho hb
  have := (N q hq).2.2
  rw [hs] at this
  cases this
theorem fl_back (F : Fr (hideAll g fs) L h m) (N : News (hideAll g fs) L h news) (x : FrameLed g fs news) (D : KtsDicts fs g) :
    ∃ g₂, KtsTurn fs g g₂ ∧ Fr g₂ L h m ∧ ∀ led, (∀ q ∈ led, q ∈ news) → (∀ q ∈ led, q.1 ∉ fs) → News g₂ L h led := by
  obtain ⟨T, S⟩ := kts_turn_at (h := h) (fs := fs) (g := g)
    (fun b hb => by
      obtain ⟨o, _, _, ho, _⟩ := D b hb
      exact ⟨o, ho⟩)
    (fun b o e nm => F.keep b o (hideAll_get _ e nm))
    (fun b o e hm => by
      obtain ⟨sl, hs⟩ := x b hm o e
      exact ⟨sl, (N _ hs).1⟩)
  refine ⟨_, T, ⟨F.ns, S, by rw [T.size, ← hideAll_size fs g]; exact F.above⟩, fun led k1 k2 q hq => ⟨(N q (k1 q hq)).1, (N q (k1 q hq)).2.1, T.none_ _ ?_⟩⟩
  cases e : g.get? q.1 with
  | none => rfl
  | some o =>
    have := (N q (k1 q hq)).2.2
    rw [hideAll_get _ e (k2 q hq)] at this
    cases this
end
end
section
/-- what the loop of _siftdown makes of the list -/
noncomputable def sdown (x : Str) : Nat → List Str → Nat → List Str
  | 0, xs, pos => xs.set pos x
  | k + 1, xs, pos => if 0 < pos ∧ slt x (xs.getD ((pos - 1) / 2) Str.empty) = true then sdown x k (xs.set pos (xs.getD ((pos - 1) / 2) Str.empty)) ((pos - 1) / 2) else xs.set pos x
theorem sdown_len (x : Str) : ∀ (k : Nat) (xs : List Str) (pos : Nat), (sdown x k xs pos).length = xs.length
  | 0, xs, pos => by simp [sdown]
  | k + 1, xs, pos => by
    unfold sdown
    split
    · rw [sdown_len]; simp
    · simp
theorem sdown_go {x : Str} {k : Nat} {xs R : List Str} {pos : Int} (h : 0 ≤ pos) (hk : pos.toNat ≤ k) (hp : 0 < pos) (hl : slt x (xs.getD ((pos - 1) / 2).toNat Str.empty) = true) (e : sdown x k xs pos.toNat = R) :
    ∃ k', ((pos - 1) / 2).toNat ≤ k' ∧ sdown x k' (xs.set pos.toNat (xs.getD ((pos - 1) / 2).toNat Str.empty)) ((pos - 1) / 2).toNat = R := by
  have e1 : ((pos - 1) / 2).toNat = (pos.toNat - 1) / 2 := by omega
  cases k with
  | zero => omega
  | succ k =>
    refine ⟨k, by omega, ?_⟩
    rw [e1] at hl ⊢
    rw [sdown, if_pos ⟨by omega, hl⟩] at e
    exact e
theorem sdown_stop {x : Str} {k : Nat} {xs R : List Str} {pos : Int} (h : 0 ≤ pos) (hp : ¬ (0 < pos) ∨ slt x (xs.getD ((pos - 1) / 2).toNat Str.empty) = false) (e : sdown x k xs pos.toNat = R) : xs.set pos.toNat x = R := by
  have e1 : ((pos - 1) / 2).toNat = (pos.toNat - 1) / 2 := by omega
  cases k with
  | zero => exact e
  | succ k =>
    rw [sdown, if_neg] at e
    · exact e
    · rintro ⟨a, b⟩
      rcases hp with hp | hp
      · omega
      · rw [e1] at hp; rw [hp] at b; cases b
theorem siftdown_ok (w : World) (la : Addr) (items : List Value) (xs : List Str) (n : Nat) (pos : Int) (t0 t1 : Tok) (rest : List (Addr × Obj)) (hs : StrsAre items xs) (h0 : 0 ≤ pos) (h1 : pos < (xs.length : Int)) (hlen : xs.length < 1000) (hr : ∀ q ∈ rest, q.1 ≠ la) :
    CallOk w 63 [.ref la, .int 0 t0, .int pos t1] ((la, listOf items.toArray n) :: rest) 2 100
      (fun r led => r = .none ∧ ∃ items' n', led = (la, listOf items'.toArray n') :: rest ∧ StrsAre items' (sdown (xs.getD pos.toNat Str.empty) xs.length xs pos.toNat)) := by
  unfold CallOk
  k_fill
  intro loose mean mg mb p dp un gd cn cs a ccd cl outer A₀ base h₀ L m sh sg sd st so Q E B F X N T hk hd1 hu hret
  have hs0 := hs
  generalize hR : sdown (xs.getD pos.toNat Str.empty) xs.length xs pos.toNat = R at hret
  refine wpAny_call ?_
  k_dflt (refine' code_defL (bs := [(Str.ofString "pos", .int pos t1), (Str.ofString "startpos", .int 0 t0), (Str.ofString "heap", .ref la)]) ?k1 ?k2 ?k3 ?k4 ?k5 ?kA ?kF ?kK ?k6 ?k7 ?k8 ?k9 ?kB ?kL ?_ ?c2 ?c3 ?c4 ?c5; (case kA => exact rfl); (case kF => exact rfl); (case kK => assumption); (case k1 => k_asm); (case k2 => k_asm); (case k3 => k_asm); (case k4 => k_asm); (case k5 => k_asm); (case k6 => k_is); (case k7 => k_is); (case k8 => ktr_room); (case k9 => exact BindsTo.of_eq rfl); (case c5 => decide); (case kB => exact locs rfl); (case kL => exact rfl); (case c2 => exact rfl); (case c3 => exact rfl); (case c4 => exact rfl); k_whole; intro _ _ _ _ _ _ _ BE _ _; (try dsimp only); (try k_lift BE); (try k_fold))
  k_extra "unf"
  (rename Fr _ _ _ _ => lF'); (rename News _ _ _ _ => lN')
  with_unfolding_all refine' ksw_while (σ := List Value × List Str × Nat × Int × Tok) (fun c => (la, listOf c.1.toArray c.2.2.1) :: rest) (fun c => [(Str.ofString "pos", .int c.2.2.2.1 c.2.2.2.2)]) (fun c => StrsAre c.1 c.2.1) [Str.ofString "parentpos", Str.ofString "parent"] (fun c => 0 ≤ c.2.2.2.1 ∧ c.2.2.2.1 < c.2.1.length ∧ c.2.1.length = xs.length ∧ ∃ k, c.2.2.2.1.toNat ≤ k ∧ sdown (xs.getD pos.toNat Str.empty) k c.2.1 c.2.2.2.1.toNat = R) (fun c => c.2.2.2.1.toNat) (items, xs, n, pos, t1) lF' lN' ?kf ?kk ?kp ?_ ?ke
  (case kf => assumption)
  (case kk => (intro p hp; rcases List.mem_cons.mp hp with rfl | hp; exact rfl; nomatch hp))
  (case kp => exact ⟨h0, h1, rfl, xs.length, by (show pos.toNat ≤ _; omega), hR⟩)
  (case ke => passes_own)
  refine all_oxxxxxe ?_
  intro vs' xs' n' pos' t' u h tk hi' pk2 F' N'
  (try dsimp only); (try k_fold); show (let G9 : Prop := _; G9); intro G9
  obtain ⟨q1, q2, q3, q4⟩ := pk2
  k_unfold; clear G9
  (dsimp only at hi' q1 q2 q3 q4 F' N')
  (clear lF' lN')
  (try k_fold)
  k_extra "unf"
  · (rename Fr _ _ _ _ => e1); (rename News _ _ _ _ => e2)
    rename slt _ _ = true => hl
    rename 0 < pos' => hp
    refine ksw_end (_, _, _, _, _) e1 e2 (fun _ h9 => h9) (by assumption) (by kst_all) ?hr ?_ ?_
    case hr =>
      intro z h2 h3
      have a1 : z ≠ Str.ofString "pos" := h2 _ (.head _)
      have b1 : z ≠ Str.ofString "parentpos" := fun e9 => by subst e9; exact absurd h3 (by decide)
      have b2 : z ≠ Str.ofString "parent" := fun e9 => by subst e9; exact absurd h3 (by decide)
      simp only [kstB, a1, b1, b2, h3, if_false, Bool.false_eq_true]
    · obtain ⟨k, k1, k2⟩ := q4
      refine ⟨by (show 0 ≤ _ / 2; omega), by (show _ / 2 < ((List.set _ _ _).length : Int); rw [List.length_set]; omega), by (show (List.set _ _ _).length = _; rw [List.length_set]; exact q3), ?_⟩
      exact sdown_go q1 k1 hp hl k2
    · show ((pos' - 1) / 2 : Int).toNat < pos'.toNat
      omega
  · rename slt _ _ = false => hl
    obtain ⟨k, k1, k2⟩ := q4
    rw [← sdown_stop q1 (.inr hl) k2] at hret
    exact hret _ _ _ _ ⟨rfl, _, _, rfl, by assumption⟩ (by assumption) (by assumption)
  · rename ¬ (0 < pos') => hl
    obtain ⟨k, k1, k2⟩ := q4
    rw [← sdown_stop q1 (.inl hl) k2] at hret
    exact hret _ _ _ _ ⟨rfl, _, _, rfl, by assumption⟩ (by assumption) (by assumption)
end
section
theorem wl_3 : True := by
  k_with "call ref cons nil" => ((k_here; (with_reducible show wpAny _ _ (call (Value.ref 63) _) _ _ _); (refine' call_use (siftdown_ok _ _ _ _ _ _ _ _ _ ?hsq12 ?h0q12 ?h1q12 ?hlq12 ?hrq12) ?Bq12 ?Fq12 ?Xq12 (Del.news ?Dq12 ?Nq12) ?Tq12 ?hkq12 ?hdq12 ?huq12 ?_; (case Bq12 => k_asm); (case Fq12 => k_asm); (case Xq12 => k_asm); (case Nq12 => k_asm); (case Dq12 => k_upd); (case Tq12 => k_asm); (case hsq12 => with_reducible assumption); (case h0q12 => omega); (case h1q12 => omega); (case hlq12 => omega); (case hrq12 => assumption); (case hkq12 => first | exact rfl | assumption); (case hdq12 => ktr_room); (case huq12 => ktr_units)); (rintro _ _ _ _ ⟨e8w8, _, _, e9w8, _⟩ _ _; subst e8w8; subst e9w8); (try dsimp only); (try k_sweep); (try k_fold)))
  trivial
theorem push_eq (x : Str) (xs : List Str) : sdown ((xs ++ [x]).getD (((xs ++ [x]).length : Int) - 1).toNat Str.empty) (xs ++ [x]).length (xs ++ [x]) (((xs ++ [x]).length : Int) - 1).toNat = sdown x (xs.length + 1) (xs ++ [x]) xs.length := by
  have e : (((xs ++ [x]).length : Int) - 1).toNat = xs.length := by rw [List.length_append]; simp only [List.length_cons, List.length_nil]; omega
  rw [e]
  have e2 : (xs ++ [x]).getD xs.length Str.empty = x := by simp [List.getD]
  rw [e2, List.length_append]; rfl
theorem heappush_ok (w : World) (la : Addr) (items : List Value) (xs : List Str) (n : Nat) (x : Str) (t0 : Tok) (rest : List (Addr × Obj)) (hs : StrsAre items xs) (hlen : xs.length < 900) (hr : ∀ q ∈ rest, q.1 ≠ la) :
    CallOk w 49 [.ref la, .str x t0] ((la, listOf items.toArray n) :: rest) 4 200
      (fun r led => r = .none ∧ ∃ items' n', led = (la, listOf items'.toArray n') :: rest ∧ StrsAre items' (sdown x (xs.length + 1) (xs ++ [x]) xs.length)) := by
  unfold CallOk
  k_fill
  intro loose mean mg mb p dp un gd cn cs a ccd cl outer A₀ base h₀ L m sh sg sd st so Q E B F X N T hk hd1 hu hret
  refine wpAny_call ?_
  k_dflt (refine' code_defL (bs := [(Str.ofString "item", .str x t0), (Str.ofString "heap", .ref la)]) ?k1 ?k2 ?k3 ?k4 ?k5 ?kA ?kF ?kK ?k6 ?k7 ?k8 ?k9 ?kB ?kL ?_ ?c2 ?c3 ?c4 ?c5; (case kA => exact rfl); (case kF => exact rfl); (case kK => assumption); (case k1 => k_asm); (case k2 => k_asm); (case k3 => k_asm); (case k4 => k_asm); (case k5 => k_asm); (case k6 => k_is); (case k7 => k_is); (case k8 => ktr_room); (case k9 => exact BindsTo.of_eq rfl); (case c5 => decide); (case kB => exact locs rfl); (case kL => exact rfl); (case c2 => exact rfl); (case c3 => exact rfl); (case c4 => exact rfl); k_whole; intro _ _ _ _ _ _ _ BE _ _; (try dsimp only); (try k_lift BE); (try k_fold))
  k_extra "unf"
  refine hret _ _ _ _ ⟨rfl, _, _, rfl, ?_⟩ (by assumption) (by assumption)
  rw [← push_eq]; assumption
end
section
/-- the child that _siftup takes -/
noncomputable def upc (xs : List Str) (pos : Nat) : Nat := if 2 * pos + 2 < xs.length ∧ slt (xs.getD (2 * pos + 1) Str.empty) (xs.getD (2 * pos + 2) Str.empty) = false then 2 * pos + 2 else 2 * pos + 1
/-- what the loop of _siftup makes of the list, and where it ends -/
noncomputable def sup : Nat → List Str → Nat → List Str × Nat
  | 0, xs, pos => (xs, pos)
  | k + 1, xs, pos => if 2 * pos + 1 < xs.length then sup k (xs.set pos (xs.getD (upc xs pos) Str.empty)) (upc xs pos) else (xs, pos)
theorem getD_set_eq (xs : List Str) (i : Nat) (a d : Str) (h : i < xs.length) : (xs.set i a).getD i d = a := by simp [List.getD, h]
theorem sup_len : ∀ (k : Nat) (xs : List Str) (pos : Nat), (sup k xs pos).1.length = xs.length
  | 0, xs, pos => rfl
  | k + 1, xs, pos => by
    unfold sup
    split
    · rw [sup_len]; simp
    · rfl
theorem sup_go {k : Nat} {xs : List Str} {R : List Str × Nat} {pos c : Int} (h : 0 ≤ pos) (hk : xs.length ≤ k + pos.toNat) (hp : 2 * pos + 1 < xs.length) (hc : c.toNat = upc xs pos.toNat) (h1 : 2 * pos + 1 ≤ c) (e : sup k xs pos.toNat = R) :
    ∃ k', (xs.set pos.toNat (xs.getD c.toNat Str.empty)).length ≤ k' + c.toNat ∧ sup k' (xs.set pos.toNat (xs.getD c.toNat Str.empty)) c.toNat = R := by
  cases k with
  | zero => omega
  | succ k =>
    refine ⟨k, by rw [List.length_set]; omega, ?_⟩
    rw [hc]
    rw [sup, if_pos (by omega)] at e
    exact e
theorem sup_stop {k : Nat} {xs : List Str} {R : List Str × Nat} {pos : Int} (h : 0 ≤ pos) (hp : ¬ (2 * pos + 1 < xs.length)) (e : sup k xs pos.toNat = R) : R = (xs, pos.toNat) := by
  cases k with
  | zero => exact e.symm
  | succ k => rw [sup, if_neg (by omega)] at e; exact e.symm
theorem wl_4 : True := by
  k_with "call ref cons nil" => ((k_here; (with_reducible show wpAny _ _ (call (Value.ref 63) _) _ _ _); (refine' call_use (siftdown_ok _ _ _ _ _ _ _ _ _ ?hsq13 ?h0q13 ?h1q13 ?hlq13 ?hrq13) ?Bq13 ?Fq13 ?Xq13 (Del.news ?Dq13 ?Nq13) ?Tq13 ?hkq13 ?hdq13 ?huq13 ?_; (case Bq13 => k_asm); (case Fq13 => k_asm); (case Xq13 => k_asm); (case Nq13 => k_asm); (case Dq13 => k_upd); (case Tq13 => k_asm); (case hsq13 => with_reducible assumption); (case h0q13 => omega); (case h1q13 => omega); (case hlq13 => omega); (case hrq13 => assumption); (case hkq13 => first | exact rfl | assumption); (case hdq13 => ktr_room); (case huq13 => ktr_units)); (rintro _ _ _ _ ⟨e8w8, _, _, e9w8, _⟩ _ _; subst e8w8; subst e9w8); (try dsimp only); (try k_sweep); (try k_fold)))
  trivial
theorem siftup_ok (w : World) (la : Addr) (items : List Value) (xs : List Str) (n : Nat) (t0 : Tok) (rest : List (Addr × Obj)) (hs : StrsAre items xs) (h1 : 0 < xs.length) (hlen : xs.length < 900) (hr : ∀ q ∈ rest, q.1 ≠ la) :
    CallOk w 70 [.ref la, .int 0 t0] ((la, listOf items.toArray n) :: rest) 4 200
      (fun r led => r = .none ∧ ∃ items' n' ys p, led = (la, listOf items'.toArray n') :: rest ∧ sup xs.length xs 0 = (ys, p) ∧ StrsAre items' (sdown (xs.getD 0 Str.empty) xs.length (ys.set p (xs.getD 0 Str.empty)) p)) := by
  unfold CallOk
  k_fill
  intro loose mean mg mb p dp un gd cn cs a ccd cl outer A₀ base h₀ L m sh sg sd st so Q E B F X N T hk hd1 hu hret
  generalize hR : sup xs.length xs 0 = R at hret
  refine wpAny_call ?_
  k_dflt (refine' code_defL (bs := [(Str.ofString "pos", .int 0 t0), (Str.ofString "heap", .ref la)]) ?k1 ?k2 ?k3 ?k4 ?k5 ?kA ?kF ?kK ?k6 ?k7 ?k8 ?k9 ?kB ?kL ?_ ?c2 ?c3 ?c4 ?c5; (case kA => exact rfl); (case kF => exact rfl); (case kK => assumption); (case k1 => k_asm); (case k2 => k_asm); (case k3 => k_asm); (case k4 => k_asm); (case k5 => k_asm); (case k6 => k_is); (case k7 => k_is); (case k8 => ktr_room); (case k9 => exact BindsTo.of_eq rfl); (case c5 => decide); (case kB => exact locs rfl); (case kL => exact rfl); (case c2 => exact rfl); (case c3 => exact rfl); (case c4 => exact rfl); k_whole; intro _ _ _ _ _ _ _ BE _ _; (try dsimp only); (try k_lift BE); (try k_fold))
  k_extra "unf"
  (rename Fr _ _ _ _ => lF'); (rename News _ _ _ _ => lN')
  with_unfolding_all refine' ksw_while (σ := List Value × List Str × Nat × Int × Tok × Int × Tok) (fun c => (la, listOf c.1.toArray c.2.2.1) :: rest) (fun c => [(Str.ofString "pos", .int c.2.2.2.1 c.2.2.2.2.1), (Str.ofString "childpos", .int c.2.2.2.2.2.1 c.2.2.2.2.2.2)]) (fun c => StrsAre c.1 c.2.1) [Str.ofString "rightpos"] (fun c => 0 ≤ c.2.2.2.1 ∧ c.2.2.2.1 < c.2.1.length ∧ c.2.1.length = xs.length ∧ c.2.2.2.2.2.1 = 2 * c.2.2.2.1 + 1 ∧ ∃ k, c.2.1.length ≤ k + c.2.2.2.1.toNat ∧ sup k c.2.1 c.2.2.2.1.toNat = R) (fun c => c.2.1.length - c.2.2.2.1.toNat) (items, xs, n, 0, _, 2 * 0 + 1, _) lF' lN' ?kf ?kk ?kp ?_ ?ke
  (case kk => (refine List.forall_mem_cons.mpr ⟨?_, List.forall_mem_cons.mpr ⟨?_, fun _ h9 => nomatch h9⟩⟩ <;> exact rfl))
  (case kf => assumption)
  (case kp => exact ⟨Int.le_refl 0, by (show (0 : Int) < (xs.length : Int); omega), rfl, rfl, xs.length, Nat.le_add_right _ _, hR⟩)
  (case ke => passes_own)
  refine all_oxxxxxxxe ?_
  intro vs' xs' n' pos' t' ch tc u h tk hi' pk2 F' N'
  (try dsimp only); (try k_fold); show (let G9 : Prop := _; G9); intro G9
  obtain ⟨q1, q2, q3, q4, q5⟩ := pk2
  k_unfold; clear G9
  (dsimp only at hi' q1 q2 q3 q4 q5 F' N')
  (clear lF' lN')
  (try k_fold)
  k_extra "unf"
  rotate_left 3
  · obtain ⟨k, k1, k2⟩ := q5
    have e5 := sup_stop q1 (by omega) k2
    subst e5
    refine hret _ _ _ _ ⟨rfl, _, _, _, _, rfl, rfl, ?_⟩ (by assumption) (by assumption)
    rename StrsAre _ (sdown _ _ _ _) => hz
    rw [List.length_set, q3] at hz
    have e6 : (xs'.set pos'.toNat (xs.getD (Int.toNat 0) Str.empty)).getD pos'.toNat Str.empty = xs.getD 0 Str.empty := by
      exact getD_set_eq _ _ _ _ (by omega)
    rw [e6] at hz
    exact hz
  all_goals (
    (rename Fr _ _ _ _ => e1); (rename News _ _ _ _ => e2)
    refine ksw_end (_, _, _, _, _, _, _) e1 e2 (fun _ h9 => h9) (by assumption) (by kst_all) ?hr ?hp ?hm
    case hr =>
      intro z h2 h3
      have a1 : z ≠ Str.ofString "pos" := h2 _ (.head _)
      have a2 : z ≠ Str.ofString "childpos" := h2 _ (.tail _ (.head _))
      have b1 : z ≠ Str.ofString "rightpos" := fun e9 => by subst e9; exact absurd h3 (by decide)
      simp only [kstB, a1, a2, b1, h3, if_false, Bool.false_eq_true]
    case hm =>
      dsimp only
      rw [List.length_set]; omega
    case hp =>
      obtain ⟨k, k1, k2⟩ := q5
      dsimp only
      refine ⟨by omega, by (rw [List.length_set]; omega), by (rw [List.length_set]; exact q3), rfl, ?_⟩
      refine sup_go q1 k1 (by omega) ?_ (by omega) k2
      subst q4
      unfold upc
      have e4 : 2 * pos'.toNat + 1 = (2 * pos' + 1).toNat := by omega
      have e5 : 2 * pos'.toNat + 2 = (2 * pos' + 1 + 1).toNat := by omega
      rw [e4, e5]
      first
        | (rename slt _ _ = false => hl; rw [if_pos ⟨by omega, hl⟩])
        | (rename slt _ _ = true => hl; rw [if_neg (by rintro ⟨-, hz⟩; rw [hl] at hz; cases hz)])
        | (rw [if_neg (by rintro ⟨hz, -⟩; omega)]))
end
section
/-- one pop of the heap: the item, and what is left -/
noncomputable def hpop (xs : List Str) : Str × List Str :=
  let last := xs.getD (xs.length - 1) Str.empty
  let ys := xs.dropLast
  if 0 < ys.length then
    let zs := ys.set 0 last
    let u := sup zs.length zs 0
    (ys.getD 0 Str.empty, sdown last zs.length (u.1.set u.2 last) u.2)
  else (last, ys)
theorem hpop_pos {xs ys : List Str} {p : Nat} (h : 0 < xs.dropLast.length) (e : sup (xs.dropLast.set 0 (xs.getD (xs.length - 1) Str.empty)).length (xs.dropLast.set 0 (xs.getD (xs.length - 1) Str.empty)) 0 = (ys, p)) :
    hpop xs = (xs.dropLast.getD 0 Str.empty, sdown ((xs.dropLast.set 0 (xs.getD (xs.length - 1) Str.empty)).getD 0 Str.empty) (xs.dropLast.set 0 (xs.getD (xs.length - 1) Str.empty)).length (ys.set p ((xs.dropLast.set 0 (xs.getD (xs.length - 1) Str.empty)).getD 0 Str.empty)) p) := by
  rw [getD_set_eq _ _ _ _ h]
  unfold hpop
  dsimp only
  rw [if_pos h, e]
theorem hpop_nil {xs : List Str} (h : ¬ 0 < xs.dropLast.length) : hpop xs = (xs.getD (xs.length - 1) Str.empty, xs.dropLast) := by
  unfold hpop
  dsimp only
  rw [if_neg h]
theorem wl_5 : True := by
  k_with "call ref cons nil" => ((k_here; (with_reducible show wpAny _ _ (call (Value.ref 70) _) _ _ _); (refine' call_use (siftup_ok _ _ _ _ _ _ _ ?hsq14 ?h1q14 ?hlq14 ?hrq14) ?Bq14 ?Fq14 ?Xq14 (Del.news ?Dq14 ?Nq14) ?Tq14 ?hkq14 ?hdq14 ?huq14 ?_; (case Bq14 => k_asm); (case Fq14 => k_asm); (case Xq14 => k_asm); (case Nq14 => k_asm); (case Dq14 => k_upd); (case Tq14 => k_asm); (case hsq14 => with_reducible assumption); (case h1q14 => omega); (case hlq14 => omega); (case hrq14 => assumption); (case hkq14 => first | exact rfl | assumption); (case hdq14 => ktr_room); (case huq14 => ktr_units)); (rintro _ _ _ _ ⟨e8w8, _, _, _, _, e9w8, _, _⟩ _ _; subst e8w8; subst e9w8); (try dsimp only); (try k_sweep); (try k_fold)))
  trivial
theorem heappop_ok (w : World) (la : Addr) (items : List Value) (xs : List Str) (n : Nat) (rest : List (Addr × Obj)) (hs : StrsAre items xs) (h1 : 0 < xs.length) (hlen : xs.length < 900) (hr : ∀ q ∈ rest, q.1 ≠ la) :
    CallOk w 56 [.ref la] ((la, listOf items.toArray n) :: rest) 6 300
      (fun r led => ∃ t, r = .str (hpop xs).1 t ∧ ∃ items' n', led = (la, listOf items'.toArray n') :: rest ∧ StrsAre items' (hpop xs).2) := by
  unfold CallOk
  k_fill
  intro loose mean mg mb p dp un gd cn cs a ccd cl outer A₀ base h₀ L m sh sg sd st so Q E B F X N T hk hd1 hu hret
  refine wpAny_call ?_
  k_dflt (refine' code_defL (bs := [(Str.ofString "heap", .ref la)]) ?k1 ?k2 ?k3 ?k4 ?k5 ?kA ?kF ?kK ?k6 ?k7 ?k8 ?k9 ?kB ?kL ?_ ?c2 ?c3 ?c4 ?c5; (case kA => exact rfl); (case kF => exact rfl); (case kK => assumption); (case k1 => k_asm); (case k2 => k_asm); (case k3 => k_asm); (case k4 => k_asm); (case k5 => k_asm); (case k6 => k_is); (case k7 => k_is); (case k8 => ktr_room); (case k9 => exact BindsTo.of_eq rfl); (case c5 => decide); (case kB => exact locs rfl); (case kL => exact rfl); (case c2 => exact rfl); (case c3 => exact rfl); (case c4 => exact rfl); k_whole; intro _ _ _ _ _ _ _ BE _ _; (try dsimp only); (try k_lift BE); (try k_fold))
  k_extra "unf"
  · rename sup _ _ _ = _ => es
    rename 0 < xs.dropLast.length => hp
    have e := hpop_pos hp es
    rw [e] at hret
    exact hret _ _ _ _ ⟨_, rfl, _, _, rfl, by assumption⟩ (by assumption) (by assumption)
  · rename ¬ 0 < xs.dropLast.length => hp
    rw [hpop_nil hp] at hret
    exact hret _ _ _ _ ⟨_, rfl, _, _, rfl, by assumption⟩ (by assumption) (by assumption)
end
section
theorem off1_mem {D : Addr} : ∀ {l : List (Addr × Obj)}, LCg.Off1 D l → ∀ q ∈ l, q.1 ≠ D
  | [], _ => fun _ h => nomatch h
  | _ :: _, h => List.forall_mem_cons.mpr ⟨h.1, off1_mem h.2⟩
/-- the texts pushed one by one -/
noncomputable def pushAll (xs : List Str) : List Str := xs.foldl (fun h x => sdown x (h.length + 1) (h ++ [x]) h.length) []
theorem pushAll_snoc (xs : List Str) (x : Str) : pushAll (xs ++ [x]) = sdown x ((pushAll xs).length + 1) (pushAll xs ++ [x]) (pushAll xs).length := by
  unfold pushAll; rw [List.foldl_append]; rfl
theorem pushAll_len (xs : List Str) : (pushAll xs).length = xs.length := by
  suffices h : ∀ (h : List Str), (xs.foldl (fun h x => sdown x (h.length + 1) (h ++ [x]) h.length) h).length = h.length + xs.length by
    have := h []; unfold pushAll; rw [this]; simp
  induction xs with
  | nil => intro h; simp
  | cons x xs ih => intro h; rw [List.foldl_cons, ih, sdown_len]; simp; omega
theorem pushAll_take {xs : List Str} {i : Nat} (h : i < xs.length) : pushAll (xs.take (i + 1)) = sdown (xs.getD i Str.empty) (i + 1) (pushAll (xs.take i) ++ [xs.getD i Str.empty]) i := by
  have e : xs.take (i + 1) = xs.take i ++ [xs.getD i Str.empty] := by
    rw [List.take_add_one]; simp [List.getD, List.getElem?_eq_getElem h]
  have l : (xs.take i).length = i := by rw [List.length_take]; omega
  rw [e, pushAll_snoc, pushAll_len, l]
theorem off3_rest {h₀ h : Heap} {L I C D : Addr} {oI oC oD : Obj} {x : Addr × Obj} {R : List (Addr × Obj)} (_ : News h₀ L h ((I, oI) :: (C, oC) :: (D, oD) :: x :: R)) (o : LCg.Off3 I C D (x :: R)) (hR : ∀ q ∈ R, q.1 ≠ x.1) :
    ∀ q ∈ (I, oI) :: (C, oC) :: (D, oD) :: R, q.1 ≠ x.1 :=
  List.forall_mem_cons.mpr ⟨o.1.1.symm, List.forall_mem_cons.mpr ⟨o.1.2.1.symm, List.forall_mem_cons.mpr ⟨o.1.2.2.symm, hR⟩⟩⟩
theorem compEnd_front {h₀ h' : Heap} {L I C D : Addr} {m : Str → Option Value} {s₁ : Shared} {oI oC oD : Obj} {S : List (Addr × Obj) → Prop} {rest : Value → List (Addr × Obj) → Prop} {y : Value} {tk : Nat} {x : Addr × Obj} {R : List (Addr × Obj)}
    (F : Fr h₀ L h' m) (N : News h₀ L h' (x :: (I, oI) :: (C, oC) :: (D, oD) :: R)) (off : LCg.Off3 I C D (x :: R)) (hS : S (x :: R)) (r : rest y (x :: R)) : LCg.CompEnd h₀ L m s₁ I oI C oC D oD S rest y { s₁ with heap := h', toks := tk } :=
  LCg.CompEnd.intro F N (x :: R) (fun q hq => by
    revert q; repeat' (first | with_reducible refine List.forall_mem_cons.mpr ⟨?_, ?_⟩ | (intro _ hS9; (repeat (first | with_reducible exact hS9 | with_reducible refine List.mem_cons_of_mem _ ?_)); done) | with_reducible refine List.forall_mem_append.mpr ⟨?_, ?_⟩ | ((repeat (first | with_reducible exact List.mem_cons_self | with_reducible refine List.mem_cons_of_mem _ ?_)); done) | with_reducible exact fun _ h => absurd h List.not_mem_nil)) off hS r
theorem hpop_len (xs : List Str) : (hpop xs).2.length = xs.length - 1 := by
  unfold hpop
  dsimp only
  split
  · rw [sdown_len, List.length_set, sup_len, List.length_set, List.length_dropLast]
  · rw [List.length_dropLast]
/-- the heap after i pops, and the texts popped -/
noncomputable def restN : Nat → List Str → List Str
  | 0, h => h
  | i + 1, h => (hpop (restN i h)).2
noncomputable def popN : Nat → List Str → List Str
  | 0, _ => []
  | i + 1, h => popN i h ++ [(hpop (restN i h)).1]
theorem restN_len (h : List Str) : ∀ i, (restN i h).length = h.length - i
  | 0 => rfl
  | i + 1 => by show (hpop (restN i h)).2.length = _; rw [hpop_len, restN_len h i]; omega
theorem wl_6 : True := by
  k_with "call ref cons nil" => ((k_here; (with_reducible show wpAny _ _ (call (Value.ref 49) _) _ _ _); (refine' call_use (heappush_ok _ _ _ _ _ _ _ _ ?hsq15 ?hlq15 ?hrq15) ?Bq15 ?Fq15 ?Xq15 (Del.news ?Dq15 ?Nq15) ?Tq15 ?hkq15 ?hdq15 ?huq15 ?_; (case Bq15 => k_asm); (case Fq15 => k_asm); (case Xq15 => k_asm); (case Nq15 => k_asm); (case Dq15 => k_upd); (case Tq15 => k_asm); (case hsq15 => with_reducible assumption); (case hlq15 => omega); (case hrq15 => assumption); (case hkq15 => first | exact rfl | assumption); (case hdq15 => ktr_room); (case huq15 => ktr_units)); (rintro _ _ _ _ ⟨e8w8, _, _, e9w8, _⟩ _ _; subst e8w8; subst e9w8); (try dsimp only); (try k_sweep); (try k_fold)))
  k_with "call ref cons nil" => ((k_here; (with_reducible show wpAny _ _ (call (Value.ref 56) _) _ _ _); (refine' call_use (heappop_ok _ _ _ _ _ _ ?hsq16 ?h1q16 ?hlq16 ?hrq16) ?Bq16 ?Fq16 ?Xq16 (Del.news ?Dq16 ?Nq16) ?Tq16 ?hkq16 ?hdq16 ?huq16 ?_; (case Bq16 => k_asm); (case Fq16 => k_asm); (case Xq16 => k_asm); (case Nq16 => k_asm); (case Dq16 => k_upd); (case Tq16 => k_asm); (case hsq16 => with_reducible assumption); (case h1q16 => omega); (case hlq16 => omega); (case hrq16 => first | assumption | k_all); (case hkq16 => first | exact rfl | assumption); (case hdq16 => ktr_room); (case huq16 => ktr_units)); (rintro _ _ _ _ ⟨_, e8w8, _, _, e9w8, _⟩ _ _; subst e8w8; subst e9w8); (try dsimp only); (try k_sweep); (try k_fold)))
  trivial
theorem popped_ok (w : World) (ta : Addr) (items : List Value) (xs : List Str) (n : Nat) (rest : List (Addr × Obj)) (hs : StrsAre items xs) (hlen : xs.length < 900) (hin : (ta, listOf items.toArray n) ∈ rest) :
    CallOk w 246 [.ref ta] rest 12 600
      (fun r led => ∃ (D : Addr) (ys : List Value) (k : Nat), r = .ref D ∧ StrsAre ys (popN xs.length (pushAll xs)) ∧ led = (D, listOf ys.toArray k) :: rest ∧ ∀ q ∈ rest, q.1 ≠ D) := by
  unfold CallOk
  k_fill
  intro loose mean mg mb p dp un gd cn cs a ccd cl outer A₀ base h₀ L m sh sg sd st so Q E B F X N T hk hd1 hu hret
  refine wpAny_call ?_
  k_dflt (refine' code_defC ?k1 ?k2 ?k3 ?k4 ?k5 ?kA ?kF ?kK ?k6 ?k7 ?k8 ?k9 ?kB ?kD ?_ ?c2 ?c3 ?c4; (case kA => exact rfl); (case kF => exact rfl); (case kK => assumption); (case k1 => k_asm); (case k2 => k_asm); (case k3 => k_asm); (case k4 => k_asm); (case k5 => k_asm); (case k6 => k_is); (case k7 => k_is); (case k8 => ktr_room); (case k9 => exact BindsTo.of_eq rfl); (case kB => exact rfl); (case kD => decide +kernel); (case c2 => exact rfl); (case c3 => exact rfl); (case c4 => exact rfl); k_whole; intro gw7 Lw7 hw7 tkw7 cellsw7 FGw7 Fw7 Nw7 Yw7 Bw7 Xw7 Tw7 l1w7; k_cells Yw7; (try simp only [List.cons_append, List.nil_append] at Nw7); (try dsimp only); (try k_lift Bw7); (try k_fold))
  k_extra "unf"
  (rename Fr _ _ _ _ => lF0); (with_unfolding_all refine' For_invVF lF0 ?k1 ?k2 ?_; (case k1 => exact rfl); (case k2 => exact rfl))
  k_extra "unf"
  (rename Fr _ _ _ _ => lF'); (rename News _ _ _ _ => lN')
  refine for_led1 [] (fun i zs => zs = pushAll (xs.take i)) rfl lF' lN' (.tail _ hin) (by k_all) .nil rfl ?_ ?_
  · intro ws zs k i v u h tk R hv hRR hRne hz hP F1 N1
    obtain ⟨hi, t1, e1⟩ := sa_item hs hv
    subst e1
    subst hP
    have hc := hRR _ (.head _)
    have hpl : (pushAll (xs.take i)).length = i := by rw [pushAll_len, List.length_take]; omega
    clear lF' lN'
    (try k_fold)
    k_extra "unf"
    (rename Fr _ _ _ _ => lF); (rename News _ _ _ _ => lN); (rename StrsAre _ (sdown _ _ _ _) => lS)
    rw [hpl, ← pushAll_take hi] at lS
    refine f1_end (by assumption) (by assumption) (fun _ h9 => h9) lS (fun z h1 h2 => ?_) rfl
    simp only [h1, h2, if_false, Bool.false_eq_true]
  · intro ws zs k u h tk hz hP F1 N1
    clear lF' lN'
    have hn : items.length = xs.length := hs.length
    rw [hn, List.take_length] at hP
    subst hP
    (try k_fold)
    k_extra "unf"
    k_dflt (refine LCg.ListComp_U (F₀ := by k_asm) (by rfl) (by decide) (by rfl) (by decide) (by rfl) ?_)
    k_extra "unf"
    refine LCg.CompSrc.ledger (by rfl) (by k_asm) (by k_asm) (.tail _ (.tail _ hin)) (by rw [List.size_toArray, hn]; unfold sizeLine; omega) ?_
    intro g'
    refine comp_ind (J := fun i ys news => ∃ ws k, news = ((_, listOf ws.toArray k) :: (_, _) :: rest : List (Addr × Obj)) ∧ StrsAre ws (restN i (pushAll xs)) ∧ StrsAre ys (popN i (pushAll xs))) ?_ ?_ _ 0 [] _ (Nat.zero_add _) ⟨_, _, rfl, by assumption, .nil⟩
    · intro i ys news v I oI C oC D m₂ h tk E' hi hJ hP hC hx F N o ne
      obtain ⟨ws, k, e9, h1, h2⟩ := hJ
      subst e9
      clear F1 N1
      have hb : i < xs.length := by rw [List.size_toArray] at hi; omega
      have hl9 : (restN i (pushAll xs)).length = xs.length - i := by rw [restN_len, pushAll_len]
      have hrest := off3_rest N o (by dsimp only; k_all)
      obtain ⟨⟨o1, o2, o3⟩, o4⟩ := o
      dsimp only at o1 o2 o3
      (try dsimp only at hrest)
      have hR1 := fun q hq => hrest q (.tail _ (.tail _ (.tail _ hq)))
      (try dsimp only)
      (try k_fold)
      k_extra "unf"
      (rename Fr _ _ _ _ => lF); (rename News _ _ _ _ => lN); (rename StrsAre _ (hpop _).2 => lS)
      refine compEnd_front lF lN ⟨⟨o1, o2, o3⟩, o4⟩ (.inr ⟨_, .tail _ (.tail _ hin), rfl, _, rfl⟩) ?_
      exact ⟨_, _, rfl, lS, strsAre_append h2 (.cons _ _ .nil)⟩
    · intro ys news hJ
      obtain ⟨ws, k, e9, h1, h2⟩ := hJ
      subst e9
      k_extra "unf"
      rename ((_ ≠ _) ∧ _) => o9
      refine hret _ _ _ _ ⟨_, ys, ys.length, rfl, ?_, rfl, off1_mem o9.2.2⟩ (by assumption) ?_
      · simpa [hn] using h2
      · rename News h₀ L _ _ => lN
        intro q hq
        exact lN q (by
          rcases List.mem_cons.mp hq with h9 | h9
          · exact h9 ▸ .head _
          · exact .tail _ (.tail _ (.tail _ h9)))
end
section
/-- the order of texts, and its laws -/
noncomputable def sle (x y : Str) : Prop := slt y x = false
theorem sle_trans {x y z : Str} (h : sle x y) (k : sle y z) : sle x z := by
  simp only [sle, slt, decide_eq_false_iff_not, List.not_lt] at h k ⊢
  exact List.le_trans h k
theorem sle_of_lt {x y : Str} (h : slt x y = true) : sle x y := by
  simp only [sle, slt, decide_eq_true_eq, decide_eq_false_iff_not] at h ⊢
  exact List.lt_asymm h
theorem sle_refl (x : Str) : sle x x := by
  simp only [sle, slt, decide_eq_false_iff_not]
  exact List.lt_irrefl _
theorem str_ext {x y : Str} (h : x.cps.toList = y.cps.toList) : x = y := by
  cases x; cases y
  simp only at h
  congr
  exact Array.toList_inj.mp h
theorem sle_antisymm {x y : Str} (h : sle x y) (k : sle y x) : x = y := by
  simp only [sle, slt, decide_eq_false_iff_not, List.not_lt] at h k
  exact str_ext (List.le_antisymm h k)
theorem slt_of {x y : Str} (h : slt x y = false) (k : x ≠ y) : slt y x = true := by
  cases e : slt y x with
  | true => rfl
  | false => exact absurd (sle_antisymm e h) k
theorem sle_lt_trans {x y z : Str} (h : sle x y) (k : slt y z = true) : slt x z = true := by
  cases e : slt x z with
  | true => rfl
  | false =>
    have : sle z y := sle_trans e h
    rw [sle, k] at this
    cases this
theorem slt_ne {x y : Str} (h : slt x y = true) : x ≠ y := fun e => by
  rw [e] at h
  have := sle_refl y
  rw [sle, h] at this
  cases this
noncomputable abbrev at' (xs : List Str) (i : Nat) : Str := xs.getD i Str.empty
theorem atSet {xs : List Str} {p i : Nat} {x : Str} (hp : p < xs.length) : at' (xs.set p x) i = if i = p then x else at' xs i := by
  unfold at'
  rw [List.getD_eq_getElem?_getD, List.getD_eq_getElem?_getD, List.getElem?_set]
  by_cases e : p = i
  · subst e; simp [hp]
  · rw [if_neg e, if_neg (fun q => e q.symm)]
theorem swap_perm {xs : List Str} {i j : Nat} {x : Str} (hi : i < xs.length) (hj : j < xs.length) (hne : i ≠ j) : ((xs.set i (at' xs j)).set j x).Perm (xs.set i x) := by
  rw [List.perm_iff_count]
  intro a
  have e1 : at' xs j = xs[j] := by simp [at', List.getD_eq_getElem?_getD, hj]
  have hj' : j < (xs.set i (at' xs j)).length := by rw [List.length_set]; exact hj
  rw [List.count_set hj', List.count_set hi, List.count_set hi]
  have e2 : (xs.set i (at' xs j))[j] = xs[j] := by rw [List.getElem_set]; rw [if_neg hne]
  rw [e2, e1]
  have h1 : (if (xs[i] == a) = true then 1 else 0) ≤ List.count a xs := by
    split
    · next q => exact List.count_pos_iff.mpr (by rw [beq_iff_eq] at q; rw [← q]; exact List.getElem_mem hi)
    · omega
  omega
/-- no item is below its parent -/
noncomputable def HeapP (xs : List Str) : Prop := ∀ i, 0 < i → i < xs.length → sle (at' xs ((i - 1) / 2)) (at' xs i)
theorem sdown_heap (x : Str) : ∀ (k : Nat) (xs : List Str) (p : Nat), p < xs.length → p ≤ k →
    (∀ i, 0 < i → i < xs.length → i ≠ p → (i - 1) / 2 ≠ p → sle (at' xs ((i - 1) / 2)) (at' xs i)) →
    (∀ i, 0 < i → i < xs.length → (i - 1) / 2 = p → sle x (at' xs i)) →
    (∀ i, 0 < p → 0 < i → i < xs.length → (i - 1) / 2 = p → sle (at' xs ((p - 1) / 2)) (at' xs i)) →
    HeapP (sdown x k xs p) ∧ (sdown x k xs p).Perm (xs.set p x) := by
  have stop : ∀ (xs : List Str) (p : Nat), p < xs.length → (0 < p → sle (at' xs ((p - 1) / 2)) x) →
    (∀ i, 0 < i → i < xs.length → i ≠ p → (i - 1) / 2 ≠ p → sle (at' xs ((i - 1) / 2)) (at' xs i)) →
    (∀ i, 0 < i → i < xs.length → (i - 1) / 2 = p → sle x (at' xs i)) → HeapP (xs.set p x) ∧ (xs.set p x).Perm (xs.set p x) := by
    intro xs p hp h0 hA hB
    refine ⟨fun i h1 h2 => ?_, List.Perm.refl _⟩
    rw [List.length_set] at h2
    rw [atSet hp, atSet hp]
    by_cases e : i = p
    · rw [if_pos e, if_neg (by omega)]
      subst e
      exact h0 h1
    · rw [if_neg e]
      by_cases e' : (i - 1) / 2 = p
      · rw [if_pos e']; exact hB i h1 h2 e'
      · rw [if_neg e']; exact hA i h1 h2 e e'
  intro k
  induction k with
  | zero =>
    intro xs p hp hk hA hB hC
    exact stop xs p hp (fun h => by omega) hA hB
  | succ k ih =>
    intro xs p hp hk hA hB hC
    unfold sdown
    split
    · next h =>
      obtain ⟨h0, hlt⟩ := h
      have hq : (p - 1) / 2 < xs.length := by omega
      have r := ih (xs.set p (at' xs ((p - 1) / 2))) ((p - 1) / 2) (by rw [List.length_set]; exact hq) (by omega) ?_ ?_ ?_
      · exact ⟨r.1, r.2.trans (swap_perm hp hq (by omega))⟩
      · intro i h1 h2 h3 h4
        rw [List.length_set] at h2
        rw [atSet hp, atSet hp]
        have e : i ≠ p := fun q => h4 (by rw [q])
        rw [if_neg e]
        by_cases e' : (i - 1) / 2 = p
        · rw [if_pos e']; exact hC i h0 h1 h2 e'
        · rw [if_neg e']; exact hA i h1 h2 e e'
      · intro i h1 h2 h3
        rw [List.length_set] at h2
        rw [atSet hp]
        by_cases e : i = p
        · rw [if_pos e]; exact sle_of_lt hlt
        · rw [if_neg e]
          have := hA i h1 h2 e (by omega)
          rw [h3] at this
          exact sle_trans (sle_of_lt hlt) this
      · intro i h1 h2 h3 h4
        rw [List.length_set] at h3
        rw [atSet hp, atSet hp]
        rw [if_neg (show ((p - 1) / 2 - 1) / 2 ≠ p by omega)]
        have g := hA ((p - 1) / 2) h1 hq (by omega) (by omega)
        by_cases e : i = p
        · rw [if_pos e]; exact g
        · rw [if_neg e]
          have := hA i h2 h3 e (by omega)
          rw [h4] at this
          exact sle_trans g this
    · next h =>
      refine stop xs p hp (fun h0 => ?_) hA hB
      cases e : slt x (at' xs ((p - 1) / 2)) with
      | true => exact absurd ⟨h0, e⟩ h
      | false => exact e
theorem upc_le {xs : List Str} {p i : Nat} (h : 2 * p + 1 < xs.length) (h0 : 0 < i) (h1 : i < xs.length) (h2 : (i - 1) / 2 = p) : sle (at' xs (upc xs p)) (at' xs i) := by
  have hi : i = 2 * p + 1 ∨ i = 2 * p + 2 := by omega
  unfold upc
  split
  · next q =>
    rcases hi with rfl | rfl
    · exact q.2
    · exact sle_refl _
  · next q =>
    rcases hi with rfl | rfl
    · exact sle_refl _
    · cases e : slt (at' xs (2 * p + 1)) (at' xs (2 * p + 2)) with
      | true => exact sle_of_lt e
      | false => exact absurd ⟨h1, e⟩ q
theorem upc_at {xs : List Str} {p : Nat} (h : 2 * p + 1 < xs.length) : upc xs p < xs.length ∧ (upc xs p - 1) / 2 = p ∧ p < upc xs p := by
  unfold upc
  split <;> omega
theorem sup_heap (z : Str) : ∀ (k : Nat) (xs : List Str) (p : Nat), p < xs.length → xs.length - p ≤ k →
    (∀ i, 0 < i → i < xs.length → i ≠ p → (i - 1) / 2 ≠ p → sle (at' xs ((i - 1) / 2)) (at' xs i)) →
    (∀ i, 0 < p → 0 < i → i < xs.length → (i - 1) / 2 = p → sle (at' xs ((p - 1) / 2)) (at' xs i)) →
    (sup k xs p).2 < xs.length ∧ xs.length ≤ 2 * (sup k xs p).2 + 1 ∧
    (∀ i, 0 < i → i < xs.length → i ≠ (sup k xs p).2 → (i - 1) / 2 ≠ (sup k xs p).2 → sle (at' (sup k xs p).1 ((i - 1) / 2)) (at' (sup k xs p).1 i)) ∧
    ((sup k xs p).1.set (sup k xs p).2 z).Perm (xs.set p z) := by
  intro k
  induction k with
  | zero => intro xs p hp hk; omega
  | succ k ih =>
    intro xs p hp hk hA hC
    unfold sup
    split
    · next h =>
      obtain ⟨c1, c2, c3⟩ := upc_at h
      generalize hc : upc xs p = c at *
      have hle := fun i (h0 : 0 < i) (h1 : i < xs.length) (h2 : (i - 1) / 2 = p) => upc_le (xs := xs) h h0 h1 h2
      rw [hc] at hle
      have r := ih (xs.set p (at' xs c)) c (by rw [List.length_set]; exact c1) (by rw [List.length_set]; omega) ?_ ?_
      · rw [List.length_set] at r
        exact ⟨r.1, r.2.1, r.2.2.1, r.2.2.2.trans (swap_perm hp c1 (by omega))⟩
      · intro i h1 h2 h3 h4
        rw [List.length_set] at h2
        rw [atSet hp, atSet hp]
        by_cases e : i = p
        · rw [if_pos e, if_neg (by omega)]
          rw [e] at h1 ⊢
          exact hC c h1 (by omega) c1 c2
        · rw [if_neg e]
          by_cases e' : (i - 1) / 2 = p
          · rw [if_pos e']; exact hle i h1 h2 e'
          · rw [if_neg e']; exact hA i h1 h2 e e'
      · intro i h1 h2 h3 h4
        rw [List.length_set] at h3
        rw [atSet hp, atSet hp, if_pos c2, if_neg (by omega)]
        have := hA i h2 h3 (by omega) (by omega)
        rw [h4] at this
        exact this
    · next h => exact ⟨hp, by omega, hA, List.Perm.refl _⟩
theorem heap_drop {xs : List Str} (h : HeapP xs) : HeapP xs.dropLast := by
  intro i h1 h2
  rw [List.length_dropLast] at h2
  have e : ∀ j, j < xs.length - 1 → at' xs.dropLast j = at' xs j := fun j hj => by
    unfold at'
    rw [List.getD_eq_getElem?_getD, List.getD_eq_getElem?_getD, List.getElem?_dropLast, if_pos hj]
  rw [e _ (by omega), e _ h2]
  exact h i h1 (by omega)
theorem heap_min {xs : List Str} (h : HeapP xs) : ∀ i, i < xs.length → sle (at' xs 0) (at' xs i) := by
  intro i
  induction i using Nat.strongRecOn with
  | ind i ih =>
    intro hi
    rcases Nat.eq_zero_or_pos i with e | e
    · rw [e]; exact sle_refl _
    · exact sle_trans (ih ((i - 1) / 2) (by omega) (by omega)) (h i e hi)
theorem hpop_heap {xs : List Str} (h : HeapP xs) (h0 : 0 < xs.length) : HeapP (hpop xs).2 ∧ ((hpop xs).1 :: (hpop xs).2).Perm xs ∧ (hpop xs).1 = at' xs 0 := by
  obtain ⟨ys, z, rfl⟩ : ∃ ys z, xs = ys ++ [z] := ⟨xs.dropLast, xs.getLast (by intro q; rw [q] at h0; exact absurd h0 (Nat.lt_irrefl _)), (List.dropLast_concat_getLast _).symm⟩
  have hy := heap_drop h
  unfold hpop
  rw [List.dropLast_concat] at hy ⊢
  have ez : (ys ++ [z]).getD ((ys ++ [z]).length - 1) Str.empty = z := by simp [List.getD_eq_getElem?_getD]
  rw [ez]
  dsimp only
  cases ys with
  | nil => exact ⟨fun i h1 h2 => absurd h2 (Nat.not_lt_zero _), List.Perm.refl _, rfl⟩
  | cons y t =>
    rw [if_pos (by simp)]
    have r := sup_heap z ((y :: t).set 0 z).length ((y :: t).set 0 z) 0 (by simp) (Nat.sub_le _ _) (fun i h1 h2 h3 h4 => by
      rw [List.length_set] at h2
      rw [atSet (by simp), atSet (by simp), if_neg h4, if_neg h3]
      exact hy i h1 h2) (fun i q => absurd q (Nat.lt_irrefl _))
    generalize hu : sup ((y :: t).set 0 z).length ((y :: t).set 0 z) 0 = u at *
    obtain ⟨r1, r2, r3, r4⟩ := r
    have lu : u.1.length = ((y :: t).set 0 z).length := by rw [← hu, sup_len]
    have hp : u.2 < u.1.length := by rw [lu]; exact r1
    have r := sdown_heap z ((y :: t).set 0 z).length (u.1.set u.2 z) u.2 (by rw [List.length_set]; exact hp) (by omega) (fun i h1 h2 h3 h4 => by
      rw [List.length_set, lu] at h2
      rw [atSet hp, atSet hp, if_neg h4, if_neg h3]
      exact r3 i h1 h2 h3 h4) (fun i h1 h2 h3 => by rw [List.length_set] at h2; omega) (fun i _ h1 h2 h3 => by rw [List.length_set] at h2; omega)
    refine ⟨r.1, ?_, rfl⟩
    have e : (u.1.set u.2 z).set u.2 z = u.1.set u.2 z := by rw [List.set_set]
    rw [e] at r
    have r5 := r.2.trans r4
    rw [List.set_set] at r5
    refine (List.Perm.cons _ r5).trans ?_
    show (y :: z :: t).Perm (y :: (t ++ [z]))
    exact List.Perm.cons _ (List.perm_append_comm (l₁ := [z]) (l₂ := t))
theorem push_heap (xs : List Str) : HeapP (pushAll xs) ∧ (pushAll xs).Perm xs := by
  suffices h : ∀ n, HeapP (pushAll (xs.take n)) ∧ (pushAll (xs.take n)).Perm (xs.take n) by
    have := h xs.length
    rwa [List.take_length] at this
  intro n
  induction n with
  | zero => exact ⟨fun i h1 h2 => absurd h2 (Nat.not_lt_zero _), List.Perm.refl _⟩
  | succ n ih =>
    rcases Nat.lt_or_ge n xs.length with hn | hn
    · rw [pushAll_take hn]
      have ln : (pushAll (xs.take n)).length = n := by rw [pushAll_len, List.length_take]; omega
      have e1 : ∀ j, j < n → at' (pushAll (xs.take n) ++ [at' xs n]) j = at' (pushAll (xs.take n)) j := fun j hj => by
        unfold at'
        simp only [List.getD_eq_getElem?_getD]
        rw [List.getElem?_append_left (by omega)]
      have r := sdown_heap (at' xs n) (n + 1) (pushAll (xs.take n) ++ [at' xs n]) n (by rw [List.length_append, ln]; simp) (by omega) (fun i h1 h2 h3 h4 => by
        rw [List.length_append, ln, List.length_singleton] at h2
        rw [e1 _ (by omega), e1 _ (by omega)]
        exact ih.1 i h1 (by omega)) (fun i h1 h2 h3 => by rw [List.length_append, ln, List.length_singleton] at h2; omega) (fun i _ h1 h2 h3 => by rw [List.length_append, ln, List.length_singleton] at h2; omega)
      refine ⟨r.1, r.2.trans ?_⟩
      have e2 : (pushAll (xs.take n) ++ [at' xs n]).set n (at' xs n) = pushAll (xs.take n) ++ [at' xs n] := by
        rw [List.set_append_right _ _ (by omega), ln, Nat.sub_self]; rfl
      have e3 : xs.take (n + 1) = xs.take n ++ [at' xs n] := by
        rw [List.take_succ_eq_append_getElem hn]
        simp [at', List.getD_eq_getElem?_getD, hn]
      rw [e2, e3]
      exact List.Perm.append_right _ ih.2
    · rw [List.take_of_length_le (by omega)]
      rw [List.take_of_length_le hn] at ih
      exact ih
theorem popN_heap {h : List Str} (hh : HeapP h) : ∀ i, i ≤ h.length → HeapP (restN i h) ∧ (popN i h ++ restN i h).Perm h ∧ (popN i h).Pairwise sle ∧ ∀ x ∈ popN i h, ∀ y ∈ restN i h, sle x y := by
  intro i
  induction i with
  | zero => intro _; exact ⟨hh, List.Perm.refl _, .nil, fun x hx => nomatch hx⟩
  | succ i ih =>
    intro hi
    obtain ⟨h1, h2, h3, h4⟩ := ih (by omega)
    have hl := restN_len h i
    obtain ⟨p1, p2, p3⟩ := hpop_heap h1 (by omega)
    have hm : (hpop (restN i h)).1 ∈ restN i h := p2.mem_iff.mp (.head _)
    have hmin : ∀ y ∈ restN i h, sle (hpop (restN i h)).1 y := fun y hy => by
      obtain ⟨j, hj, rfl⟩ := List.getElem_of_mem hy
      have := heap_min h1 j hj
      rw [p3]
      simpa [at', List.getD_eq_getElem?_getD, hj] using this
    refine ⟨p1, ?_, ?_, ?_⟩
    · show ((popN i h ++ [(hpop (restN i h)).1]) ++ (hpop (restN i h)).2).Perm h
      rw [List.append_assoc]
      exact (List.Perm.append_left _ p2).trans h2
    · show (popN i h ++ [(hpop (restN i h)).1]).Pairwise sle
      rw [List.pairwise_append]
      exact ⟨h3, List.pairwise_singleton _ _, fun a ha b hb => by rw [List.mem_singleton.mp hb]; exact h4 a ha _ hm⟩
    · intro x hx y hy
      have hy' : y ∈ restN i h := p2.mem_iff.mp (.tail _ hy)
      rcases List.mem_append.mp hx with q | q
      · exact h4 x q y hy'
      · rw [List.mem_singleton.mp q]; exact hmin y hy'
theorem popped_sorted (xs : List Str) : (popN xs.length (pushAll xs)).Perm xs ∧ (popN xs.length (pushAll xs)).Pairwise sle := by
  obtain ⟨h1, h2⟩ := push_heap xs
  have hl := pushAll_len xs
  obtain ⟨_, r2, r3, _⟩ := popN_heap h1 xs.length (by omega)
  have e : restN xs.length (pushAll xs) = [] := by
    apply List.eq_nil_of_length_eq_zero
    rw [restN_len, hl, Nat.sub_self]
  rw [e, List.append_nil] at r2
  exact ⟨r2.trans h2, r3⟩
theorem sorted_unique : ∀ {a b : List Str}, a.Perm b → a.Pairwise sle → b.Pairwise sle → a = b
  | [], b, p, _, _ => (List.nil_perm.mp p).symm
  | x :: a, [], p, _, _ => absurd p.length_eq (by simp)
  | x :: a, y :: b, p, ha, hb => by
    have ha' := List.pairwise_cons.mp ha
    have hb' := List.pairwise_cons.mp hb
    have e : x = y := by
      have hx : x ∈ y :: b := p.mem_iff.mp (.head _)
      have hy : y ∈ x :: a := p.mem_iff.mpr (.head _)
      rcases List.mem_cons.mp hx with q | q
      · exact q
      rcases List.mem_cons.mp hy with r | r
      · exact r.symm
      exact sle_antisymm (ha'.1 _ r) (hb'.1 _ q)
    subst e
    rw [sorted_unique (List.Perm.cons_inv p) ha'.2 hb'.2]
theorem rising_pair : ∀ (p : Str) (l : List Str), risingS p l = true → (p :: l).Pairwise sle
  | p, [], _ => List.pairwise_singleton _ _
  | p, x :: r, h => by
    have h' : (!PySem.Spec.ltCps x.cps.toList p.cps.toList && risingS x r) = true := h
    rw [Bool.and_eq_true, Bool.not_eq_true', ltCps_eq] at h'
    have ih := rising_pair x r h'.2
    have hx : sle p x := h'.1
    refine List.pairwise_cons.mpr ⟨fun y hy => ?_, ih⟩
    rcases List.mem_cons.mp hy with q | q
    · rw [q]; exact hx
    · exact sle_trans hx ((List.pairwise_cons.mp ih).1 y q)
theorem sortedS_pair : ∀ {l : List Str}, sortedS l = true → l.Pairwise sle
  | [], _ => .nil
  | x :: r, h => rising_pair x r h
/-- the popped heap is the sorted row -/
theorem popped_eq {xs ss : List Str} (hp : ss.Perm xs) (hs : sortedS ss = true) : popN xs.length (pushAll xs) = ss :=
  sorted_unique ((popped_sorted xs).1.trans hp.symm) (popped_sorted xs).2 (sortedS_pair hs)
end
section
/-- the list of the unlike pairs, as the law builds it -/
noncomputable def unlP : List Str → List Str → List Int
  | x :: xs, y :: ys => (if x = y then [] else [if slt y x = true then 1 else -1]) ++ unlP xs ys
  | _, _ => []
noncomputable def unl (xs ys : List Str) : List Int := unlP xs ys ++ [b2i (decide (ys.length < xs.length)) - b2i (decide (xs.length < ys.length))]
theorem unl_head : ∀ (xs ys : List Str), (unl xs ys).head? = some (b2i (ltL ys xs) - b2i (ltL xs ys))
  | [], [] => rfl
  | [], y :: ys => by
    unfold unl unlP ltL
    simp [b2i]
  | x :: xs, [] => by
    unfold unl unlP ltL
    simp [b2i]
  | x :: xs, y :: ys => by
    have ih := unl_head xs ys
    unfold unl at ih ⊢
    unfold unlP ltL
    by_cases e : x = y
    · subst e
      rw [if_pos rfl, if_pos rfl, if_pos rfl, List.nil_append]
      simpa using ih
    · rw [if_neg e, if_neg (Ne.symm e), if_neg e]
      cases h : slt y x with
      | true =>
        rw [sle_of_lt h]
        rfl
      | false =>
        rw [slt_of h (Ne.symm e)]
        rfl
theorem ltL_self : ∀ xs, ltL xs xs = false
  | [] => rfl
  | x :: xs => by
    unfold ltL
    rw [if_pos rfl]
    exact ltL_self xs
theorem ltL_snoc (z : Str) : ∀ xs, ltL xs (xs ++ [z]) = true ∧ ltL (xs ++ [z]) xs = false
  | [] => ⟨rfl, rfl⟩
  | x :: xs => by
    have h := ltL_snoc z xs
    constructor
    · show (if x = x then ltL xs (xs ++ [z]) else _) = true
      rw [if_pos rfl]; exact h.1
    · show (if x = x then ltL (xs ++ [z]) xs else _) = false
      rw [if_pos rfl]; exact h.2
theorem ltL_dropLast {xs : List Str} (h : 0 < xs.length) : ltL xs.dropLast xs = true ∧ ltL xs xs.dropLast = false := by
  have hne : xs ≠ [] := fun q => by rw [q] at h; exact absurd h (Nat.lt_irrefl _)
  have := ltL_snoc (xs.getLast hne) xs.dropLast
  rwa [List.dropLast_concat_getLast] at this
theorem unlP_take : ∀ (n : Nat) (xs ys : List Str), min xs.length ys.length ≤ n → unlP (xs.take n) (ys.take n) = unlP xs ys
  | n, [], ys, _ => by rw [List.take_nil]; rfl
  | n, x :: xs, [], _ => by
    rw [List.take_nil]
    cases n <;> rfl
  | 0, x :: xs, y :: ys, h => by simp at h
  | n + 1, x :: xs, y :: ys, h => by
    have ih := unlP_take n xs ys (by simp only [List.length_cons] at h; omega)
    show unlP (x :: xs.take n) (y :: ys.take n) = _
    unfold unlP
    rw [ih]
theorem unlP_step : ∀ (i : Nat) (xs ys : List Str) (x y : Str), xs[i]? = some x → ys[i]? = some y → unlP (xs.take (i + 1)) (ys.take (i + 1)) = unlP (xs.take i) (ys.take i) ++ (if x = y then [] else [if slt y x = true then 1 else -1])
  | _, [], _, _, _, h, _ => by simp at h
  | _, _ :: _, [], _, _, _, h => by simp at h
  | 0, x' :: xs, y' :: ys, x, y, hx, hy => by
    have e1 : x' = x := by simpa using hx
    have e2 : y' = y := by simpa using hy
    subst e1 e2
    simp [unlP]
  | i + 1, x' :: xs, y' :: ys, x, y, hx, hy => by
    have ih := unlP_step i xs ys x y (by simpa using hx) (by simpa using hy)
    show unlP (x' :: xs.take (i + 1)) (y' :: ys.take (i + 1)) = unlP (x' :: xs.take i) (y' :: ys.take i) ++ _
    unfold unlP
    rw [ih, List.append_assoc]
theorem unlP_len : ∀ (xs ys : List Str), (unlP xs ys).length ≤ xs.length
  | [], ys => Nat.le_refl _
  | x :: xs, [] => Nat.zero_le _
  | x :: xs, y :: ys => by
    have := unlP_len xs ys
    unfold unlP
    rw [List.length_append, List.length_cons]
    split
    · rw [List.length_nil]; omega
    · rw [List.length_singleton]; omega
end
section
theorem wl_7 : True := by
  k_with "compareOp Gt ref ref" => ((k_here; (with_reducible show wpAny _ _ (compareOp CmpOp.Gt (Value.ref _) (Value.ref _)) _ _ _); k_dflt (refine' gt_lists ?Nq17 ?aq17 ?bq17 ?cq17 ?dq17 ?eq17 ?_; (case Nq17 => k_asm); (case aq17 => first | (with_reducible assumption) | k_mem); (case bq17 => first | (with_reducible assumption) | k_mem); (case cq17 => with_reducible assumption); (case dq17 => with_reducible assumption); (case eq17 => ke_room); k_whole)))
  k_with "compareOp Lt ref ref" => ((k_here; (with_reducible show wpAny _ _ (compareOp CmpOp.Lt (Value.ref _) (Value.ref _)) _ _ _); k_dflt (refine' lt_lists ?Nq18 ?aq18 ?bq18 ?cq18 ?dq18 ?eq18 ?_; (case Nq18 => k_asm); (case aq18 => first | (with_reducible assumption) | k_mem); (case bq18 => first | (with_reducible assumption) | k_mem); (case cq18 => with_reducible assumption); (case dq18 => with_reducible assumption); (case eq18 => ke_room); k_whole)))
  k_with "subscriptTail Name BinOp ref int" => ((k_here; (try dsimp only); (with_reducible show wpAny _ _ (subscriptTail _ _ (Value.ref _) (Value.int _ _)) _ _ _); k_dflt (refine' sa_sub ?k1q19 ?k2q19 ?k3q19 ?k4q19 ?k5q19 ?k6q19 ?_ ?k7q19; (case k1q19 => k_asm); (case k2q19 => with_reducible (first | assumption | (refine List.mem_cons_of_mem _ ?_; first | assumption | (refine List.mem_cons_of_mem _ ?_; first | assumption | (refine List.mem_cons_of_mem _ ?_; first | assumption | (refine List.mem_cons_of_mem _ ?_; first | assumption | (refine List.mem_cons_of_mem _ ?_; first | assumption | (refine List.mem_cons_of_mem _ ?_; first | assumption | (refine List.mem_cons_of_mem _ ?_; first | assumption | (refine List.mem_cons_of_mem _ ?_; first | assumption | (refine List.mem_cons_of_mem _ ?_; assumption))))))))))); (case k3q19 => with_reducible assumption); (case k4q19 => omega); (case k5q19 => omega); (case k6q19 => omega); (case k7q19 => with_unfolding_all rfl); k_whole); intro _))
  k_with "subscriptTail Name Name ref int" => ((k_here; (try dsimp only); (with_reducible show wpAny _ _ (subscriptTail _ _ (Value.ref _) (Value.int _ _)) _ _ _); k_dflt (refine' sa_sub ?k1q20 ?k2q20 ?k3q20 ?k4q20 ?k5q20 ?k6q20 ?_ ?k7q20; (case k1q20 => k_asm); (case k2q20 => with_reducible (first | assumption | (refine List.mem_cons_of_mem _ ?_; first | assumption | (refine List.mem_cons_of_mem _ ?_; first | assumption | (refine List.mem_cons_of_mem _ ?_; first | assumption | (refine List.mem_cons_of_mem _ ?_; first | assumption | (refine List.mem_cons_of_mem _ ?_; first | assumption | (refine List.mem_cons_of_mem _ ?_; first | assumption | (refine List.mem_cons_of_mem _ ?_; first | assumption | (refine List.mem_cons_of_mem _ ?_; first | assumption | (refine List.mem_cons_of_mem _ ?_; assumption))))))))))); (case k3q20 => with_reducible assumption); (case k4q20 => omega); (case k5q20 => omega); (case k6q20 => omega); (case k7q20 => with_unfolding_all rfl); k_whole); intro _))
  k_with "own subscriptTail Name Slice ref ref" => ((k_here; (with_reducible show wpAny _ _ (subscriptTail _ (PySem.Expr.Slice _ _ none _) (Value.ref _) (Value.ref _)) _ _ _); k_dflt (refine' sa_slice ?Fq21 ?Nq21 ?lq21 ?iq21 ?zq21 ?pq21 ?qq21 ?_ ?sq21 ?tq21; (case Fq21 => k_asm); (case Nq21 => k_asm); (case lq21 => with_reducible (first | assumption | (refine List.mem_cons_of_mem _ ?_; first | assumption | (refine List.mem_cons_of_mem _ ?_; first | assumption | (refine List.mem_cons_of_mem _ ?_; first | assumption | (refine List.mem_cons_of_mem _ ?_; first | assumption | (refine List.mem_cons_of_mem _ ?_; first | assumption | (refine List.mem_cons_of_mem _ ?_; first | assumption | (refine List.mem_cons_of_mem _ ?_; first | assumption | (refine List.mem_cons_of_mem _ ?_; first | assumption | (refine List.mem_cons_of_mem _ ?_; assumption))))))))))); (case iq21 => with_reducible assumption); (case zq21 => omega); (case pq21 => kmk_part); (case qq21 => kmk_part); (case sq21 => with_unfolding_all rfl); (case tq21 => kmk_pure); k_whole); intro _ _ _ _ _ l1w8 _ _; (try k_lt l1w8); (try k_sweep)))
  k_with "call builtin:list.extend cons nil" => ((k_here; (with_reducible show wpAny _ _ (call (Value.builtin _) [Value.ref _, Value.ref _]) _ _ _); k_dflt (refine' sa_extend0 ?Fq22 ?Nq22 ?bq22 ?uq22 ?eq22 ?Uq22 ?iq22 ?zq22 ?_; (case Fq22 => k_asm); (case Nq22 => k_asm); (case bq22 => k_mem); (case uq22 => with_reducible assumption); (case eq22 => omega); (case Uq22 => k_upd); (case iq22 => with_reducible assumption); (case zq22 => omega); k_whole); intro _ _ N'w8; (try dsimp only at N'w8); (try k_sweep)))
  trivial
theorem three_ok (w : World) (la lb : Addr) (vs us : List Value) (xs ys : List Str) (n k : Nat) (rest : List (Addr × Obj)) (h1 : StrsAre vs xs) (h2 : StrsAre us ys) (m1 : (la, listOf vs.toArray n) ∈ rest) (m2 : (lb, listOf us.toArray k) ∈ rest) :
    CallOk w 134 [.ref la, .ref lb] rest 6 300 (fun r led => ∃ t, r = .int (b2i (ltL ys xs) - b2i (ltL xs ys)) t ∧ led = rest) := by
  unfold CallOk
  k_fill
  intro loose mean mg mb p dp un gd cn cs a ccd cl outer A₀ base h₀ L m sh sg sd st so Q E B F X N T hk hd1 hu hret
  refine wpAny_call ?_
  k_dflt (refine' code_defL (bs := [(Str.ofString "y", .ref lb), (Str.ofString "x", .ref la)]) ?k1 ?k2 ?k3 ?k4 ?k5 ?kA ?kF ?kK ?k6 ?k7 ?k8 ?k9 ?kB ?kL ?_ ?c2 ?c3 ?c4 ?c5; (case kA => exact rfl); (case kF => exact rfl); (case kK => assumption); (case k1 => k_asm); (case k2 => k_asm); (case k3 => k_asm); (case k4 => k_asm); (case k5 => k_asm); (case k6 => k_is); (case k7 => k_is); (case k8 => ktr_room); (case k9 => exact BindsTo.of_eq rfl); (case c5 => decide); (case kB => exact locs rfl); (case kL => exact rfl); (case c2 => exact rfl); (case c3 => exact rfl); (case c4 => exact rfl); k_whole; intro _ _ _ _ _ _ _ BE _ _; (try dsimp only); (try k_lift BE); (try k_fold))
  k_extra "unf"
  (rename Fr _ _ _ _ => lF); (rename News _ _ _ _ => lN)
  exact hret _ _ _ _ ⟨_, rfl, rfl⟩ lF lN
end
section
theorem sa_takeL {vs : List Value} {xs : List Str} (h : StrsAre vs xs) : ∀ n : Nat, StrsAre (vs.take n) (xs.take n) := by
  induction h with
  | nil => intro n; simpa using StrsAre.nil
  | cons y t h ih =>
    intro n
    cases n with
    | zero => exact .nil
    | succ n => exact .cons y t (ih n)
theorem sa_dropL {vs : List Value} {xs : List Str} (h : StrsAre vs xs) : ∀ n : Nat, StrsAre (vs.drop n) (xs.drop n) := by
  induction h with
  | nil => intro n; simpa using StrsAre.nil
  | cons y t h ih =>
    intro n
    cases n with
    | zero => exact .cons y t h
    | succ n => exact ih n
/-- what a slice of a list of texts holds -/
noncomputable def cutS (xs : List Str) (lo hi : Option Int) : List Str := (xs.drop (kms_lo lo xs.length)).take (kms_hi hi xs.length - kms_lo lo xs.length)
theorem cutS_len (xs : List Str) (lo hi : Option Int) : (cutS xs lo hi).length ≤ xs.length := by
  unfold cutS
  rw [List.length_take, List.length_drop]
  omega
theorem sa_cut {vs : List Value} {xs : List Str} (h : StrsAre vs xs) (lo hi : Option Int) : StrsAre (slicePick vs.toArray lo hi none).toList (cutS xs lo hi) := by
  rw [kmk_pick_nat _ (kms_bounds lo hi vs.toArray.size)]
  show StrsAre ((vs.drop _).take _) _
  rw [List.size_toArray, h.length]
  exact sa_takeL (sa_dropL h _) _
theorem cut_from {xs : List Str} {i : Int} (h0 : 0 ≤ i) (h : i ≤ xs.length) : cutS xs (some i) none = xs.drop i.toNat := by
  unfold cutS kms_lo kms_hi
  simp only [if_neg (show ¬ i < 0 by omega)]
  rw [Nat.min_eq_left (by omega), List.take_of_length_le (by rw [List.length_drop]; omega)]
theorem cut_upto {xs : List Str} {i : Int} (h0 : 0 ≤ i) (h : i ≤ xs.length) : cutS xs none (some i) = xs.take i.toNat := by
  unfold cutS kms_lo kms_hi
  simp only [if_neg (show ¬ i < 0 by omega)]
  rw [Nat.min_eq_left (by omega), List.drop_zero, Nat.sub_zero]
theorem cut_all {xs : List Str} : cutS xs none none = xs := by
  unfold cutS kms_lo kms_hi
  simp
theorem cut_last {xs : List Str} : cutS xs none (some (-1)) = xs.dropLast := by
  unfold cutS kms_lo kms_hi
  simp only [if_pos (show (-1 : Int) < 0 by decide)]
  rw [List.drop_zero, Nat.sub_zero, List.dropLast_eq_take]
  rfl
section
variable {prog : Program} {w : World} {A : Around} {E : Value → Shared → Prop} {s : Shared} {h₀ : Heap} {L l : Addr} {m : Str → Option Value} {news news' : List (Addr × Obj)} {value slice : PySem.Expr} {vs : List Value} {xs : List Str} {nn : Nat} {vl vu : Value} {lo hi : Option Int} {Q : Value → Shared → Prop}
theorem sa_slice (F : Fr h₀ L s.heap m) (N : News h₀ L s.heap news) (hm : (l, listOf vs.toArray nn) ∈ news) (hi' : StrsAre vs xs) (hz : xs.length ≤ 16777216) (pl : IsPart vl lo) (pu : IsPart vu hi)
    (h : ∀ D ws h', Fr h₀ L h' m → News h₀ L h' ((D, listOf (List.toArray ws) 0) :: news) → (∀ p ∈ news, p.1 < D) → StrsAre ws (cutS xs lo hi) → (cutS xs lo hi).length ≤ xs.length → Q (.ref D) { s with heap := h' })
    (hs : subscripted slice false (.ref l) (.ref s.heap.objs.size) = operate [.ref s.heap.objs.size, .ref l] (getItem (.ref l) (.ref s.heap.objs.size))) (ht : ∀ r, letTemporaryGo value (.ref l) r = pure ()) :
    wpAny (model prog w) A (subscriptTail value slice (.ref l) (.ref s.heap.objs.size)) Q E { s with heap := s.heap.push { cls := .type "slice", data := .fields #[vl, vu, .none] } } := by
  refine kmk_slice F N (PySem.IsL.isList (n := nn) (N _ hm).1) pl pu (fun D h' F' N' l1 => h D (slicePick vs.toArray lo hi none).toList h' F' ?_ l1 (sa_cut hi' lo hi) (cutS_len _ _ _)) hs ht (by rw [List.size_toArray, hi'.length]; unfold sizeLine; omega)
  rw [Array.toArray_toList]
  exact N'
theorem sa_extend0 {D b : Addr} {us : List Value} {ys : List Str} {n n2 : Nat} (F : Fr h₀ L s.heap m) (N : News h₀ L s.heap news) (hb : (b, listOf us.toArray n2) ∈ news) (hu : StrsAre us ys) (h0 : ys.length = 0) (U : Upd D (listOf vs.toArray n) (listOf vs.toArray n) news news') (hi' : StrsAre vs xs) (hz : xs.length ≤ 100000)
    (h : ∀ h', Fr h₀ L h' m → News h₀ L h' news' → Q .none { s with heap := h' }) : wpAny (model prog w) A (call (.builtin "list.extend") [.ref D, .ref b]) Q E s := by
  have e : us = [] := List.eq_nil_of_length_eq_zero (hu.length.trans h0)
  have hl := hi'.length
  subst e
  refine kxn_extend F N hb rfl U ?_ (by show vs.length ≤ _; unfold sizeLine; omega) (by rw [List.size_toArray]; show vs.length + 0 ≤ _; unfold sizeLine; omega) h
  rw [Bool.and_eq_true]
  rintro ⟨_, h9⟩
  simp only [Builtin.List.listTooLong, List.size_toArray, decide_eq_true_eq, List.length_nil] at h9
  unfold sizeLine at h9
  omega
end
end
section
open PySem.MeetsSeq
/-- the list without the first x -/
noncomputable def delS (x : Str) : List Str → List Str
  | [] => []
  | y :: ys => if (y == x) = true then ys else y :: delS x ys
theorem delS_spec {x : Str} {vs : List Value} {xs : List Str} (r : StrsAre vs xs) : xs.any (· == x) = true → ∃ (j : Nat) (hj : j < vs.length), isStrOf x vs[j] = true ∧ (∀ i (hi : i < vs.length), i < j → isStrOf x vs[i] = false) ∧ StrsAre (vs.eraseIdx j) (delS x xs) ∧ (delS x xs).length + 1 = xs.length := by
  induction r with
  | nil => intro h; simp at h
  | cons y t r ih =>
    intro h
    cases hy : y == x with
    | true =>
      refine ⟨0, Nat.zero_lt_succ _, hy, fun i _ hlt => absurd hlt (Nat.not_lt_zero _), ?_, ?_⟩
      · simpa [delS, hy] using r
      · simp [delS, hy]
    | false =>
      rw [List.any_cons, hy, Bool.false_or] at h
      obtain ⟨j, hj, a, b, c, d⟩ := ih h
      refine ⟨j + 1, Nat.succ_lt_succ hj, a, fun i hi hlt => ?_, ?_, ?_⟩
      · cases i with
        | zero => exact hy
        | succ i => exact b i (Nat.lt_of_succ_lt_succ hi) (Nat.lt_of_succ_lt_succ hlt)
      · simpa [delS, hy] using StrsAre.cons y t c
      · simp only [delS, hy, Bool.false_eq_true, if_false, List.length_cons]
        omega
theorem countP_isStrOf (k : Str) {vs : List Value} {ys : List Str} (h : StrsAre vs ys) : vs.countP (isStrOf k) = ys.countP (· == k) := by
  induction h with
  | nil => rfl
  | cons n t h ih => simp only [List.countP_cons, isStrOf, ih]; rfl
section
variable {prog : Program} {w : World} {A : Around} {E : Value → Shared → Prop} {s : Shared} {h₀ : Heap} {L D : Addr} {m : Str → Option Value} {news news' : List (Addr × Obj)} {vs : List Value} {xs : List Str} {n : Nat} {x : Str} {t : Tok}
theorem sa_count {Q : Value → Shared → Prop} (N : News h₀ L s.heap news) (hm : (D, listOf vs.toArray n) ∈ news) (hi : StrsAre vs xs) (h : Q (.int (xs.countP (· == x) : Nat) s.toks) { s with toks := s.toks + 1 }) :
    wpAny (model prog w) A (call (.builtin "list.count") [.ref D, .str x t]) Q E s := by
  refine call_meets PySem.F.slot_list_count ⟨_, (N _ hm).1, rfl⟩ PySem.F.entry_list_count (PySem.F.args_list_count_2 _ _) (list_count D vs.toArray n (.str x t) (isStrOf x) (fun y hy => eq_isStrOf x t hi y (by simpa using hy))) ⟨(N _ hm).1, ?_⟩
  rw [show vs.toArray.toList = vs from rfl, countP_isStrOf x hi]
  exact h
theorem sa_remove {Q : Value → Shared → Prop} (F : Fr h₀ L s.heap m) (N : News h₀ L s.heap ((D, listOf vs.toArray n) :: news)) (hr : ∀ q ∈ news, q.1 ≠ D) (hi : StrsAre vs xs) (hl : xs.length ≤ 16777216) (hA : A.handled = none)
    (h1 : xs.any (· == x) = true → ∀ ws h', Fr h₀ L h' m → News h₀ L h' ((D, listOf (List.toArray ws) (n + 1)) :: news) → StrsAre ws (delS x xs) → (delS x xs).length + 1 = xs.length → Q .none { s with heap := h' })
    (h2 : xs.any (· == x) = false → ∀ h' tk e, Heap.NewExc s.heap h' e "ValueError" → E (.ref e) { s with heap := h', toks := tk }) :
    wpAny (model prog w) A (call (.builtin "list.remove") [.ref D, .str x t]) Q E s := by
  have z := N (D, listOf vs.toArray n) (.head _)
  have hv := hi.length
  cases hx : xs.any (· == x) with
  | true =>
    obtain ⟨j, hj, a, b, c, d⟩ := delS_spec hi hx
    refine call_meets PySem.F.slot_list_remove ⟨_, z.1, rfl⟩ PySem.F.entry_list_remove (PySem.F.args_list_remove_2 _ _)
      (list_remove D vs.toArray n (.str x t) (isStrOf x) (fun y hy => eq_isStrOf x t hi y (by simpa using hy)) j (by simpa using hj) (by simpa using a) (fun i hi hlt => by simpa using b i (by simpa using hi) hlt) (by rw [List.size_toArray, hv]; unfold sizeLine; omega))
      ⟨z.1, h1 hx (vs.eraseIdx j) _ (F.change (Heap.SameBut.update ..) z.2.1 z.2.2) (ki_turn _ (pre := []) (post := news) N (fun _ h9 => nomatch h9) hr ?_ ?_) c d⟩
    · show vs.toArray.eraseIdxIfInBounds j = (vs.eraseIdx j).toArray
      apply Array.toList_inj.mp
      simp [Array.toList_eraseIdxIfInBounds]
    · have hq : (vs.eraseIdx j).toArray.size ≠ vs.toArray.size := by rw [List.size_toArray, List.size_toArray, List.length_eraseIdx_of_lt hj]; omega
      rw [if_neg (by simpa using hq)]
  | false =>
    refine call_meets PySem.F.slot_list_remove ⟨_, z.1, rfl⟩ PySem.F.entry_list_remove (PySem.F.args_list_remove_2 _ _)
      (list_remove_none D vs.toArray n (.str x t) (isStrOf x) (fun y hy => eq_isStrOf x t hi y (by simpa using hy)) (fun i hm => ?_)) ⟨z.1, hA, h2 hx⟩
    have hm' : i < vs.length := by simpa using hm
    have q := any_isStrOf x hi
    rw [hx, List.any_eq_false] at q
    have := q vs[i] (List.getElem_mem hm')
    simpa using this
end
section
variable {prog : Program} {w : World} {A : Around} {E : Value → Shared → Prop} {s : Shared} {h₀ : Heap} {L D a b : Addr} {m : Str → Option Value} {news news' : List (Addr × Obj)} {vs us : List Value} {xs ys : List Str} {n k : Nat} {x : Value}
theorem sa_concat {Q : Value → Shared → Prop} (F : Fr h₀ L s.heap m) (N : News h₀ L s.heap news) (ma : (a, listOf vs.toArray n) ∈ news) (mb : (b, listOf us.toArray k) ∈ news) (hi : StrsAre vs xs) (hj : StrsAre us ys) (hx : xs.length ≤ 1000000) (hy : ys.length ≤ 1000000)
    (h : ∀ D ws h', Fr h₀ L h' m → News h₀ L h' ((D, listOf (List.toArray ws) 0) :: news) → (∀ p ∈ news, p.1 < D) → StrsAre ws (xs ++ ys) → (xs ++ ys).length = xs.length + ys.length → Q (.ref D) { s with heap := h' }) :
    wpAny (model prog w) A (binaryOp .Add (.ref a) (.ref b)) Q E s :=
  kmk_add_lit F N (PySem.IsL.isList (n := n) (N _ ma).1) (PySem.IsL.isList (n := k) (N _ mb).1) rfl (fun D h' F' N' l1 => h D (vs ++ us) h' F' N' l1 (strsAre_append hi hj) (List.length_append ..)) (by
    show vs.length + us.length ≤ _
    rw [hi.length, hj.length]
    unfold sizeLine
    omega)
theorem va_append {Q : Value → Shared → Prop} (F : Fr h₀ L s.heap m) (N : News h₀ L s.heap news) (U : Upd D (listOf vs.toArray n) (listOf (vs ++ [x]).toArray (n + 1)) news news') (hl : vs.length ≤ 16777216)
    (h : ∀ h', Fr h₀ L h' m → News h₀ L h' news' → (vs ++ [x]).length = vs.length + 1 → Q .none { s with heap := h' }) : wpAny (model prog w) A (call (.builtin "list.append") [.ref D, x]) Q E s := by
  have e : vs.toArray.push x = (vs ++ [x]).toArray := by simp
  refine append_K (its := vs.toArray) (n := n) F N (by rw [e]; exact U) (fun h' F' N' => h h' F' N' (by simp)) ?_
  rw [List.size_toArray, sizeLine_eq]; omega
end
/-- a row: how often in the one, how often in the other, the text -/
noncomputable def rowD (r : Int × Int × Str) : Dat := .tuple [.int r.1, .int r.2.1, .str r.2.2]
theorem rowD_inj {r q : Int × Int × Str} (h : rowD r = rowD q) : r = q := by
  obtain ⟨a, b, c⟩ := r
  obtain ⟨a', b', c'⟩ := q
  simp only [rowD, Dat.tuple.injEq, List.cons.injEq, Dat.int.injEq, Dat.str.injEq, and_true] at h
  obtain ⟨rfl, rfl, rfl⟩ := h
  rfl
theorem rowD_ok {r : Int × Int × Str} (h : PyData.strOk r.2.2 = true) (n : Nat) : kqdOk (n + 1) (rowD r) = true := by
  simp [rowD, kqdOk, h]
section
variable {prog : Program} {w : World} {A : Around} {E : Value → Shared → Prop} {s : Shared} {h₀ : Heap} {L D T : Addr} {news own : List (Addr × Obj)} {tv : List Value} {rows : List (Int × Int × Str)} {n k : Nat} {a b : Int} {x : Str} {t1 t2 t3 : Tok}
theorem row_in (mT : (T, ({ cls := .type "tuple", data := .seq #[.int a t1, .int b t2, .str x t3] k } : Obj)) ∈ news) : DatIn news (.ref T) (rowD (a, b, x)) :=
  .tuple (vs := [.int a t1, .int b t2, .str x t3]) mT (.cons (.int a t1) (.cons (.int b t2) (.cons (.str x t3) .nil)))
theorem notIn_rows {Q : Value → Shared → Prop} (N : News h₀ L s.heap news) (mD : (D, listOf tv.toArray n) ∈ news) (Da : DatAll own tv (rows.map rowD)) (sa : ∀ p ∈ own, p ∈ news) (mT : (T, ({ cls := .type "tuple", data := .seq #[.int a t1, .int b t2, .str x t3] k } : Obj)) ∈ news)
    (hs : ∀ r ∈ rows, PyData.strOk r.2.2 = true) (hx : PyData.strOk x = true) (hu : A.units + 64 < cLine) (h : Q (.bool (!decide ((a, b, x) ∈ rows))) s) : wpAny (model prog w) A (compareOp .NotIn (.ref T) (.ref D)) Q E s := by
  refine kqd_notIn N mD rfl rfl Da sa (row_in mT) (fun _ h9 => h9) (fun d hd => ?_) (rowD_ok hx 7) hu ?_
  · obtain ⟨r, hr, rfl⟩ := List.mem_map.mp hd
    exact rowD_ok (hs r hr) 7
  · have e : (rowD (a, b, x) ∈ rows.map rowD) ↔ (a, b, x) ∈ rows := ⟨fun q => by
      obtain ⟨r, hr, e⟩ := List.mem_map.mp q
      rw [← rowD_inj e]; exact hr, fun q => List.mem_map_of_mem q⟩
    have key : ∀ i : Decidable (rowD (a, b, x) ∈ rows.map rowD), @decide _ i = decide ((a, b, x) ∈ rows) := fun i => decide_eq_decide.mpr e
    rw [key]
    exact h
end
end
section
open PyProof.Rows.LCg PyProof.Rows.LCt
section
variable {prog : Program} {w : World} {A : Around} {E : Value → Shared → Prop} {s : Shared} {h₀ : Heap} {L : Addr} {m : Str → Option Value} {env : Env}
/-- the source of a comprehension with a test: a range of any step -/
noncomputable def SrcRS (prog : Program) (w : World) (A : Around) (h₀ : Heap) (L : Addr) (m : Str → Option Value) (env : Env) (ct elt : Expr) (x : Str) (scope : Scope) (cl : List (Str × Addr)) (Fin : Shared → List Value → List (Addr × Obj) → Prop) (xv : Value) (s₁ : Shared) : Prop :=
  ∃ r a b c t u v n news, xv = .ref r ∧ A.handled = none ∧ Fr h₀ L s₁.heap m ∧ News h₀ L s₁.heap news ∧ IsRange s₁.heap r a b c t u v ∧ Builtin.Range.small a b c = true ∧ Builtin.Range.rangeSize a b c = ((n : Nat) : Int) ∧ n ≤ sizeLine ∧
    ∀ s₂ : Shared, (∃ h, s₂ = { s₁ with heap := h }) → CompRestT prog w A h₀ L m env ct elt x scope cl s₂ (fun _ => True) (fun i v => ∃ t, v = .int (a + (i : Int) * c) t) (Fin s₂) n 0 [] news
theorem Assign_LC_S {ct elt iter : Expr} {x y : Str} {px py : Pos} {scope : Scope} {cl : List (Str × Addr)} {pos spos : Pos} {Q : Flow → Shared → Prop} (_F₀ : Fr h₀ L s.heap m) (hLe : env.locals = L)
    (hsw : swapsWith (.ListComp elt [⟨.Name x px, iter, [ct], 0⟩] scope pos) (some (.Name y py)) spos.line env = pure true)
    (hclos : closureFor scope env = pure cl) (hcell : ∀ z ∈ scope.names, z.2 ≠ .cell) (hkind : scope.kind = .function)
    (hnames : ∀ z ∈ scope.names, z.2 = .local → scope.names.lookup z.1 = some .local) (hx : scope.names.lookup x = some .local)
    (hy : env.kindOf y = some .local) (hp : (env.scope.kind == .class || (env.scope.kind == .module && env.locals != env.globals)) = false)
    (h : wpAny (model prog w) A (eval iter env) (SrcRS prog w A h₀ L m env ct elt x scope cl (fun s₂ => FinA h₀ L m s₂ y Q)) E s)
    (hs : ∀ x, foldedSetIterable iter env x = pure x := by intro _; rfl) :
    wpAny (model prog w) A (exec (.Assign [.Name y py] (.ListComp elt [⟨.Name x px, iter, [ct], 0⟩] scope pos) spos) env) Q E s := by
  subst hLe
  rw [exec_Assign_Name_used _ _ _ _ hsw]
  refine wpAny_bind (wpAny_standAt (wpAny_bind ?_))
  show wpAny _ A (do let _ ← comprehension (.ListComp elt [⟨.Name x px, iter, [ct], 0⟩] scope pos) scope env _ (newList []) false (eval iter env) (some (assign (.Name y py) env))) _ _ s
  refine wpAny_bind (wpAny_mono (wpAny_comprehension_free (use := some (assign (.Name y py) env)) (Q := fun _ s' => Q .next s') rfl hs hclos hkind hnames
    (wpAny_mono h (fun xv s₁ h₁ => ?_) fun _ _ e => e)) (fun _ s' hq => wpAny_pure (wpAny_pure hq)) fun _ _ e => e)
  obtain ⟨r, a, b, c, t, u, v, n, news, rfl, hh, F, N, hr, hsm, hn, hsz, R⟩ := h₁
  refine wpAny_pyIter_range hr hsm ?_
  refine block_T (Walks.range hh s₁.heap.objs.size a c n) hsz (fun i h st => ⟨_, st⟩) (fun i h h' o nw st e e' _ _ _ => ?_) hcell hkind hx (by show IsRangeIter _ _ _ _ _; rw [hn]; simpa using Heap.get?_push_size _ rfl) (fun b hb => ?_)
    (F.keeps fun _ _ e => Heap.get?_push_of_some _ e) (N.grown fun _ _ e => Heap.get?_push_of_some _ e) (Nat.ne_of_lt F.ns.lt) (next_is_new F) (fun p hp => Nat.ne_of_lt (Heap.lt_size (N p hp).1)) trivial (R _ ⟨_, rfl⟩) ?_
  · have st' : h.get? s₁.heap.objs.size = some _ := st
    show h'.get? s₁.heap.objs.size = some _
    rw [e', ← e]; exact st'
  · rw [List.mem_singleton.mp hb]
    show s₁.heap.objs.size < (s₁.heap.push _).objs.size
    rw [Heap.size_push]; exact Nat.lt_succ_self _
  · intro D C h' tk m' ys news' F' N' o1 hn hC₀ hD₀ hCL hDL hCD offC fin
    show wpAny _ A (assign (.Name y py) env (.ref D)) _ _ _
    refine wpAny_assign_Name (wpAny_storeName_local hy F'.ns (fun h₂ hn₂ hs₂ => ?_) hp)
    have hL₀ : h₀.get? env.locals = none := Heap.get?_none_of_le F'.above
    have F₂ : Fr h₀ env.locals h₂ (fun z => if z = y then some (.ref D) else m z) := ⟨hn₂, fun b o e => hs₂.extBut b o (fun q => by rw [q, hL₀] at e; cases e) (F'.keep b o e), F'.above⟩
    refine ⟨m', hn.sameBut hs₂ hCL, fun h'' hs'' => fin D h'' _ (F₂.change hs'' hCL hC₀) (fun p hp => ?_) o1⟩
    refine ⟨hs''.extBut _ _ ?_ (hs₂.extBut _ _ (N' p hp).2.1 (N' p hp).1), (N' p hp).2⟩
    rcases List.mem_cons.mp hp with rfl | hp
    · exact Ne.symm hCD
    · exact offC p hp
end
section
variable {prog : Program} {w : World} {A : Around} {E : Value → Shared → Prop} {s : Shared} {h₀ : Heap} {L D b : Addr} {m : Str → Option Value} {news : List (Addr × Obj)} {vs : List Value} {xs : List Str} {n : Nat}
theorem sa_copy {Q : Value → Shared → Prop} (F : Fr h₀ L s.heap m) (N : News h₀ L s.heap news) (hb : (b, listOf vs.toArray n) ∈ news) (hi : StrsAre vs xs) (hz : xs.length ≤ 1000000)
    (h : ∀ D c h', Fr h₀ L h' m → News h₀ L h' ((D, listOf vs.toArray c) :: news) → (∀ q ∈ news, q.1 < D) → Q (.ref D) { s with heap := h' }) : wpAny (model prog w) A (call (.type "list") [.ref b]) Q E s :=
  kup_listOf F N hb rfl h (by show vs.length ≤ _; rw [hi.length]; unfold sizeLine; omega)
end
end
section
theorem take_clip (ks : List Int) (k : Nat) : List.take (min k ks.length) ks = ks.take k := by
  rcases Nat.le_total k ks.length with h | h
  · rw [Nat.min_eq_left h]
  · rw [Nat.min_eq_right h, List.take_of_length_le (Nat.le_refl _), List.take_of_length_le h]
theorem drop_clip (ks : List Int) (k : Nat) : List.take (ks.length - min k ks.length) (List.drop (min k ks.length) ks) = ks.drop k := by
  rw [List.take_of_length_le (by rw [List.length_drop]; exact Nat.le_refl _)]
  rcases Nat.le_total k ks.length with h | h
  · rw [Nat.min_eq_left h]
  · rw [Nat.min_eq_right h, List.drop_of_length_le (Nat.le_refl _), List.drop_of_length_le h]
theorem news_tail {h₀ h : Heap} {L : Addr} {x : Addr × Obj} {l : List (Addr × Obj)} (N : News h₀ L h (x :: l)) : News h₀ L h l := fun q hq => N q (.tail _ hq)
theorem taken_ok (w : World) (la : Addr) (b : Array UInt8) (t : Tok) (n : Nat) (many : Int) (tm : Tok) (ks : List Int) (rest : List (Addr × Obj)) (h0 : 0 ≤ many) (hk : KBw.bInts b = ks) (hb : ks.length ≤ 16777216) (hr : ∀ q ∈ rest, q.1 ≠ la) :
    CallOk w 222 [.ref la, .int many tm] ((la, listOf #[.bytes b t] n) :: rest) 6 300
      (fun r led => ∃ b1 t1 b2 t2 n', r = .bytes b1 t1 ∧ KBw.bInts b1 = ks.take many.toNat ∧ KBw.bInts b2 = ks.drop many.toNat ∧ led = (la, listOf #[.bytes b2 t2] n') :: rest) := by
  obtain ⟨k, rfl⟩ := Int.eq_ofNat_of_zero_le h0
  rw [Int.toNat_natCast]
  unfold CallOk
  k_fill
  intro loose mean mg mb p dp un gd cn cs a ccd cl outer A₀ base h₀ L m sh sg sd st so Q E B F X N T hk' hd1 hu hret
  refine wpAny_call ?_
  k_dflt (refine' code_defL (bs := [(Str.ofString "many", .int k tm), (Str.ofString "left", .ref la)]) ?k1 ?k2 ?k3 ?k4 ?k5 ?kA ?kF ?kK ?k6 ?k7 ?k8 ?k9 ?kB ?kL ?_ ?c2 ?c3 ?c4 ?c5; (case kA => exact rfl); (case kF => exact rfl); (case kK => assumption); (case k1 => k_asm); (case k2 => k_asm); (case k3 => k_asm); (case k4 => k_asm); (case k5 => k_asm); (case k6 => k_is); (case k7 => k_is); (case k8 => ktr_room); (case k9 => exact BindsTo.of_eq rfl); (case c5 => decide); (case kB => exact locs rfl); (case kL => exact rfl); (case c2 => exact rfl); (case c3 => exact rfl); (case c4 => exact rfl); k_whole; intro _ _ _ _ _ _ _ BE _ _; (try dsimp only); (try k_lift BE); (try k_fold))
  k_extra "unf"
  (rename KBw.bInts (KBy.picked b none _) = _ => e1); (rename KBw.bInts (KBy.picked b _ none) = _ => e2); (rename News h₀ L _ _ => lN)
  rw [take_clip] at e1
  rw [drop_clip] at e2
  exact hret _ _ _ _ ⟨_, _, _, _, _, rfl, e1, e2, rfl⟩ (by assumption) (news_tail lN)
end
section
local macro_rules | `(tactic| k_updF) => `(tactic| first | exact UpdF.head (by k_all) | (refine' UpdF.tail ?ua9 ?ub9; (case ua9 => k_ne); (case ub9 => k_updF)))
theorem wl_8 : True := by
  k_with "own eval Name" => ((k_here; (with_reducible show wpAny _ _ (eval (Expr.Name _ _) (envX _ _ _ _ _ _)) _ _ _); k_dflt (refine' nameX_F ?Nq23 ?cq23 ?mq23 ?dq23 ?_ ?aq23 ?bq23; (case aq23 => rfl); (case bq23 => rfl); (case cq23 => exact rfl); (case Nq23 => k_asm); (case mq23 => first | (refine List.mem_cons_of_mem _ ?_; with_reducible assumption) | k_mem); (case dq23 => with_reducible assumption); k_whole)))
  trivial
section
noncomputable def CallOkC (w : World) (f : Addr) (args : List Value) (led : List (Addr × Obj)) (d u : Nat) (post : Value → List (Addr × Obj) → Prop) : Prop :=
  ∀ (loose : List Str) (mean : ExcName → Option Value) (mg mb : Str → Option Value) (p : Program) (dp un : Nat) (gd : Option (List Code)) (cn : Str) (cs : Scope) (a : Addr) (ccd : Value) (cl : List (Str × Addr)) (outer : List Env) (A₀ : Around) (base h₀ : Heap) (L : Addr) (m : Str → Option Value) (sh : Heap) (sg : Array GenState) (sd : Drawn) (st : Nat) (so : OsState) (Q E : Value → Shared → Prop),
    Below A₀ base outer h₀ → Fr h₀ L sh m → (frag w.params).In h₀ → News h₀ L sh led → Top p loose mean mg mb h₀ → CodeHd base 228 224 → cs.kind = .function → dp + d < recursionLimit → un + u < cLine →
    (∀ r led' h' tk', post r led' → Fr h₀ L h' m → News h₀ L h' led' → Q r ⟨h', sg, sd, tk', so⟩) →
    wpAny (model PySem.Challenge.rw_in0117_01.prog w) (ktrTop dp un gd cn cs L a ccd cl outer) (call (.ref f) args) Q E ⟨sh, sg, sd, st, so⟩
theorem call_useC {w : World} {f : Addr} {args : List Value} {led : List (Addr × Obj)} {d u : Nat} {post : Value → List (Addr × Obj) → Prop} (h : CallOkC w f args led d u post)
    {loose : List Str} {mean : ExcName → Option Value} {mg mb : Str → Option Value} {p : Program} {dp un : Nat} {gd : Option (List Code)} {cn : Str} {cs : Scope} {a : Addr} {ccd : Value} {cl : List (Str × Addr)} {outer : List Env} {A₀ : Around} {base h₀ : Heap} {L : Addr} {m : Str → Option Value} {s : Shared} {Q E : Value → Shared → Prop}
    (B : Below A₀ base outer h₀) (F : Fr h₀ L s.heap m) (X : (frag w.params).In h₀) (N : News h₀ L s.heap led) (T : Top p loose mean mg mb h₀) (C : CodeHd base 228 224) (hk : cs.kind = .function) (hd : dp + d < recursionLimit) (hu : un + u < cLine)
    (ret : ∀ r led' h' tk', post r led' → Fr h₀ L h' m → News h₀ L h' led' → Q r { s with heap := h', toks := tk' }) :
    wpAny (model PySem.Challenge.rw_in0117_01.prog w) (ktrTop dp un gd cn cs L a ccd cl outer) (call (.ref f) args) Q E s := h _ _ _ _ _ _ _ _ _ _ _ _ _ _ _ _ _ _ _ _ _ _ _ _ _ _ B F X N T C hk hd hu ret
section
variable {prog : Program} {w : World} {A : Around} {E : Value → Shared → Prop} {s : Shared} {h₀ : Heap} {L f D : Addr} {m m' : Str → Option Value} {news : List (Addr × Obj)} {g : Obj → List (Addr × Obj)} {o oD : Obj} {fd : FuncData} {name : Str} {v : Value}
theorem fn_setK {Q : Unit → Shared → Prop} (F : Fr h₀ L s.heap m) (N : News h₀ L s.heap news) (U : UpdF f o news g) (hc : o.cls = .type "function") (hdn : o.dict = none) (hnc : o.data = .func fd) (hB : typeLookup (.type "function") name = pure none)
    (h : ∀ D oD h' tk, Fr h₀ L h' m → News h₀ L h' ((D, oD) :: g { o with dict := some D }) → LCg.NsObj oD (fun y => if y = name then some v else none) → (∀ q ∈ news, q.1 < D) → Q () { s with heap := h', toks := tk }) :
    wpAny (model prog w) A (setAttr (.ref f) name v) Q E s := by
  obtain ⟨hh, gg, dd, tt, os⟩ := s
  obtain ⟨own, rest, rfl, hgr, h1, h2⟩ := U.split
  have hm := N (f, o) (List.mem_append_right _ (.head _))
  refine fn_setAttr hm.1 hc hdn hnc hB fun h' tk D oD e1 e2 e3 e4 e5 => ?_
  have hD : L < D := by rw [e1]; exact F.ns.lt
  have fresh : h₀.get? D = none := Heap.get?_none_of_le (Nat.le_trans F.above (Nat.le_of_lt hD))
  obtain ⟨oL, es, ep, eL, rL⟩ := F.ns
  have kk : ∀ b ob, h₀.get? b = some ob → h'.get? b = some ob := fun b ob e => e5 b ob (by rintro rfl; rw [hm.2.2] at e; cases e) (F.keep b ob e)
  have F' : Fr h₀ L h' m := ⟨⟨oL, es, ep, e5 L oL hm.2.1.symm eL, rL⟩, kk, F.above⟩
  refine h D oD h' tk F' ?_ e3 fun q hq => by rw [e1]; exact Heap.lt_size (N q hq).1
  intro q hq
  rcases List.mem_cons.mp hq with rfl | hq
  · exact ⟨e2, Nat.ne_of_gt hD, fresh⟩
  · rw [hgr] at hq
    rcases List.mem_append.mp hq with hq | hq
    · have n := N q (List.mem_append_left _ hq)
      exact ⟨e5 _ _ (h1 q hq) n.1, n.2⟩
    · rcases List.mem_cons.mp hq with rfl | hq
      · exact ⟨e4, hm.2⟩
      · have n := N q (List.mem_append_right _ (.tail _ hq))
        exact ⟨e5 _ _ (h2 q hq) n.1, n.2⟩
theorem fn_methK {pl : Sem Bool} {Q : Value × List Value → Shared → Prop} (N : News h₀ L s.heap news) (hm : (f, o) ∈ news) (hc : o.cls = .type "function") (hdn : o.dict = some D) (hnc : o.data = .func fd) (hD : (D, oD) ∈ news) (hB : typeLookup (.type "function") name = pure none)
    (hns : LCg.NsObj oD m') (hv : m' name = some v) (hh : handedOut v = pure v) (hq : ∀ k, Q (v, []) { s with toks := k }) :
    wpAny (model prog w) A (getMethod (.ref f) name pl) Q E s := by
  obtain ⟨hp, gg, dd, tt, os⟩ := s
  exact fn_method (N _ hm).1 hc hdn hnc hB (hns.ns (N _ hD).1) hv hh (hq _)
end
theorem fn_noRead : typeLookup (.type "function") "read" = pure none := by rw [typeLookup_type, builtinLookup_eq_fast]; kernel_rfl
theorem wl_9 : True := by
  k_with "setAttr ref ref" => ((k_here; k_dflt (refine' fn_setK ?Fq24 ?Nq24 ?Uq24 ?cq24 ?dnq24 ?ncq24 fn_noRead ?_; (case Fq24 => k_asm); (case Nq24 => k_asm); (case Uq24 => k_updF); (case cq24 => rfl); (case dnq24 => rfl); (case ncq24 => rfl); k_whole); intro _ _ _ _ _ N'w8 _ l'w8; (try k_lt l'w8); (try dsimp only at N'w8); (try k_sweep)))
  trivial
/-- a stream: its immutable part lies in R, and reading takes from the list at la -/
noncomputable def Reads (w : World) (r la : Addr) (R : List (Addr × Obj)) : Prop := ∀ R', (∀ q ∈ R, q ∈ R') → (∀ q ∈ R', q.1 ≠ la) → ∀ (b : Array UInt8) (t : Tok) (n : Nat) (many : Int) (tm : Tok) (ks : List Int), 0 ≤ many → KBw.bInts b = ks → ks.length ≤ 16777216 →
  CallOk w r [.int many tm] ((la, listOf #[.bytes b t] n) :: R') 8 600 (fun r led => ∃ b1 t1 b2 t2 n', r = .bytes b1 t1 ∧ KBw.bInts b1 = ks.take many.toNat ∧ KBw.bInts b2 = ks.drop many.toNat ∧ led = (la, listOf #[.bytes b2 t2] n') :: R')
noncomputable def Stm (w : World) (f la : Addr) (R : List (Addr × Obj)) : Prop := ∃ (o : Obj) (fd : FuncData) (D : Addr) (oD : Obj) (r : Addr), (f, o) ∈ R ∧ o.cls = .type "function" ∧ o.dict = some D ∧ o.data = .func fd ∧ (D, oD) ∈ R ∧ LCg.NsObj oD (fun y => if y = Str.ofString "read" then some (.ref r) else none) ∧ Reads w r la R ∧ ∃ (ro : Obj) (fdr : FuncData), (r, ro) ∈ R ∧ ro.data = .func fdr
/-- what a call of _law_stream leaves: the list at la, the table, the caller's own R, and new objects apart from R -/
noncomputable def StreamPost (w : World) (tab : Obj) (codes C₀ R : List (Addr × Obj)) (b : Array UInt8) (t : Tok) (r : Value) (led : List (Addr × Obj)) : Prop :=
  ∃ (f la : Addr) (n : Nat) (own : List (Addr × Obj)), r = .ref f ∧ led = (la, listOf #[.bytes b t] n) :: (224, tab) :: (R ++ own) ∧ (∀ q ∈ codes, q ∈ C₀ ++ own) ∧ Stm w f la (codes ++ own) ∧ (∀ q ∈ (224, tab) :: (R ++ own), q.1 ≠ la) ∧ (∀ q ∈ R ++ own, q.1 ≠ 224) ∧ (∀ q ∈ own, ∀ p ∈ R, q.1 ≠ p.1)
noncomputable def TabS (w : World) (tab : Obj) (codes : List (Addr × Obj)) : Prop := (∃ ps, tab = tabObj ps) ∧ ∀ R, (∀ q ∈ codes, q ∈ R) → (∀ q ∈ R, q.1 ≠ 224) → ∀ b t, CallOkC w 229 [.bytes b t] ((224, tab) :: R) 6 300 (StreamPost w tab codes codes R b t)
theorem wl_10 : True := by
  k_with "call ref cons nil" => ((k_here; (with_reducible show wpAny _ _ (call (Value.ref 222) _) _ _ _); (refine' call_use (taken_ok _ _ _ _ _ _ _ _ _ ?h0q25 ?hkq25 ?hlq25 ?hrq25) ?Bq25 ?Fq25 ?Xq25 (Del.news ?Dq25 ?Nq25) ?Tq25 ?hkkq25 ?hdq25 ?huq25 ?_; (case Bq25 => k_asm); (case Fq25 => k_asm); (case Xq25 => k_asm); (case Nq25 => k_asm); (case Dq25 => k_upd); (case Tq25 => k_asm); (case h0q25 => with_reducible assumption); (case hkq25 => with_reducible assumption); (case hlq25 => with_reducible assumption); (case hrq25 => first | assumption | k_all); (case hkkq25 => first | exact rfl | assumption); (case hdq25 => ktr_room); (case huq25 => ktr_units)); (rintro _ _ _ _ ⟨_, _, _, _, _, e8w8, _, _, e9w8⟩ _ _; subst e8w8; subst e9w8); (try dsimp only); (try k_sweep); (try k_fold)))
  trivial
theorem perm8 {h₀ h : Heap} {L : Addr} {a1 a2 a3 a4 a5 a6 x y : Addr × Obj} {rest : List (Addr × Obj)} (N : News h₀ L h (a1 :: a2 :: a3 :: a4 :: a5 :: x :: a6 :: y :: rest)) : News h₀ L h (x :: y :: (rest ++ [a3, a5, a1, a2, a4, a6])) := fun q hq => N q (by
  revert q; repeat' (first | with_reducible refine List.forall_mem_cons.mpr ⟨?_, ?_⟩ | (intro _ hS9; (repeat (first | with_reducible exact hS9 | with_reducible refine List.mem_cons_of_mem _ ?_)); done) | with_reducible refine List.forall_mem_append.mpr ⟨?_, ?_⟩ | ((repeat (first | with_reducible exact List.mem_cons_self | with_reducible refine List.mem_cons_of_mem _ ?_)); done) | with_reducible exact fun _ h => absurd h List.not_mem_nil))
theorem perm6 {h₀ h : Heap} {L : Addr} {a1 a2 a3 a6 x y : Addr × Obj} {rest : List (Addr × Obj)} (N : News h₀ L h (a1 :: a2 :: a3 :: x :: a6 :: y :: rest)) : News h₀ L h (x :: y :: (rest ++ [a1, a2, a3, a6])) := fun q hq => N q (by
  revert q; repeat' (first | with_reducible refine List.forall_mem_cons.mpr ⟨?_, ?_⟩ | (intro _ hS9; (repeat (first | with_reducible exact hS9 | with_reducible refine List.mem_cons_of_mem _ ?_)); done) | with_reducible refine List.forall_mem_append.mpr ⟨?_, ?_⟩ | ((repeat (first | with_reducible exact List.mem_cons_self | with_reducible refine List.mem_cons_of_mem _ ?_)); done) | with_reducible exact fun _ h => absurd h List.not_mem_nil))
theorem sp_new {w : World} {tab : Obj} {rest : List (Addr × Obj)} {b : Array UInt8} {t : Tok} {f la : Addr} {n : Nat} {a1 a2 a3 a4 a5 a6 : Addr × Obj} (p2 : TabS w tab [a3, a5]) (p3 : Stm w f la ([a3, a5] ++ [a3, a5, a1, a2, a4, a6])) (p4 : ∀ q ∈ (224, tab) :: (rest ++ [a3, a5, a1, a2, a4, a6]), q.1 ≠ la) (p5 : ∀ q ∈ rest ++ [a3, a5, a1, a2, a4, a6], q.1 ≠ 224) (p6 : ∀ q ∈ [a3, a5, a1, a2, a4, a6], ∀ p ∈ rest, q.1 ≠ p.1) :
    ∃ tab' codes, TabS w tab' codes ∧ StreamPost w tab' codes [] rest b t (.ref f) ((la, listOf #[.bytes b t] n) :: (224, tab) :: (rest ++ [a3, a5, a1, a2, a4, a6])) :=
  ⟨tab, [a3, a5], p2, f, la, n, [a3, a5, a1, a2, a4, a6], rfl, rfl, fun q hq => List.mem_append.mpr (.inr (by
    rcases List.mem_cons.mp hq with rfl | hq
    · exact .head _
    · rw [List.mem_singleton.mp hq]; exact .tail _ (.head _))), p3, p4, p5, p6⟩
theorem apart_of {R : List (Addr × Obj)} {L x : Nat} (h : ∀ p ∈ R, p.1 < L) (hx : L < x) : ∀ p ∈ R, x ≠ p.1 := fun p hp e => absurd (h p hp) (by have := e ▸ hx; exact Nat.not_lt.mpr (Nat.le_of_lt this))
theorem stream_new (w : World) (b : Array UInt8) (t : Tok) (rest : List (Addr × Obj)) (hr : ∀ q ∈ rest, q.1 ≠ 224) :
    CallOkC w 229 [.bytes b t] ((224, tabObj #[]) :: rest) 6 300
      (fun r led => ∃ tab codes, TabS w tab codes ∧ StreamPost w tab codes [] rest b t r led) := by
  unfold CallOkC
  k_fill
  intro loose mean mg mb p dp un gd cn cs a ccd cl outer A₀ base h₀ L m sh sg sd st so Q E B F X N T C hk' hd1 hu hret
  refine wpAny_call ?_
  k_dflt (refine' code_defC ?k1 ?k2 ?k3 ?k4 ?k5 ?kA ?kF ?kK ?k6 ?k7 ?k8 ?k9 ?kB ?kD ?_ ?c2 ?c3 ?c4; (case kA => exact rfl); (case kF => exact rfl); (case kK => assumption); (case k1 => k_asm); (case k2 => k_asm); (case k3 => k_asm); (case k4 => k_asm); (case k5 => k_asm); (case k6 => k_is); (case k7 => k_is); (case k8 => ktr_room); (case k9 => exact BindsTo.of_eq rfl); (case kB => exact rfl); (case kD => decide +kernel); (case c2 => exact rfl); (case c3 => exact rfl); (case c4 => exact rfl); k_whole; intro gw7 Lw7 hw7 tkw7 cellsw7 FGw7 Fw7 Nw7 Yw7 Bw7 Xw7 Tw7 l1w7; k_cells Yw7; (try simp only [List.cons_append, List.nil_append] at Nw7); (try dsimp only); (try k_lift Bw7); (try k_fold))
  (rename ∀ p ∈ _ :: _, Prod.fst p < _ => l9)
  have l8 : @LT.lt Nat _ 224 _ := l9 _ (.head _)
  have l7 := fun p hp => l9 p (.tail _ hp)
  k_extra "unf"
  (rename News h₀ L _ ((_, _) :: _) => lN)
  have lN9 := perm8 lN
  refine hret _ _ _ _ ?post (by assumption) lN9
  clear lN9 lN hret
  refine sp_new ?p2 ?p3 ?p4 ?p5 ?p6
  case p4 =>
    refine List.forall_mem_cons.mpr ⟨?a, ?b⟩
    case a => k_ne
    case b => k_all
  case p5 => k_all
  case p6 => exact List.forall_mem_cons.mpr ⟨apart_of l7 (by omega), List.forall_mem_cons.mpr ⟨apart_of l7 (by omega), List.forall_mem_cons.mpr ⟨apart_of l7 (by omega), List.forall_mem_cons.mpr ⟨apart_of l7 (by omega), List.forall_mem_cons.mpr ⟨apart_of l7 (by omega), List.forall_mem_cons.mpr ⟨apart_of l7 (by omega), List.forall_mem_nil _⟩⟩⟩⟩⟩⟩
  case p3 =>
    refine ⟨_, _, _, _, _, .tail _ (.tail _ (.tail _ (.tail _ (.tail _ (.tail _ (.head _)))))), rfl, rfl, rfl, .tail _ (.tail _ (.tail _ (.tail _ (.head _)))), by assumption, ?_, _, _, .tail _ (.tail _ (.tail _ (.tail _ (.tail _ (.head _))))), rfl⟩
    intro R' hR' hla b t n many tm ks h0 hk hb
    have m1 := hR' _ (.tail _ (.tail _ (.tail _ (.tail _ (.tail _ (.head _))))))
    have m2 := hR' _ (.head _)
    have m3 := hR' _ (.tail _ (.tail _ (.tail _ (.tail _ (.tail _ (.tail _ (.tail _ (.head _))))))))
    clear hR'
    unfold CallOk
    k_fill
    intro loose mean mg' mb p dp un gd cn cs a ccd cl outer A₀ base h₁ L₁ m sh sg sd st so Q E B F X N T hk' hd1 hu hret
    refine wpAny_call ?_
    k_dflt (refine' kla_code ?k1 ?k2 ?k3 ?k4 ?k5 ?kA ?kF ?kK ?k6 ?k7 ?k8 ?k9 ?kB ?_ ?c2 ?c3 ?c4 ?c5; (case kA => exact rfl); (case kF => exact rfl); (case kK => assumption); (case k1 => k_asm); (case k2 => k_asm); (case k3 => k_asm); (case k4 => k_asm); (case k5 => k_asm); (case k6 => refine List.mem_cons_of_mem _ ?_; with_reducible assumption); (case k7 => exact codeRec_news (by k_asm) (List.mem_cons_of_mem _ (by with_reducible assumption)) (by assumption) (by assumption)); (case k8 => ktr_room); (case k9 => exact rfl); (case c5 => decide); (case kB => exact locs rfl); (case c2 => exact rfl); (case c3 => exact rfl); (case c4 => exact rfl); k_whole; intro gw7 Lw7 hw7 FGw7 Fw7 Nw7 Bw7 Xw7 Tw7; (try dsimp only); (try k_fold))
    k_extra "unf"
    exact hret _ _ _ _ ⟨_, _, _, _, _, rfl, by assumption, by assumption, rfl⟩ (by assumption) (by assumption)
  case p2 =>
    refine ⟨⟨_, rfl⟩, ?_⟩
    intro R' hR' h224 b t
    have m2 := hR' _ (.head _)
    have m3 := hR' _ (.tail _ (.head _))
    unfold CallOkC
    k_fill
    intro loose mean mg' mb p dp un gd cn cs a ccd cl outer A₀ base h₁ L₁ m sh sg sd st so Q E B F X N T C hk' hd1 hu hret
    refine wpAny_call ?_
    k_dflt (refine' code_defC ?k1 ?k2 ?k3 ?k4 ?k5 ?kA ?kF ?kK ?k6 ?k7 ?k8 ?k9 ?kB ?kD ?_ ?c2 ?c3 ?c4; (case kA => exact rfl); (case kF => exact rfl); (case kK => assumption); (case k1 => k_asm); (case k2 => k_asm); (case k3 => k_asm); (case k4 => k_asm); (case k5 => k_asm); (case k6 => k_is); (case k7 => k_is); (case k8 => ktr_room); (case k9 => exact BindsTo.of_eq rfl); (case kB => exact rfl); (case kD => decide +kernel); (case c2 => exact rfl); (case c3 => exact rfl); (case c4 => exact rfl); k_whole; intro gw7 Lw7 hw7 tkw7 cellsw7 FGw7 Fw7 Nw7 Yw7 Bw7 Xw7 Tw7 l1w7; k_cells Yw7; (try simp only [List.cons_append, List.nil_append] at Nw7); (try dsimp only); (try k_lift Bw7); (try k_fold))
    (rename ∀ p ∈ (_, _) :: R', Prod.fst p < _ => l9)
    have l8 : @LT.lt Nat _ 224 _ := l9 _ (.head _)
    have l7 := fun p hp => l9 p (.tail _ hp)
    k_extra "unf"
    (rename News h₁ L₁ _ ((_, _) :: _) => lN)
    have lN9 := perm6 lN
    refine hret _ _ _ _ ?post2 (by assumption) lN9
    clear lN9 lN hret
    refine ⟨_, _, _, _, rfl, rfl, ?q1, ?q3, ?q4, ?q5, ?q6⟩
    case q1 => exact fun q hq => List.mem_append.mpr (.inl hq)
    case q4 =>
      refine List.forall_mem_cons.mpr ⟨?a, ?b⟩
      case a => k_ne
      case b => k_all
    case q5 => k_all
    case q6 => exact List.forall_mem_cons.mpr ⟨apart_of l7 (by omega), List.forall_mem_cons.mpr ⟨apart_of l7 (by omega), List.forall_mem_cons.mpr ⟨apart_of l7 (by omega), List.forall_mem_cons.mpr ⟨apart_of l7 (by omega), List.forall_mem_nil _⟩⟩⟩⟩
    case q3 =>
      refine ⟨_, _, _, _, _, .tail _ (.tail _ (.tail _ (.tail _ (.head _)))), rfl, rfl, rfl, .tail _ (.tail _ (.head _)), by assumption, ?_, _, _, .tail _ (.tail _ (.tail _ (.head _))), rfl⟩
      clear hR' m2 m3
      intro R'' hR' hla b t n many tm ks h0 hk hb
      have m1 := hR' _ (.tail _ (.tail _ (.tail _ (.head _))))
      have m2 := hR' _ (.head _)
      have m4 := hR' _ (.tail _ (.tail _ (.tail _ (.tail _ (.tail _ (.head _))))))
      clear hR'
      unfold CallOk
      k_fill
      intro loose mean mg2 mb p dp un gd cn cs a ccd cl outer A₀ base h₂ L₂ m sh sg sd st so Q E B F X N T hk' hd1 hu hret
      refine wpAny_call ?_
      k_dflt (refine' kla_code ?k1 ?k2 ?k3 ?k4 ?k5 ?kA ?kF ?kK ?k6 ?k7 ?k8 ?k9 ?kB ?_ ?c2 ?c3 ?c4 ?c5; (case kA => exact rfl); (case kF => exact rfl); (case kK => assumption); (case k1 => k_asm); (case k2 => k_asm); (case k3 => k_asm); (case k4 => k_asm); (case k5 => k_asm); (case k6 => refine List.mem_cons_of_mem _ ?_; with_reducible assumption); (case k7 => exact codeRec_news (by k_asm) (List.mem_cons_of_mem _ (by with_reducible assumption)) (by assumption) (by assumption)); (case k8 => ktr_room); (case k9 => exact rfl); (case c5 => decide); (case kB => exact locs rfl); (case c2 => exact rfl); (case c3 => exact rfl); (case c4 => exact rfl); k_whole; intro gw7 Lw7 hw7 FGw7 Fw7 Nw7 Bw7 Xw7 Tw7; (try dsimp only); (try k_fold))
      k_extra "unf"
      exact hret _ _ _ _ ⟨_, _, _, _, _, rfl, by assumption, by assumption, rfl⟩ (by assumption) (by assumption)
end
section
theorem fnAt_mem {h₀ h : Heap} {L q : Addr} {o : Obj} {fd : FuncData} {news : List (Addr × Obj)} (N : News h₀ L h news) (hm : (q, o) ∈ news) (hd : o.data = .func fd) : FnAt q h := by
  obtain ⟨oc, od, dt, sl⟩ := o
  dsimp only at hd
  subst hd
  exact FnAt.of N hm
theorem wl_11 : True := by
  k_with "callWith ref nil nil" => ((k_here; k_dflt (refine' callWith_F ?k1q26 ?_; (case k1q26 => exact fnAt_mem (by k_asm) (List.mem_cons_of_mem _ (by with_reducible assumption)) (by with_reducible assumption)); k_whole)))
  k_with "FnAt" => ((k_dflt (exact fnAt_mem (by k_asm) (List.mem_cons_of_mem _ (by with_reducible assumption)) (by with_reducible assumption))))
  k_with "call ref cons nil" => ((k_here; (with_reducible show wpAny _ _ (call (Value.ref _) [Value.int _ _]) _ _ _); (rename Reads _ _ _ _ => hR9w8); (refine' call_use (hR9w8 _ (fun _ h => h) ?hrq28 _ _ _ _ _ _ ?h0q28 ?hkq28 ?hlq28) ?Bq28 ?Fq28 ?Xq28 (Del.news ?Dq28 ?Nq28) ?Tq28 ?hkkq28 ?hdq28 ?huq28 ?_; (case Bq28 => k_asm); (case Fq28 => k_asm); (case Xq28 => k_asm); (case Nq28 => k_asm); (case Dq28 => k_upd); (case Tq28 => k_asm); (case h0q28 => first | decide | with_reducible assumption); (case hkq28 => with_reducible assumption); (case hlq28 => with_reducible assumption); (case hrq28 => first | assumption | k_all); (case hkkq28 => first | exact rfl | assumption); (case hdq28 => ktr_room); (case huq28 => ktr_units)); (rintro _ _ _ _ ⟨_, _, _, _, _, e8w8, _, _, e9w8⟩ _ _; subst e8w8; subst e9w8); (try dsimp only); (try k_sweep); (try k_fold)))
  k_with "own getMethod ref" => ((k_here; (with_reducible show wpAny _ _ (getMethod (Value.ref _) (Str.ofString "read") _) _ _ _); k_dflt (refine' fn_methK ?Nq29 ?mq29 ?cq29 ?dnq29 ?ncq29 ?Dq29 fn_noRead ?nsq29 ?vq29 ?hhq29 ?_; (case Nq29 => k_asm); (case mq29 => refine List.mem_cons_of_mem _ ?_; with_reducible assumption); (case cq29 => with_reducible assumption); (case dnq29 => with_reducible assumption); (case ncq29 => with_reducible assumption); (case Dq29 => refine List.mem_cons_of_mem _ ?_; with_reducible assumption); (case nsq29 => with_reducible assumption); (case vq29 => exact if_pos rfl); (case hhq29 => rfl)); intro _; (try dsimp only)))
  trivial
/-- as CallOk, for a def that may raise ValueError -/
noncomputable def CallOkE (w : World) (f : Addr) (args : List Value) (led : List (Addr × Obj)) (d u : Nat) (post : Value → List (Addr × Obj) → Prop) (postE : List Value → List (Addr × Obj) → Prop) : Prop :=
  ∀ (loose : List Str) (mean : ExcName → Option Value) (mg mb : Str → Option Value) (p : Program) (dp un : Nat) (gd : Option (List Code)) (cn : Str) (cs : Scope) (a : Addr) (ccd : Value) (cl : List (Str × Addr)) (outer : List Env) (A₀ : Around) (base h₀ : Heap) (L : Addr) (m : Str → Option Value) (sh : Heap) (sg : Array GenState) (sd : Drawn) (st : Nat) (so : OsState) (Q E : Value → Shared → Prop),
    Below A₀ base outer h₀ → Fr h₀ L sh m → (frag w.params).In h₀ → News h₀ L sh led → Top p loose mean mg mb h₀ → cs.kind = .function → dp + d < recursionLimit → un + u < cLine →
    (∀ r led' h' tk', post r led' → Fr h₀ L h' m → News h₀ L h' led' → Q r ⟨h', sg, sd, tk', so⟩) →
    (∀ e t vs led' h' tk' G, postE vs led' → RaisedS base G (envX cn cs L a ccd cl :: outer) e (.type "ValueError") t vs led' h' → Fr h₀ L G m → G.UpToSlots h' → E (.ref e) ⟨h', sg, sd, tk', so⟩) →
    wpAny (model PySem.Challenge.rw_in0117_01.prog w) (ktrTop dp un gd cn cs L a ccd cl outer) (call (.ref f) args) Q E ⟨sh, sg, sd, st, so⟩
theorem call_useE {w : World} {f : Addr} {args : List Value} {led : List (Addr × Obj)} {d u : Nat} {post : Value → List (Addr × Obj) → Prop} {postE : List Value → List (Addr × Obj) → Prop} (h : CallOkE w f args led d u post postE)
    {loose : List Str} {mean : ExcName → Option Value} {mg mb : Str → Option Value} {p : Program} {dp un : Nat} {gd : Option (List Code)} {cn : Str} {cs : Scope} {a : Addr} {ccd : Value} {cl : List (Str × Addr)} {outer : List Env} {A₀ : Around} {base h₀ : Heap} {L : Addr} {m : Str → Option Value} {s : Shared} {Q E : Value → Shared → Prop}
    (B : Below A₀ base outer h₀) (F : Fr h₀ L s.heap m) (X : (frag w.params).In h₀) (N : News h₀ L s.heap led) (T : Top p loose mean mg mb h₀) (hk : cs.kind = .function) (hd : dp + d < recursionLimit) (hu : un + u < cLine)
    (ret : ∀ r led' h' tk', post r led' → Fr h₀ L h' m → News h₀ L h' led' → Q r { s with heap := h', toks := tk' })
    (exc : ∀ e t vs led' h' tk' G, postE vs led' → RaisedS base G (envX cn cs L a ccd cl :: outer) e (.type "ValueError") t vs led' h' → Fr h₀ L G m → G.UpToSlots h' → E (.ref e) { s with heap := h', toks := tk' }) :
    wpAny (model PySem.Challenge.rw_in0117_01.prog w) (ktrTop dp un gd cn cs L a ccd cl outer) (call (.ref f) args) Q E s := h _ _ _ _ _ _ _ _ _ _ _ _ _ _ _ _ _ _ _ _ _ _ _ _ _ _ B F X N T hk hd hu ret exc
theorem wl_12 : True := by
  k_with "own leaving ref" => ((k_here; first
  | (refine' leave_raiseS ?k1q30 ?k0q30 ?k2q30 ?k3q30 ?_; (case k0q30 => first | assumption | exact Heap.MadeExc.of (by assumption)); (case k2q30 => assumption); (case k1q30 => assumption); (case k3q30 => k_asm); k_whole; intro h'w8 _ S'w8 R'w8 U'w8; (try dsimp only at S'w8 R'w8 U'w8 ⊢))
  | (refine' leave_onS ?k1q30 ?k2q30 ?k3q30 ?k4q30 ?_; (case k3q30 => assumption); (case k2q30 => assumption); (case k1q30 => assumption); (case k4q30 => assumption); k_whole; intro h'w8 S'w8 R'w8 U'w8; (try dsimp only at S'w8 R'w8 U'w8 ⊢))))
  k_with "own exec Raise some none" => ((k_here; (with_reducible show wpAny _ _ (exec (Stmt.Raise (some (Expr.Call (Expr.Name (Str.ofString "ValueError") _) (_ :: _) [] _)) none _) _) _ _ _); k_dflt (refine' Raise_madeB PySem.F.excCall_ValueError PySem.F.excRaise_ValueError ?hhq31 ?_; (case hhq31 => rfl); (refine' nameX_B ?Fq31 ?Xq31 ?Tq31 ?eq31 PyProof.Rows.Boot.«ValueError» ?nq31 ⟨rfl, ?_⟩ ?aq31 ?bq31; (case Fq31 => k_asm); (case Xq31 => k_asm); (case Tq31 => k_asm); (case aq31 => rfl); (case bq31 => rfl); (case eq31 => k_is); (case nq31 => decide)))))
  k_with "own And" => (((with_reducible show _ ≤ sizeLine ∧ _); k_dflt (refine ⟨by first | size_fits | (rw [sizeLine_eq]; decide), ?_⟩); intro _ _ _))
  trivial
theorem uint1_ok (w : World) (f la : Addr) (b : Array UInt8) (t : Tok) (n : Nat) (ks : List Int) (rest : List (Addr × Obj)) (hS : Stm w f la rest) (hk : KBw.bInts b = ks) (hl : ks.length ≤ 16777216) (hr : ∀ q ∈ rest, q.1 ≠ la) :
    CallOkE w 28 [.ref f] ((la, listOf #[.bytes b t] n) :: rest) 12 900
      (fun r led => 0 < ks.length ∧ ∃ t1 b2 t2 n', r = .int (ks.getD 0 0) t1 ∧ KBw.bInts b2 = ks.drop 1 ∧ led = (la, listOf #[.bytes b2 t2] n') :: rest)
      (fun vs led => ks = [] ∧ ∃ t1 b2 t2 n', vs = [.str "not enough data in stream to read uint1" t1] ∧ KBw.bInts b2 = [] ∧ led = (la, listOf #[.bytes b2 t2] n') :: rest) := by
  obtain ⟨o, fd, D, oD, rr, m1, c1, c2, c3, m2, ns, hR, ro, fdr, m3, c4⟩ := hS
  unfold CallOkE
  k_fill
  intro loose mean mg mb p dp un gd cn cs a ccd cl outer A₀ base h₀ L m sh sg sd st so Q E B F X N T hk' hd1 hu hret hexc
  refine wpAny_call ?_
  k_dflt (refine' code_defL (bs := [(Str.ofString "f", .ref f)]) ?k1 ?k2 ?k3 ?k4 ?k5 ?kA ?kF ?kK ?k6 ?k7 ?k8 ?k9 ?kB ?kL ?_ ?c2 ?c3 ?c4 ?c5; (case kA => exact rfl); (case kF => exact rfl); (case kK => assumption); (case k1 => k_asm); (case k2 => k_asm); (case k3 => k_asm); (case k4 => k_asm); (case k5 => k_asm); (case k6 => k_is); (case k7 => k_is); (case k8 => ktr_room); (case k9 => exact BindsTo.of_eq rfl); (case c5 => decide); (case kB => exact locs rfl); (case kL => exact rfl); (case c2 => exact rfl); (case c3 => exact rfl); (case c4 => exact rfl); k_whole; intro _ _ _ _ _ _ _ BE _ _; (try dsimp only); (try k_lift BE); (try k_fold))
  k_extra "unf"
  · rename 0 < min _ _ => h9
    have h8 : 0 < ks.length := by omega
    have e : (List.take (Int.toNat 1) ks).getD (Int.toNat 0) 0 = ks.getD 0 0 := by
      cases ks with
      | nil => exact absurd h8 (by decide)
      | cons _ _ => rfl
    rw [e]
    exact hret _ _ _ _ ⟨h8, _, _, _, _, rfl, by assumption, rfl⟩ (by assumption) (by assumption)
  · rename ¬ 0 < min _ _ => h9
    have h8 : ks = [] := by
      cases ks with
      | nil => rfl
      | cons _ _ => exfalso; apply h9; simp
    rename KBw.bInts _ = ks.drop _ => h7
    rw [h8] at h7
    exact hexc _ _ _ _ _ _ _ ⟨h8, _, _, _, _, rfl, h7, rfl⟩ (by assumption) (by assumption) (by assumption)
end
section
theorem wl_13 : True := by
  k_with "callWith ref nil nil" => ((k_here; k_dflt (refine' callWith_F ?k1q33 ?_; (case k1q33 => exact fnAt_mem (by k_asm) (List.mem_cons_of_mem _ (by with_reducible assumption)) (by with_reducible assumption)); k_whole)))
  k_with "FnAt" => ((k_dflt (exact fnAt_mem (by k_asm) (List.mem_cons_of_mem _ (by with_reducible assumption)) (by with_reducible assumption))))
  k_with "call ref cons nil" => ((k_here; (with_reducible show wpAny _ _ (call (Value.ref _) [Value.int _ _]) _ _ _); (rename Reads _ _ _ _ => hR9w8); (refine' call_use (hR9w8 _ (fun _ h => h) ?hrq35 _ _ _ _ _ _ ?h0q35 ?hkq35 ?hlq35) ?Bq35 ?Fq35 ?Xq35 (Del.news ?Dq35 ?Nq35) ?Tq35 ?hkkq35 ?hdq35 ?huq35 ?_; (case Bq35 => k_asm); (case Fq35 => k_asm); (case Xq35 => k_asm); (case Nq35 => k_asm); (case Dq35 => k_upd); (case Tq35 => k_asm); (case h0q35 => first | decide | with_reducible assumption); (case hkq35 => with_reducible assumption); (case hlq35 => with_reducible assumption); (case hrq35 => first | assumption | k_all); (case hkkq35 => first | exact rfl | assumption); (case hdq35 => ktr_room); (case huq35 => ktr_units)); (rintro _ _ _ _ ⟨_, _, _, _, _, e8w8, _, _, e9w8⟩ _ _; subst e8w8; subst e9w8); (try dsimp only); (try k_sweep); (try k_fold)))
  k_with "own getMethod ref" => ((k_here; (with_reducible show wpAny _ _ (getMethod (Value.ref _) (Str.ofString "read") _) _ _ _); k_dflt (refine' fn_methK ?Nq36 ?mq36 ?cq36 ?dnq36 ?ncq36 ?Dq36 fn_noRead ?nsq36 ?vq36 ?hhq36 ?_; (case Nq36 => k_asm); (case mq36 => refine List.mem_cons_of_mem _ ?_; with_reducible assumption); (case cq36 => with_reducible assumption); (case dnq36 => with_reducible assumption); (case ncq36 => with_reducible assumption); (case Dq36 => refine List.mem_cons_of_mem _ ?_; with_reducible assumption); (case nsq36 => with_reducible assumption); (case vq36 => exact if_pos rfl); (case hhq36 => rfl)); intro _; (try dsimp only)))
  k_with "own leaving ref" => ((k_here; first
  | (refine' leave_raiseS ?k1q37 ?k0q37 ?k2q37 ?k3q37 ?_; (case k0q37 => first | assumption | exact Heap.MadeExc.of (by assumption)); (case k2q37 => assumption); (case k1q37 => assumption); (case k3q37 => k_asm); k_whole; intro h'w8 _ S'w8 R'w8 U'w8; (try dsimp only at S'w8 R'w8 U'w8 ⊢))
  | (refine' leave_onS ?k1q37 ?k2q37 ?k3q37 ?k4q37 ?_; (case k3q37 => assumption); (case k2q37 => assumption); (case k1q37 => assumption); (case k4q37 => assumption); k_whole; intro h'w8 S'w8 R'w8 U'w8; (try dsimp only at S'w8 R'w8 U'w8 ⊢))))
  k_with "own exec Raise some none" => ((k_here; (with_reducible show wpAny _ _ (exec (Stmt.Raise (some (Expr.Call (Expr.Name (Str.ofString "ValueError") _) (_ :: _) [] _)) none _) _) _ _ _); k_dflt (refine' Raise_madeB PySem.F.excCall_ValueError PySem.F.excRaise_ValueError ?hhq38 ?_; (case hhq38 => rfl); (refine' nameX_B ?Fq38 ?Xq38 ?Tq38 ?eq38 PyProof.Rows.Boot.«ValueError» ?nq38 ⟨rfl, ?_⟩ ?aq38 ?bq38; (case Fq38 => k_asm); (case Xq38 => k_asm); (case Tq38 => k_asm); (case aq38 => rfl); (case bq38 => rfl); (case eq38 => k_is); (case nq38 => decide)))))
  k_with "own And" => (((with_reducible show _ ≤ sizeLine ∧ _); k_dflt (refine ⟨by first | size_fits | (rw [sizeLine_eq]; decide), ?_⟩); intro _ _ _))
  trivial
section
theorem wl_14 : True := by
  k_with "call ref cons nil" => ((k_here; (with_reducible show wpAny _ _ (call (Value.ref 28) _) _ _ _); (refine' call_useE (uint1_ok _ _ _ _ _ _ _ _ ?hsq40 ?hkq40 ?hlq40 ?hrq40) ?Bq40 ?Fq40 ?Xq40 (Del.news ?Dq40 ?Nq40) ?Tq40 ?hkkq40 ?hdq40 ?huq40 ?grq40 ?geq40; (case Bq40 => k_asm); (case Fq40 => k_asm); (case Xq40 => k_asm); (case Nq40 => k_asm); (case Dq40 => k_upd); (case Tq40 => k_asm); (case hsq40 => with_reducible assumption); (case hkq40 => with_reducible assumption); (case hlq40 => with_reducible assumption); (case hrq40 => first | assumption | k_all); (case hkkq40 => first | exact rfl | assumption); (case hdq40 => ktr_room); (case huq40 => ktr_units)); (case' grq40 => (rintro _ led9w8 h'w8 tk'w8 ⟨e5w8, t1w8, b2w8, t2w8, n'w8, e8w8, e7w8, e9w8⟩ F'w8 _; subst e8w8; subst e9w8; (try dsimp only); (try k_sweep); (try k_fold))); (case' geq40 => (rintro e9w8 _ _ led9w8 h'w8 tk'w8 _ ⟨e5w8, t1w8, b2w8, t2w8, n'w8, e8w8, e7w8, e6w8⟩ _ F'w8 _; subst e8w8; subst e6w8; (try dsimp only); (try k_sweep); (try k_fold)))))
  trivial
noncomputable def shortMsg (n k : Int) : Str := Str.ofString "expected " ++ Str.ofString (toString n) ++ Str.ofString " bytes in a string1, but only " ++ Str.ofString (toString k) ++ Str.ofString " remain"
theorem fmt_meets (n k : Int) (t u v : Tok) (b : Addr) (n0 : 0 ≤ n) (n1 : n < 1000) (k0 : 0 ≤ k) (k1 : k < 10 ^ 9) : Meets (Builtin.«str.__mod__» ⟨[.str ⟨#[101, 120, 112, 101, 99, 116, 101, 100, 32, 37, 100, 32, 98, 121, 116, 101, 115, 32, 105, 110, 32, 97, 32, 115, 116, 114, 105, 110, 103, 49, 44, 32, 98, 117, 116, 32, 111, 110, 108, 121, 32, 37, 100, 32, 114, 101, 109, 97, 105, 110]⟩ t, .ref b], []⟩)
    (fun _ R s => IsTup s.heap b #[.int n u, .int k v] ∧ ∀ t' tk, R (.ok (.ret (.str (shortMsg n k) t'))) { s with toks := tk }) := by
  unfold shortMsg
  kpt_run
theorem wl_15 : True := by
  k_with "own binaryOp Mod str ref" => ((k_here; (with_reducible show wpAny _ _ (binaryOp Operator.Mod (Value.str _ _) (Value.ref _)) _ _ _); k_dflt (refine' KPt.mod_tuple ?kptNq41 ?kptbq41 ?kptFq41 ?kptmq41 ?_; (case kptNq41 => k_asm); (case kptbq41 => k_mem); (case' kptmq41 => exact fmt_meets _ _ _ _ _ _ (by omega) (by omega) (by omega) (by omega)); (case kptFq41 => decide +kernel)); intro _ _))
  trivial
theorem raisedS_sub {base G : Heap} {l : List Env} {e t : Addr} {cls : Value} {vs : List Value} {news news' : List (Addr × Obj)} {h : Heap} (R : RaisedS base G l e cls t vs news h) (k : ∀ q ∈ news', q ∈ news) : RaisedS base G l e cls t vs news' h := by
  obtain ⟨⟨B, hB, h1, hl, hfl, hnew⟩, htup⟩ := R
  exact ⟨⟨B, hB, h1, fun q hq => hl q (k q hq), hfl, hnew⟩, htup⟩
theorem string1_ok (w : World) (f la : Addr) (b : Array UInt8) (t : Tok) (n : Nat) (ks : List Int) (x : Str) (rest : List (Addr × Obj)) (hS : Stm w f la rest) (hk : KBw.bInts b = ks) (hl : ks.length ≤ 16777216) (hr : ∀ q ∈ rest, q.1 ≠ la)
    (hX : 0 < ks.length → (ks.getD 0 0).toNat ≤ (ks.drop 1).length → x ∈ five ∧ (ks.drop 1).take (ks.getD 0 0).toNat = codes x) :
    CallOkE w 35 [.ref f] ((la, listOf #[.bytes b t] n) :: rest) 18 1500
      (fun r led => 0 < ks.length ∧ (ks.getD 0 0).toNat ≤ ks.length - 1 ∧ ∃ t1 b2 t2 n', r = .str x t1 ∧ KBw.bInts b2 = (ks.drop 1).drop (ks.getD 0 0).toNat ∧ led = (la, listOf #[.bytes b2 t2] n') :: rest)
      (fun vs led => ∃ t1 b2 t2 n', led = (la, listOf #[.bytes b2 t2] n') :: rest ∧ KBw.bInts b2 = [] ∧ vs = [.str (if ks.length = 0 then Str.ofString "not enough data in stream to read uint1" else shortMsg (ks.getD 0 0) ((ks.length - 1 : Nat) : Int)) t1] ∧ (ks.length = 0 ∨ ks.length - 1 < (ks.getD 0 0).toNat)) := by
  have hS0 := hS
  obtain ⟨o, fd, D, oD, rr, m1, c1, c2, c3, m2, ns, hR, ro, fdr, m3, c4⟩ := hS
  have hb := KBw.getD_in (ks := ks) (j := 0) (fun k hk9 => by rw [← hk] at hk9; exact KBw.ints_in hk9)
  have h0 := hb.1
  have h1 := hb.2
  clear hb
  have hl1 : (ks.drop 1).length ≤ 16777216 := by rw [List.length_drop]; omega
  unfold CallOkE
  k_fill
  intro loose mean mg mb p dp un gd cn cs a ccd cl outer A₀ base h₀ L m sh sg sd st so Q E B F X N T hk' hd1 hu hret hexc
  refine wpAny_call ?_
  k_dflt (refine' code_defL (bs := [(Str.ofString "f", .ref f)]) ?k1 ?k2 ?k3 ?k4 ?k5 ?kA ?kF ?kK ?k6 ?k7 ?k8 ?k9 ?kB ?kL ?_ ?c2 ?c3 ?c4 ?c5; (case kA => exact rfl); (case kF => exact rfl); (case kK => assumption); (case k1 => k_asm); (case k2 => k_asm); (case k3 => k_asm); (case k4 => k_asm); (case k5 => k_asm); (case k6 => k_is); (case k7 => k_is); (case k8 => ktr_room); (case k9 => exact BindsTo.of_eq rfl); (case c5 => decide); (case kB => exact locs rfl); (case kL => exact rfl); (case c2 => exact rfl); (case c3 => exact rfl); (case c4 => exact rfl); k_whole; intro _ _ _ _ _ _ _ BE _ _; (try dsimp only); (try k_lift BE); (try k_fold))
  k_extra "unf"
  · rename ks = [] => h9
    (rename KBw.bInts _ = ([] : List Int) => h7); (rename RaisedS _ _ _ _ _ _ _ _ _ => hR9)
    exact hexc _ _ _ _ _ _ _ ⟨_, _, _, _, rfl, h7, by rw [if_pos (by rw [h9]; rfl)], .inl (by rw [h9]; rfl)⟩ hR9 (by assumption) (by assumption)
  · rename ((_ : Nat) : Int) = _ => h9
    rename 0 < ks.length => h8
    have h7 : (ks.getD 0 0).toNat ≤ ks.length - 1 := by omega
    obtain ⟨hx, hd⟩ := hX h8 (by rw [List.length_drop]; exact h7)
    (rename KBw.bInts _ = List.take _ _ => e1)
    refine latDec hx (e1.trans hd) ?_
    intro t' k'
    k_extra "unf"
    exact hret _ _ _ _ ⟨h8, h7, _, _, _, _, rfl, by assumption, rfl⟩ (by assumption) (by assumption)
  · rename ((_ : Nat) : Int) ≠ _ => h9
    rename 0 < ks.length => h8
    have h7 : ks.length - 1 < (ks.getD 0 0).toNat := by omega
    have h6 : min (ks.getD 0 0).toNat (ks.length - 1) = ks.length - 1 := by omega
    (rename KBw.bInts _ = List.drop _ (List.drop 1 ks) => e1); (rename RaisedS _ _ _ _ _ _ _ _ _ => hR9)
    rw [List.drop_of_length_le (by rw [List.length_drop]; omega)] at e1
    rw [h6] at hR9
    exact hexc _ _ _ _ _ _ _ ⟨_, _, _, _, rfl, e1, by rw [if_neg (by omega)], .inr h7⟩ (raisedS_sub hR9 fun q hq => .tail _ hq) (by assumption) (by assumption)
end
section
theorem wl_16 : True := by
  k_with "call ref cons nil" => ((k_here; (with_reducible show wpAny _ _ (call (Value.ref 28) _) _ _ _); (refine' call_useE (uint1_ok _ _ _ _ _ _ _ _ ?hsq42 ?hkq42 ?hlq42 ?hrq42) ?Bq42 ?Fq42 ?Xq42 (Del.news ?Dq42 ?Nq42) ?Tq42 ?hkkq42 ?hdq42 ?huq42 ?grq42 ?geq42; (case Bq42 => k_asm); (case Fq42 => k_asm); (case Xq42 => k_asm); (case Nq42 => k_asm); (case Dq42 => k_upd); (case Tq42 => k_asm); (case hsq42 => with_reducible assumption); (case hkq42 => with_reducible assumption); (case hlq42 => with_reducible assumption); (case hrq42 => first | assumption | k_all); (case hkkq42 => first | exact rfl | assumption); (case hdq42 => ktr_room); (case huq42 => ktr_units)); (case' grq42 => (rintro _ led9w8 h'w8 tk'w8 ⟨e5w8, t1w8, b2w8, t2w8, n'w8, e8w8, e7w8, e9w8⟩ F'w8 _; subst e8w8; subst e9w8; (try dsimp only); (try k_sweep); (try k_fold))); (case' geq42 => (rintro e9w8 _ _ led9w8 h'w8 tk'w8 _ ⟨e5w8, t1w8, b2w8, t2w8, n'w8, e8w8, e7w8, e6w8⟩ _ F'w8 _; subst e8w8; subst e6w8; (try dsimp only); (try k_sweep); (try k_fold)))))
  k_with "unf" => (repeat' (first | (k_unfold; (try dsimp only)) | ((first | (with_reducible show wpAny _ _ (execs _ _) _ _ _) | (with_reducible show wpAny _ _ (call _ _) _ _ _) | (with_reducible show wpAny _ _ (isTrue _ _ _) _ _ _) | (with_reducible show wpAny _ _ (truthy _) _ _ _)); k_fold) | ((fail_if_success first | (with_reducible show wpAny _ _ (binaryOp Operator.Mod _ _) _ _ _) | (with_reducible show KswEnd _ _ _ _ _ _ _ _ _ _ _ _) | (with_reducible show FlEnd _ _ _ _ _ _ _ _ _ _ _ _) | (with_reducible show F1End _ _ _ _ _ _ _ _ _ _ _) | (with_reducible show wpAny _ _ (exec (Stmt.While _ _ _ _) _) _ _ _) | (with_reducible show wpAny _ _ (exec (Stmt.For _ _ _ _ _) _) _ _ _) | (with_reducible show wpAny _ _ (pyIter _) (fun it s₂ => LoopAtV _ _ _ _ _ _ _ _ _ it s₂) _ _) | (with_reducible show wpAny _ _ (eval (PySem.Expr.ListComp _ _ _ _) _) _ _ _) | (with_reducible show LCg.CompSrc _ _ _ _ _ _ _ _ _ _ _ _ _ _) | (with_reducible show LCt.CompSrcT _ _ _ _ _ _ _ _ _ _ _ _ _ _ _) | (with_reducible show LCg.CompEnd _ _ _ _ _ _ _ _ _ _ _ _ _ _)); first | (dsimp only; first | ((with_reducible show _ ∧ _); with_reducible (k_extra "own And")) | ((with_reducible show wpAny _ _ (binaryOp Operator.Add (Value.bytes _ _) (Value.bytes _ _)) _ _ _); with_reducible (k_extra "own binaryOp Add bytes bytes")) | ((with_reducible show wpAny _ _ (binaryOp Operator.Add (Value.ref _) (Value.ref _)) _ _ _); with_reducible (k_extra "own binaryOp Add ref ref")) | ((with_reducible show wpAny _ _ (binaryOp Operator.Mod (Value.str _ _) (Value.ref _)) _ _ _); with_reducible (k_extra "own binaryOp Mod str ref")) | ((with_reducible show wpAny _ _ (binaryOp Operator.RShift _ _) _ _ _); with_reducible (k_extra "own binaryOp RShift int int")) | ((with_reducible show wpAny _ _ (eval (PySem.Expr.Name _ _) _) _ _ _); with_reducible (k_extra "own eval Name")) | ((with_reducible show wpAny _ _ (exec (Stmt.Raise _ _ _) _) _ _ _); with_reducible (k_extra "own exec Raise some none")) | ((with_reducible show wpAny _ _ (getMethod (Value.bytes _ _) _ _) _ _ _); with_reducible (k_extra "own getMethod bytes")) | ((with_reducible show wpAny _ _ (getMethod (Value.ref _) _ _) _ _ _); with_reducible (k_extra "own getMethod ref")) | ((with_reducible show wpAny _ _ (getMethod (Value.str _ _) _ _) _ _ _); with_reducible (k_extra "own getMethod str")) | ((with_reducible show wpAny _ _ (leaving _ _) _ _ _); k_extra "own leaving ref") | ((with_reducible show wpAny _ _ (subscriptTail _ (PySem.Expr.Slice _ _ _ _) (Value.ref _) _) _ _ _); with_reducible (k_extra "own subscriptTail Name Slice ref ref")) | ((with_reducible show wpAny _ _ (truthy (Value.ref _)) _ _ _); with_reducible (k_extra "own truthy ref")) | walk1) | ((with_reducible show _ ∧ _); with_reducible (k_extra "own And")) | ((with_reducible show wpAny _ _ (binaryOp Operator.Add (Value.bytes _ _) (Value.bytes _ _)) _ _ _); with_reducible (k_extra "own binaryOp Add bytes bytes")) | ((with_reducible show wpAny _ _ (binaryOp Operator.Add (Value.ref _) (Value.ref _)) _ _ _); with_reducible (k_extra "own binaryOp Add ref ref")) | ((with_reducible show wpAny _ _ (binaryOp Operator.Mod (Value.str _ _) (Value.ref _)) _ _ _); with_reducible (k_extra "own binaryOp Mod str ref")) | ((with_reducible show wpAny _ _ (binaryOp Operator.RShift _ _) _ _ _); with_reducible (k_extra "own binaryOp RShift int int")) | ((with_reducible show wpAny _ _ (eval (PySem.Expr.Name _ _) _) _ _ _); with_reducible (k_extra "own eval Name")) | ((with_reducible show wpAny _ _ (exec (Stmt.Raise _ _ _) _) _ _ _); with_reducible (k_extra "own exec Raise some none")) | ((with_reducible show wpAny _ _ (getMethod (Value.bytes _ _) _ _) _ _ _); with_reducible (k_extra "own getMethod bytes")) | ((with_reducible show wpAny _ _ (getMethod (Value.ref _) _ _) _ _ _); with_reducible (k_extra "own getMethod ref")) | ((with_reducible show wpAny _ _ (getMethod (Value.str _ _) _ _) _ _ _); with_reducible (k_extra "own getMethod str")) | ((with_reducible show wpAny _ _ (leaving _ _) _ _ _); k_extra "own leaving ref") | ((with_reducible show wpAny _ _ (subscriptTail _ (PySem.Expr.Slice _ _ _ _) (Value.ref _) _) _ _ _); with_reducible (k_extra "own subscriptTail Name Slice ref ref")) | ((with_reducible show wpAny _ _ (truthy (Value.ref _)) _ _ _); with_reducible (k_extra "own truthy ref")) | walk1 | (leave1; walk_say "STEP leave1"; try dsimp only) | fail "no step")))
  trivial
theorem bytes1_ok (w : World) (f la : Addr) (b : Array UInt8) (t : Tok) (n : Nat) (ks : List Int) (rest : List (Addr × Obj)) (hS : Stm w f la rest) (hk : KBw.bInts b = ks) (hl : ks.length ≤ 16777216) (hr : ∀ q ∈ rest, q.1 ≠ la)
    (hX : 0 < ks.length → (ks.getD 0 0).toNat ≤ ks.length - 1) :
    CallOkE w 42 [.ref f] ((la, listOf #[.bytes b t] n) :: rest) 18 1500
      (fun r led => 0 < ks.length ∧ ∃ b1 t1 b2 t2 n', r = .bytes b1 t1 ∧ KBw.bInts b1 = (ks.drop 1).take (ks.getD 0 0).toNat ∧ KBw.bInts b2 = (ks.drop 1).drop (ks.getD 0 0).toNat ∧ led = (la, listOf #[.bytes b2 t2] n') :: rest)
      (fun vs led => ks = [] ∧ ∃ t1 b2 t2 n', led = (la, listOf #[.bytes b2 t2] n') :: rest ∧ KBw.bInts b2 = [] ∧ vs = [.str (Str.ofString "not enough data in stream to read uint1") t1]) := by
  have hS0 := hS
  obtain ⟨o, fd, D, oD, rr, m1, c1, c2, c3, m2, ns, hR, ro, fdr, m3, c4⟩ := hS
  have hb := KBw.getD_in (ks := ks) (j := 0) (fun k hk9 => by rw [← hk] at hk9; exact KBw.ints_in hk9)
  have h0 := hb.1
  have h1 := hb.2
  clear hb
  have hl1 : (ks.drop 1).length ≤ 16777216 := by rw [List.length_drop]; omega
  unfold CallOkE
  k_fill
  intro loose mean mg mb p dp un gd cn cs a ccd cl outer A₀ base h₀ L m sh sg sd st so Q E B F X N T hk' hd1 hu hret hexc
  refine wpAny_call ?_
  k_dflt (refine' code_defL (bs := [(Str.ofString "f", .ref f)]) ?k1 ?k2 ?k3 ?k4 ?k5 ?kA ?kF ?kK ?k6 ?k7 ?k8 ?k9 ?kB ?kL ?_ ?c2 ?c3 ?c4 ?c5; (case kA => exact rfl); (case kF => exact rfl); (case kK => assumption); (case k1 => k_asm); (case k2 => k_asm); (case k3 => k_asm); (case k4 => k_asm); (case k5 => k_asm); (case k6 => k_is); (case k7 => k_is); (case k8 => ktr_room); (case k9 => exact BindsTo.of_eq rfl); (case c5 => decide); (case kB => exact locs rfl); (case kL => exact rfl); (case c2 => exact rfl); (case c3 => exact rfl); (case c4 => exact rfl); k_whole; intro _ _ _ _ _ _ _ BE _ _; (try dsimp only); (try k_lift BE); (try k_fold))
  k_extra "unf"
  · rename ks = [] => h9
    (rename KBw.bInts _ = ([] : List Int) => h7); (rename RaisedS _ _ _ _ _ _ _ _ _ => hR9)
    exact hexc _ _ _ _ _ _ _ ⟨h9, _, _, _, _, rfl, h7, rfl⟩ hR9 (by assumption) (by assumption)
  · rename 0 < ks.length => h8
    exact hret _ _ _ _ ⟨h8, _, _, _, _, _, rfl, by assumption, by assumption, rfl⟩ (by assumption) (by assumption)
  · rename ((_ : Nat) : Int) ≠ _ => h9
    rename 0 < ks.length => h8
    have h7 := hX h8
    exact (h9 (by omega)).elim
end
theorem wl_17 : True := by
  k_with "setItem ref int str" => ((k_here; (with_reducible show wpAny _ _ (setItem (Value.ref _) (Value.int _ _) (Value.str _ _)) _ _ _); k_dflt (refine' sa_set ?k1q43 ?k2q43 ?k3q43 ?k4q43 ?k5q43 ?k6q43 ?k7q43 ?_; (case k1q43 => k_asm); (case k2q43 => k_asm); (case k3q43 => k_upd); (case k4q43 => with_reducible assumption); (case k5q43 => omega); (case k6q43 => omega); (case k7q43 => omega); k_whole); intro _ _ _ _ _; (try k_sweep)))
  k_with "call builtin:len cons nil" => ((k_here; (with_reducible show wpAny _ _ (call (Value.builtin "len") [Value.ref _]) _ _ _); k_dflt (refine' sa_len ?k1q44 ?k2q44 ?k3q44 ?k4q44 ?_; (case k1q44 => k_asm); (case k2q44 => k_mem); (case k3q44 => with_reducible assumption); (case k4q44 => omega); k_whole)))
  k_with "own binaryOp RShift int int" => ((k_here; (refine rsh1 ?_)))
  k_with "compareOp Lt str str" => ((k_here; (refine lt_s ?_)))
  k_with "compareOp Gt str str" => ((k_here; (refine gt_s ?_)))
  k_with "unf" => (repeat' (first | (k_unfold; (try dsimp only)) | ((first | (with_reducible show wpAny _ _ (execs _ _) _ _ _) | (with_reducible show wpAny _ _ (call _ _) _ _ _) | (with_reducible show wpAny _ _ (isTrue _ _ _) _ _ _) | (with_reducible show wpAny _ _ (truthy _) _ _ _)); k_fold) | ((fail_if_success first | (with_reducible show KswEnd _ _ _ _ _ _ _ _ _ _ _ _) | (with_reducible show FlEnd _ _ _ _ _ _ _ _ _ _ _ _) | (with_reducible show F1End _ _ _ _ _ _ _ _ _ _ _) | (with_reducible show wpAny _ _ (exec (Stmt.While _ _ _ _) _) _ _ _) | (with_reducible show wpAny _ _ (exec (Stmt.For _ _ _ _ _) _) _ _ _) | (with_reducible show wpAny _ _ (pyIter _) (fun it s₂ => LoopAtV _ _ _ _ _ _ _ _ _ it s₂) _ _) | (with_reducible show wpAny _ _ (eval (PySem.Expr.ListComp _ _ _ _) _) _ _ _) | (with_reducible show LCg.CompSrc _ _ _ _ _ _ _ _ _ _ _ _ _ _) | (with_reducible show LCt.CompSrcT _ _ _ _ _ _ _ _ _ _ _ _ _ _ _) | (with_reducible show LCg.CompEnd _ _ _ _ _ _ _ _ _ _ _ _ _ _)); first | (dsimp only; first | ((with_reducible show _ ∧ _); with_reducible (k_extra "own And")) | ((with_reducible show wpAny _ _ (binaryOp Operator.Add (Value.bytes _ _) (Value.bytes _ _)) _ _ _); with_reducible (k_extra "own binaryOp Add bytes bytes")) | ((with_reducible show wpAny _ _ (binaryOp Operator.Add (Value.ref _) (Value.ref _)) _ _ _); with_reducible (k_extra "own binaryOp Add ref ref")) | ((with_reducible show wpAny _ _ (binaryOp Operator.Mod (Value.str _ _) (Value.ref _)) _ _ _); with_reducible (k_extra "own binaryOp Mod str ref")) | ((with_reducible show wpAny _ _ (binaryOp Operator.RShift _ _) _ _ _); with_reducible (k_extra "own binaryOp RShift int int")) | ((with_reducible show wpAny _ _ (eval (PySem.Expr.Name _ _) _) _ _ _); with_reducible (k_extra "own eval Name")) | ((with_reducible show wpAny _ _ (exec (Stmt.Raise _ _ _) _) _ _ _); with_reducible (k_extra "own exec Raise some none")) | ((with_reducible show wpAny _ _ (getMethod (Value.bytes _ _) _ _) _ _ _); with_reducible (k_extra "own getMethod bytes")) | ((with_reducible show wpAny _ _ (getMethod (Value.ref _) _ _) _ _ _); with_reducible (k_extra "own getMethod ref")) | ((with_reducible show wpAny _ _ (getMethod (Value.str _ _) _ _) _ _ _); with_reducible (k_extra "own getMethod str")) | ((with_reducible show wpAny _ _ (leaving _ _) _ _ _); k_extra "own leaving ref") | ((with_reducible show wpAny _ _ (subscriptTail _ (PySem.Expr.Slice _ _ _ _) (Value.ref _) _) _ _ _); with_reducible (k_extra "own subscriptTail Name Slice ref ref")) | ((with_reducible show wpAny _ _ (truthy (Value.ref _)) _ _ _); with_reducible (k_extra "own truthy ref")) | walk1) | ((with_reducible show _ ∧ _); with_reducible (k_extra "own And")) | ((with_reducible show wpAny _ _ (binaryOp Operator.Add (Value.bytes _ _) (Value.bytes _ _)) _ _ _); with_reducible (k_extra "own binaryOp Add bytes bytes")) | ((with_reducible show wpAny _ _ (binaryOp Operator.Add (Value.ref _) (Value.ref _)) _ _ _); with_reducible (k_extra "own binaryOp Add ref ref")) | ((with_reducible show wpAny _ _ (binaryOp Operator.Mod (Value.str _ _) (Value.ref _)) _ _ _); with_reducible (k_extra "own binaryOp Mod str ref")) | ((with_reducible show wpAny _ _ (binaryOp Operator.RShift _ _) _ _ _); with_reducible (k_extra "own binaryOp RShift int int")) | ((with_reducible show wpAny _ _ (eval (PySem.Expr.Name _ _) _) _ _ _); with_reducible (k_extra "own eval Name")) | ((with_reducible show wpAny _ _ (exec (Stmt.Raise _ _ _) _) _ _ _); with_reducible (k_extra "own exec Raise some none")) | ((with_reducible show wpAny _ _ (getMethod (Value.bytes _ _) _ _) _ _ _); with_reducible (k_extra "own getMethod bytes")) | ((with_reducible show wpAny _ _ (getMethod (Value.ref _) _ _) _ _ _); with_reducible (k_extra "own getMethod ref")) | ((with_reducible show wpAny _ _ (getMethod (Value.str _ _) _ _) _ _ _); with_reducible (k_extra "own getMethod str")) | ((with_reducible show wpAny _ _ (leaving _ _) _ _ _); k_extra "own leaving ref") | ((with_reducible show wpAny _ _ (subscriptTail _ (PySem.Expr.Slice _ _ _ _) (Value.ref _) _) _ _ _); with_reducible (k_extra "own subscriptTail Name Slice ref ref")) | ((with_reducible show wpAny _ _ (truthy (Value.ref _)) _ _ _); with_reducible (k_extra "own truthy ref")) | walk1 | (leave1; walk_say "STEP leave1"; try dsimp only) | fail "no step")))
  k_with "call builtin:list.append cons nil" => ((k_here; (with_reducible show wpAny _ _ (call (Value.builtin _) [Value.ref _, Value.str _ _]) _ _ _); k_dflt (refine' sa_append ?k1q48 ?k2q48 ?k3q48 ?k4q48 ?k5q48 ?_; (case k1q48 => k_asm); (case k2q48 => k_asm); (case k3q48 => k_upd); (case k4q48 => with_reducible assumption); (case k5q48 => omega); k_whole); intro _ _ _ _ _; (try k_sweep)))
  k_with "call builtin:list.pop cons nil" => ((k_here; (with_reducible show wpAny _ _ (call (Value.builtin _) [Value.ref _]) _ _ _); k_dflt (refine' sa_pop ?k1q49 ?k2q49 ?k3q49 ?k4q49 ?k5q49 ?k6q49 ?_; (case k1q49 => k_asm); (case k2q49 => k_asm); (case k3q49 => k_upd); (case k4q49 => with_reducible assumption); (case k5q49 => omega); (case k6q49 => omega); k_whole); intro _ _ _ _ _ _; (try k_sweep)))
  k_with "own truthy ref" => ((k_here; (with_reducible show wpAny _ _ (truthy (Value.ref _)) _ _ _); k_dflt (refine' sa_truthy ?k1q50 ?k2q50 ?k3q50 ?k4q50 ?_; (case k1q50 => k_asm); (case k2q50 => k_mem); (case k3q50 => with_reducible assumption); (case k4q50 => omega); k_whole)))
  k_with "F1Post nil next" => ((dsimp only [F1Post]))
  k_with "FlPost cons next" => ((dsimp only [FlPost]))
  k_with "own eval Name" => ((k_here; (with_reducible show wpAny _ _ (eval (Expr.Name _ _) (envOfC _ _ _ _ _)) _ _ _); k_dflt (refine' nameX_C ?Nq53 ?cq53 ?mq53 ?dq53 ?_ ?aq53 ?bq53; (case aq53 => rfl); (case bq53 => rfl); (case cq53 => exact rfl); (case Nq53 => k_asm); (case mq53 => first | (refine List.mem_cons_of_mem _ ?_; with_reducible assumption) | k_mem); (case dq53 => with_reducible assumption); k_whole)))
  trivial
theorem wl_18 : True := by
  k_with "callWith ref nil nil" => ((k_here; k_dflt (refine' callWith_F ?k1q54 ?_; (case k1q54 => exact fnAt_mem (by k_asm) (List.mem_cons_of_mem _ (by with_reducible assumption)) (by with_reducible assumption)); k_whole)))
  k_with "FnAt" => ((k_dflt (exact fnAt_mem (by k_asm) (List.mem_cons_of_mem _ (by with_reducible assumption)) (by with_reducible assumption))))
  k_with "call ref cons nil" => ((k_here; (with_reducible show wpAny _ _ (call (Value.ref _) [Value.int _ _]) _ _ _); (rename Reads _ _ _ _ => hR9w8); (refine' call_use (hR9w8 _ (fun _ h => h) ?hrq56 _ _ _ _ _ _ ?h0q56 ?hkq56 ?hlq56) ?Bq56 ?Fq56 ?Xq56 (Del.news ?Dq56 ?Nq56) ?Tq56 ?hkkq56 ?hdq56 ?huq56 ?_; (case Bq56 => k_asm); (case Fq56 => k_asm); (case Xq56 => k_asm); (case Nq56 => k_asm); (case Dq56 => k_upd); (case Tq56 => k_asm); (case h0q56 => first | decide | with_reducible assumption); (case hkq56 => with_reducible assumption); (case hlq56 => with_reducible assumption); (case hrq56 => first | assumption | k_all); (case hkkq56 => first | exact rfl | assumption); (case hdq56 => ktr_room); (case huq56 => ktr_units)); (rintro _ _ _ _ ⟨_, _, _, _, _, e8w8, _, _, e9w8⟩ _ _; subst e8w8; subst e9w8); (try dsimp only); (try k_sweep); (try k_fold)))
  k_with "own getMethod ref" => ((k_here; (with_reducible show wpAny _ _ (getMethod (Value.ref _) (Str.ofString "read") _) _ _ _); k_dflt (refine' fn_methK ?Nq57 ?mq57 ?cq57 ?dnq57 ?ncq57 ?Dq57 fn_noRead ?nsq57 ?vq57 ?hhq57 ?_; (case Nq57 => k_asm); (case mq57 => refine List.mem_cons_of_mem _ ?_; with_reducible assumption); (case cq57 => with_reducible assumption); (case dnq57 => with_reducible assumption); (case ncq57 => with_reducible assumption); (case Dq57 => refine List.mem_cons_of_mem _ ?_; with_reducible assumption); (case nsq57 => with_reducible assumption); (case vq57 => exact if_pos rfl); (case hhq57 => rfl)); intro _; (try dsimp only)))
  k_with "own leaving ref" => ((k_here; first
  | (refine' leave_raiseS ?k1q58 ?k0q58 ?k2q58 ?k3q58 ?_; (case k0q58 => first | assumption | exact Heap.MadeExc.of (by assumption)); (case k2q58 => assumption); (case k1q58 => assumption); (case k3q58 => k_asm); k_whole; intro h'w8 _ S'w8 R'w8 U'w8; (try dsimp only at S'w8 R'w8 U'w8 ⊢))
  | (refine' leave_onS ?k1q58 ?k2q58 ?k3q58 ?k4q58 ?_; (case k3q58 => assumption); (case k2q58 => assumption); (case k1q58 => assumption); (case k4q58 => assumption); k_whole; intro h'w8 S'w8 R'w8 U'w8; (try dsimp only at S'w8 R'w8 U'w8 ⊢))))
  k_with "own exec Raise some none" => ((k_here; (with_reducible show wpAny _ _ (exec (Stmt.Raise (some (Expr.Call (Expr.Name (Str.ofString "ValueError") _) (_ :: _) [] _)) none _) _) _ _ _); k_dflt (refine' Raise_madeB PySem.F.excCall_ValueError PySem.F.excRaise_ValueError ?hhq59 ?_; (case hhq59 => rfl); (refine' nameX_B ?Fq59 ?Xq59 ?Tq59 ?eq59 PyProof.Rows.Boot.«ValueError» ?nq59 ⟨rfl, ?_⟩ ?aq59 ?bq59; (case Fq59 => k_asm); (case Xq59 => k_asm); (case Tq59 => k_asm); (case aq59 => rfl); (case bq59 => rfl); (case eq59 => k_is); (case nq59 => decide)))))
  k_with "own And" => (((with_reducible show _ ≤ sizeLine ∧ _); k_dflt (refine ⟨by first | size_fits | (rw [sizeLine_eq]; decide), ?_⟩); intro _ _ _))
  trivial
section
/-- as CallOk, for a def that may catch what a def below it raised: the ground turns -/
noncomputable def CallOkT (w : World) (f : Addr) (args : List Value) (led : List (Addr × Obj)) (d u : Nat) (post : Value → List (Addr × Obj) → Prop) : Prop :=
  ∀ (loose : List Str) (mean : ExcName → Option Value) (mg mb : Str → Option Value) (p : Program) (dp un : Nat) (gd : Option (List Code)) (cn : Str) (cs : Scope) (a : Addr) (ccd : Value) (cl : List (Str × Addr)) (outer : List Env) (A₀ : Around) (base h₀ : Heap) (L : Addr) (m : Str → Option Value) (sh : Heap) (sg : Array GenState) (sd : Drawn) (st : Nat) (so : OsState) (Q E : Value → Shared → Prop),
    Below A₀ base outer h₀ → Fr h₀ L sh m → (frag w.params).In h₀ → News h₀ L sh led → Top p loose mean mg mb h₀ → (frag w.params).In base → Top p loose mean mg mb base → KtsDicts (outer.filterMap (·.frame)) h₀ → CodeHd base 228 224 → cs.kind = .function → dp + d < recursionLimit → un + u < cLine →
    (∀ r led' h' tk' h₁, post r led' → KtsTurn (outer.filterMap (·.frame)) h₀ h₁ → Fr h₁ L h' m → News h₁ L h' led' → Below A₀ base outer h₁ → (frag w.params).In h₁ → Top p loose mean mg mb h₁ → KtsDicts (outer.filterMap (·.frame)) h₁ → Q r ⟨h', sg, sd, tk', so⟩) →
    wpAny (model PySem.Challenge.rw_in0117_01.prog w) (ktrTop dp un gd cn cs L a ccd cl outer) (call (.ref f) args) Q E ⟨sh, sg, sd, st, so⟩
/-- the bytes hold one whole piece: its length and that many more -/
noncomputable def okAt (ks : List Int) : Bool := decide (0 < ks.length) && decide ((ks.getD 0 0).toNat ≤ ks.length - 1)
noncomputable def nextK (ks : List Int) : List Int := if okAt ks then (ks.drop 1).drop (ks.getD 0 0).toNat else []
/-- the contract of a reader of one piece: it gives a G and leaves the rest, or it raises with msg and leaves nothing -/
noncomputable def ReadOk (w : World) (g : Addr) (ks : List Int) (G : Value → Prop) (msg : Str) : Prop :=
  keepIn (frag w.params) (.ref g) = true ∧ ∀ (f la : Addr) (b : Array UInt8) (t : Tok) (n : Nat) (rest : List (Addr × Obj)), Stm w f la rest → KBw.bInts b = ks → (∀ q ∈ rest, q.1 ≠ la) →
    CallOkE w g [.ref f] ((la, listOf #[.bytes b t] n) :: rest) 18 1500
      (fun r led => okAt ks = true ∧ ∃ b2 t2 n', G r ∧ KBw.bInts b2 = nextK ks ∧ led = (la, listOf #[.bytes b2 t2] n') :: rest)
      (fun vs led => okAt ks = false ∧ ∃ t1 b2 t2 n', led = (la, listOf #[.bytes b2 t2] n') :: rest ∧ KBw.bInts b2 = nextK ks ∧ vs = [.str msg t1])
theorem wl_19 : True := by
  k_with "callWith ref nil nil" => ((k_here; (with_reducible show wpAny _ _ (callWith _ (Value.ref _) _ (backTo _ (starEach (_ :: _) _)) []) _ _ _); (rename ReadOk _ _ _ _ _ => hR9w8); k_dflt (refine' callWith_K ?k1q61 hR9w8.1 ?_; (case k1q61 => k_asm); k_whole)))
  k_with "call ref cons nil" => ((k_here; (with_reducible show wpAny _ _ (call (Value.ref _) [Value.ref _]) _ _ _); (rename ReadOk _ _ _ _ _ => hR9w8); (refine' call_useE (hR9w8.2 _ _ _ _ _ _ ?hsq62 ?hkq62 ?hrq62) ?Bq62 ?Fq62 ?Xq62 (Del.news ?Dq62 ?Nq62) ?Tq62 ?hkkq62 ?hdq62 ?huq62 ?grq62 ?geq62; (case Bq62 => k_asm); (case Fq62 => k_asm); (case Xq62 => k_asm); (case Nq62 => k_asm); (case Dq62 => k_upd); (case Tq62 => k_asm); (case hsq62 => with_reducible assumption); (case hkq62 => with_reducible assumption); (case hrq62 => first | assumption | k_all); (case hkkq62 => first | exact rfl | assumption); (case hdq62 => ktr_room); (case huq62 => ktr_units)); (case' grq62 => (rintro _ led9w8 h'w8 tk'w8 ⟨e5w8, b2w8, t2w8, n'w8, _, e7w8, e9w8⟩ F'w8 _; subst e9w8; (try dsimp only); (try k_sweep); (try k_fold))); (case' geq62 => (rintro e9w8 _ _ led9w8 h'w8 tk'w8 _ ⟨e5w8, _, b2w8, t2w8, n'w8, e8w8, e7w8, e6w8⟩ _ F'w8 _; subst e8w8; subst e6w8; (try dsimp only); (try k_sweep); (try k_fold)))))
  trivial
theorem news_swap {h₀ h : Heap} {L : Addr} {x y : Addr × Obj} {l : List (Addr × Obj)} (N : News h₀ L h (x :: y :: l)) : News h₀ L h (y :: x :: l) := fun q hq => N q (by
  revert q; repeat' (first | with_reducible refine List.forall_mem_cons.mpr ⟨?_, ?_⟩ | (intro _ hS9; (repeat (first | with_reducible exact hS9 | with_reducible refine List.mem_cons_of_mem _ ?_)); done) | with_reducible refine List.forall_mem_append.mpr ⟨?_, ?_⟩ | ((repeat (first | with_reducible exact List.mem_cons_self | with_reducible refine List.mem_cons_of_mem _ ?_)); done) | with_reducible exact fun _ h => absurd h List.not_mem_nil))
theorem told_ok (w : World) (g f la : Addr) (b : Array UInt8) (t : Tok) (n : Nat) (ks : List Int) (G : Value → Prop) (msg : Str) (rest : List (Addr × Obj)) (hR : ReadOk w g ks G msg) (hS : Stm w f la rest) (hk : KBw.bInts b = ks) (hr : ∀ q ∈ rest, q.1 ≠ la) :
    CallOkT w 236 [.ref g, .ref f] ((la, listOf #[.bytes b t] n) :: rest) 24 2000
      (fun r led => ∃ b2 t2 n', KBw.bInts b2 = nextK ks ∧ ((okAt ks = true ∧ G r ∧ led = (la, listOf #[.bytes b2 t2] n') :: rest) ∨
        (okAt ks = false ∧ ∃ D t1, r = .ref D ∧ led = (la, listOf #[.bytes b2 t2] n') :: (D, listOf #[.str msg t1] 0) :: rest ∧ D ≠ la ∧ ∀ q ∈ rest, q.1 ≠ D))) := by
  unfold CallOkT
  k_fill
  intro loose mean mg mb p dp un gd cn cs a ccd cl outer A₀ base h₀ L m sh sg sd st so Q E B F X N T XB TB D C hk' hd1 hu hret
  refine wpAny_call ?_
  k_dflt (refine' callS_plain (bs := [(Str.ofString "stream", .ref f), (Str.ofString "reader", .ref g)]) B F X N T XB TB D KtsTurn.refl rfl rfl hk' ?k6 ?k7 ?k8 ?k9 ?kB ?kL ?_ ?c2 ?c3 ?c4 ?c5; (case k6 => k_is); (case k7 => k_is); (case k8 => ktr_room); (case k9 => exact BindsTo.of_eq rfl); (case kB => exact locs rfl); (case kL => exact rfl); (case c2 => exact rfl); (case c3 => exact rfl); (case c4 => exact rfl); (case c5 => decide); k_whole; intro g' L' h' tk' FG' F' N' B' X' T' D'; (try dsimp only); (try k_fold))
  k_extra "unf"
  · (rename News _ L _ ((_, _) :: (la, _) :: _) => lN); (rename KtsTurn _ h₀ _ => lT); (rename KBw.bInts _ = nextK ks => e1)
    exact hret _ _ _ _ _ ⟨_, _, _, e1, .inr ⟨by assumption, _, _, rfl, rfl, (by refine neN ?_; omega), by k_all⟩⟩ lT (by assumption) (news_swap lN) (by assumption) (by assumption) (by assumption) (by assumption)
  · exact hret _ _ _ _ _ ⟨_, _, _, by assumption, .inl ⟨by assumption, by assumption, rfl⟩⟩ KtsTurn.refl (by assumption) (by assumption) B X T D
end
section
noncomputable def msgOf (ks : List Int) : Str := if ks.length = 0 then Str.ofString "not enough data in stream to read uint1" else shortMsg (ks.getD 0 0) ((ks.length - 1 : Nat) : Int)
theorem callOkE_mono {w : World} {f : Addr} {args : List Value} {led : List (Addr × Obj)} {d u : Nat} {post post' : Value → List (Addr × Obj) → Prop} {postE postE' : List Value → List (Addr × Obj) → Prop} (h : CallOkE w f args led d u post postE) (k : ∀ r led', post r led' → post' r led') (k' : ∀ r led', postE r led' → postE' r led') : CallOkE w f args led d u post' postE' :=
  fun _ _ _ _ _ _ _ _ _ _ _ _ _ _ _ _ _ _ _ _ _ _ _ _ _ _ B F X N T hk hd hu ret exc => h _ _ _ _ _ _ _ _ _ _ _ _ _ _ _ _ _ _ _ _ _ _ _ _ _ _ B F X N T hk hd hu (fun r led' h' tk' p => ret r led' h' tk' (k r led' p)) (fun e t vs led' h' tk' G p => exc e t vs led' h' tk' G (k' vs led' p))
theorem okAt_yes {ks : List Int} (h1 : 0 < ks.length) (h2 : (ks.getD 0 0).toNat ≤ ks.length - 1) : okAt ks = true ∧ nextK ks = (ks.drop 1).drop (ks.getD 0 0).toNat := by
  have ok : okAt ks = true := by
    unfold okAt
    simp only [Bool.and_eq_true, decide_eq_true_eq]
    exact ⟨h1, h2⟩
  refine ⟨ok, ?_⟩
  unfold nextK
  rw [if_pos ok]
theorem okAt_no {ks : List Int} (h : ks.length = 0 ∨ ks.length - 1 < (ks.getD 0 0).toNat) : okAt ks = false ∧ nextK ks = [] := by
  have ok : okAt ks = false := by
    unfold okAt
    rw [Bool.and_eq_false_iff]
    rcases h with e1 | e1
    · left; rw [e1]; rfl
    · right; exact decide_eq_false (Nat.not_le.mpr e1)
  refine ⟨ok, ?_⟩
  unfold nextK
  rw [if_neg (by rw [ok]; exact Bool.false_ne_true)]
theorem string1_read {w : World} {ks : List Int} {x : Str} (hl : ks.length ≤ 16777216) (hX : okAt ks = true → x ∈ five ∧ (ks.drop 1).take (ks.getD 0 0).toNat = codes x) : ReadOk w 35 ks (fun v => ∃ t, v = .str x t) (msgOf ks) :=
  ⟨rfl, fun f la b t n rest hS hk hr => callOkE_mono (string1_ok w f la b t n ks x rest hS hk hl hr fun h1 h2 => hX (okAt_yes h1 (by rw [List.length_drop] at h2; exact h2)).1)
    (fun r led h9 => by
      obtain ⟨h1, h2, t1, b2, t2, n', e1, e2, e3⟩ := h9
      exact ⟨(okAt_yes h1 h2).1, b2, t2, n', ⟨t1, e1⟩, e2.trans (okAt_yes h1 h2).2.symm, e3⟩)
    (fun vs led h9 => by
      obtain ⟨t1, b2, t2, n', e1, e2, e3, e4⟩ := h9
      exact ⟨(okAt_no e4).1, t1, b2, t2, n', e1, e2.trans (okAt_no e4).2.symm, e3⟩)⟩
theorem bytes1_read {w : World} {ks : List Int} (hl : ks.length ≤ 16777216) (hX : 0 < ks.length → (ks.getD 0 0).toNat ≤ ks.length - 1) : ReadOk w 42 ks (fun v => ∃ b t, v = .bytes b t ∧ KBw.bInts b = (ks.drop 1).take (ks.getD 0 0).toNat) (Str.ofString "not enough data in stream to read uint1") :=
  ⟨rfl, fun f la b t n rest hS hk hr => callOkE_mono (bytes1_ok w f la b t n ks rest hS hk hl hr hX)
    (fun r led h9 => by
      obtain ⟨h1, b1, t1, b2, t2, n', e1, e0, e2, e3⟩ := h9
      exact ⟨(okAt_yes h1 (hX h1)).1, b2, t2, n', ⟨b1, t1, e1, e0⟩, e2.trans (okAt_yes h1 (hX h1)).2.symm, e3⟩)
    (fun vs led h9 => by
      obtain ⟨e4, t1, b2, t2, n', e1, e2, e3⟩ := h9
      have no := okAt_no (ks := ks) (.inl (by rw [e4]; rfl))
      exact ⟨no.1, t1, b2, t2, n', e1, e2.trans no.2.symm, e3⟩)⟩
end
section
/-- a mark that the walk stops at -/
noncomputable def Hold (P : Prop) : Prop := P
theorem hold_e {P : Prop} (h : Hold P) : P := h
theorem split_base {h₀ h : Heap} {L : Addr} {x : Addr × Obj} {B : List (Addr × Obj)} (N : News h₀ L h (x :: B)) : ∃ B', B' = B ∧ News h₀ L h (x :: B') := ⟨B, rfl, N⟩
noncomputable def TabAny (w : World) (tab : Obj) (R₀ : List (Addr × Obj)) : Prop := (∃ ps, tab = tabObj ps) ∧ ∀ R, (∀ q ∈ R₀, q ∈ R) → (∀ q ∈ R, q.1 ≠ 224) → ∀ b t, CallOkC w 229 [.bytes b t] ((224, tab) :: R) 6 300 (fun r led => ∃ tab' codes, TabS w tab' codes ∧ StreamPost w tab' codes R₀ R b t r led)
theorem tabAny_new (w : World) : TabAny w (tabObj #[]) [] := ⟨⟨_, rfl⟩, fun R _ h2 b t => stream_new w b t R h2⟩
theorem callOkC_mono {w : World} {f : Addr} {args : List Value} {led : List (Addr × Obj)} {d u : Nat} {post post' : Value → List (Addr × Obj) → Prop} (h : CallOkC w f args led d u post) (k : ∀ r led', post r led' → post' r led') : CallOkC w f args led d u post' :=
  fun _ _ _ _ _ _ _ _ _ _ _ _ _ _ _ _ _ _ _ _ _ _ _ _ _ _ B F X N T C hk hd hu ret => h _ _ _ _ _ _ _ _ _ _ _ _ _ _ _ _ _ _ _ _ _ _ _ _ _ _ B F X N T C hk hd hu fun r led' h' tk' p => ret r led' h' tk' (k r led' p)
theorem tabS_any {w : World} {tab : Obj} {codes : List (Addr × Obj)} (T : TabS w tab codes) : TabAny w tab codes := ⟨T.1, fun R h1 h2 b t => callOkC_mono (T.2 R h1 h2 b t) fun r led p => ⟨tab, codes, T, p⟩⟩
theorem wl_20 : True := by
  k_with "call ref cons nil" => ((k_here; (with_reducible show wpAny _ _ (call (Value.ref 229) _) _ _ _); (rename TabAny _ _ _ => tA9w8); (refine' call_useC (tA9w8.2 _ ?h1q63 ?h2q63 _ _) ?Bq63 ?Fq63 ?Xq63 (Del.news ?Dq63 ?Nq63) ?Tq63 ?Cq63 ?hkkq63 ?hdq63 ?huq63 ?_; (case Bq63 => k_asm); (case Fq63 => k_asm); (case Xq63 => k_asm); (case Nq63 => k_asm); (case Dq63 => k_upd); (case Tq63 => k_asm); (case Cq63 => assumption); (case h1q63 => first | (exact fun q hq => .tail _ (.tail _ (by assumption))) | exact fun q hq => .tail _ (.tail _ (‹∀ q ∈ _, q ∈ _› q hq))); (case h2q63 => first | assumption | k_all); (case hkkq63 => first | exact rfl | assumption); (case hdq63 => ktr_room); (case huq63 => ktr_units)); refine hold_e ?_))
  trivial
theorem stm_mono {w : World} {f la : Addr} {R R' : List (Addr × Obj)} (S : Stm w f la R) (k : ∀ q ∈ R, q ∈ R') : Stm w f la R' := by
  obtain ⟨o, fd, D, oD, r, m1, c1, c2, c3, m2, ns, hR, ro, fdr, m3, c4⟩ := S
  exact ⟨o, fd, D, oD, r, k _ m1, c1, c2, c3, k _ m2, ns, fun R2 h1 h2 => hR R2 (fun q hq => h1 q (k q hq)) h2, ro, fdr, k _ m3, c4⟩
/-- what is left after i reads -/
noncomputable def stK (ks : List Int) : Nat → List Int
  | 0 => ks
  | i + 1 => nextK (stK ks i)
/-- the i-th thing read: a G, or a list that holds a message -/
noncomputable def ItemG (G : Nat → Value → Prop) (msg : Nat → Str) (ks : List Int) (i : Nat) (v : Value) (led : List (Addr × Obj)) : Prop :=
  (okAt (stK ks i) = true ∧ G i v) ∨ (okAt (stK ks i) = false ∧ ∃ D t, v = .ref D ∧ (D, listOf #[.str (msg i) t] 0) ∈ led)
noncomputable def ItemsG (G : Nat → Value → Prop) (msg : Nat → Str) (ks : List Int) (ys : List Value) (led : List (Addr × Obj)) : Prop := ∀ i v, ys[i]? = some v → ItemG G msg ks i v led
theorem stK_len (ks : List Int) : ∀ i, (stK ks i).length ≤ ks.length
  | 0 => Nat.le_refl _
  | i + 1 => by
    show (nextK (stK ks i)).length ≤ _
    unfold nextK
    split
    · rw [List.length_drop, List.length_drop]; exact Nat.le_trans (by omega) (stK_len ks i)
    · exact Nat.zero_le _
theorem news_app {h₀ h : Heap} {L : Addr} {a b : List (Addr × Obj)} (A : News h₀ L h a) (B : News h₀ L h b) : News h₀ L h (a ++ b) := fun q hq => (List.mem_append.mp hq).elim (A q) (B q)
theorem range_size (many : Nat) : Builtin.Range.rangeSize 0 ((many : Int) + 1) 1 = ((many + 1 : Nat) : Int) := by
  unfold Builtin.Range.rangeSize
  rw [if_pos (by decide), if_pos (by omega)]
  simp
theorem items_snoc {G : Nat → Value → Prop} {msg : Nat → Str} {ks : List Int} {ys : List Value} {v : Value} {i : Nat} {led led' : List (Addr × Obj)} (h : ItemsG G msg ks ys led) (k : ∀ q ∈ led, q ∈ led') (e : ys.length = i) (hv : ItemG G msg ks i v led') : ItemsG G msg ks (ys ++ [v]) led' := fun j y hy => by
  rcases Nat.lt_or_ge j ys.length with hj | hj
  · rw [List.getElem?_append_left hj] at hy
    rcases h j y hy with h9 | ⟨h9, D, t, h8, h7⟩
    · exact .inl h9
    · exact .inr ⟨h9, D, t, h8, k _ h7⟩
  · rw [List.getElem?_append_right hj] at hy
    have : j - ys.length = 0 := by
      rcases Nat.eq_zero_or_pos (j - ys.length) with z | z
      · exact z
      · rw [List.getElem?_eq_none (by rw [List.length_singleton]; exact z)] at hy; cases hy
    rw [this] at hy
    have hj' : j = i := by omega
    rw [hj', ← Option.some.inj hy]
    exact hv
theorem items_mono {G : Nat → Value → Prop} {msg : Nat → Str} {ks : List Int} {ys : List Value} {led led' : List (Addr × Obj)} (h : ItemsG G msg ks ys led) (k : ∀ q ∈ led, q ∈ led') : ItemsG G msg ks ys led' := fun j y hy => by
  rcases h j y hy with h9 | ⟨h9, D, t, h8, h7⟩
  · exact .inl h9
  · exact .inr ⟨h9, D, t, h8, k _ h7⟩
theorem off3_of {I C D : Addr} : ∀ {l : List (Addr × Obj)}, (∀ p ∈ l, p.1 ≠ I ∧ p.1 ≠ C ∧ p.1 ≠ D) → LCg.Off3 I C D l
  | [], _ => trivial
  | _ :: _, h => ⟨h _ (.head _), off3_of fun p hp => h p (.tail _ hp)⟩
theorem comp_end {h₀ h' : Heap} {L I C D la : Addr} {m : Str → Option Value} {s₁ : Shared} {oI oC oD : Obj} {S : List (Addr × Obj) → Prop} {rest : Value → List (Addr × Obj) → Prop} {y : Value} {tk : Nat} {oA : Obj} {frs BASE own' led : List (Addr × Obj)}
    (F : Fr h₀ L h' m) (z : News h₀ L h' frs) (N : News h₀ L h' led) (offF : ∀ q ∈ frs, q.1 ≠ I ∧ q.1 ≠ C ∧ q.1 ≠ D) (oL : la ≠ I ∧ la ≠ C ∧ la ≠ D) (offB : ∀ q ∈ BASE ++ own', q.1 ≠ I ∧ q.1 ≠ C ∧ q.1 ≠ D)
    (k : ∀ q ∈ (la, oA) :: (I, oI) :: (C, oC) :: (D, oD) :: (BASE ++ own'), q ∈ led) (hS : S (frs ++ ((la, oA) :: (BASE ++ own')))) (r : rest y (frs ++ ((la, oA) :: (BASE ++ own')))) :
    LCg.CompEnd h₀ L m s₁ I oI C oC D oD S rest y { s₁ with heap := h', toks := tk } :=
  LCg.CompEnd.intro F (news_app z N) (frs ++ ((la, oA) :: (BASE ++ own'))) (fun q hq => by
    rcases List.mem_cons.mp hq with h9 | hq
    · exact List.mem_append_right _ (k q (by rw [h9]; exact .tail _ (.head _)))
    rcases List.mem_cons.mp hq with h9 | hq
    · exact List.mem_append_right _ (k q (by rw [h9]; exact .tail _ (.tail _ (.head _))))
    rcases List.mem_cons.mp hq with h9 | hq
    · exact List.mem_append_right _ (k q (by rw [h9]; exact .tail _ (.tail _ (.tail _ (.head _)))))
    rcases List.mem_append.mp hq with hq | hq
    · exact List.mem_append_left _ hq
    rcases List.mem_cons.mp hq with h9 | hq
    · exact List.mem_append_right _ (k q (by rw [h9]; exact .head _))
    · exact List.mem_append_right _ (k q (.tail _ (.tail _ (.tail _ (.tail _ hq))))))
    (off3_of (List.forall_mem_append.mpr ⟨offF, List.forall_mem_cons.mpr ⟨oL, offB⟩⟩)) hS r
theorem all_ok (w : World) (g : Addr) (b : Array UInt8) (t : Tok) (ks : List Int) (G : Nat → Value → Prop) (msg : Nat → Str) (hk : KBw.bInts b = ks) (hG : ∀ i, ReadOk w g (stK ks i) (G i) (msg i)) (many : Nat) (tm : Tok) (tab : Obj) (rest : List (Addr × Obj)) (R₀ : List (Addr × Obj)) (hT : TabAny w tab R₀) (hR₀ : ∀ q ∈ R₀, q ∈ rest) (hr : ∀ q ∈ rest, q.1 ≠ 224) (hm : many ≤ 9) :
    CallOkT w 241 [.ref g, .bytes b t, .int (many : Int) tm] ((224, tab) :: rest) 34 3000
      (fun r led => ∃ (tab' : Obj) (cds : List (Addr × Obj)) (D : Addr) (ys : List Value) (own : List (Addr × Obj)), r = .ref D ∧ ys.length = many + 1 ∧ ItemsG G msg ks ys own ∧ TabS w tab' cds ∧ led = (D, LCg.lst ys) :: (224, tab') :: (rest ++ own) ∧ (∀ q ∈ cds, q ∈ R₀ ++ own) ∧ (∀ q ∈ rest ++ own, q.1 ≠ 224) ∧ D ≠ 224 ∧ (∀ q ∈ rest ++ own, q.1 ≠ D) ∧ (∀ q ∈ own, ∀ p ∈ rest, q.1 ≠ p.1)) := by
  unfold CallOkT
  k_fill
  intro loose mean mg mb p dp un gd cn cs a ccd cl outer A₀ base h₀ L m sh sg sd st so Q E B F X N T XB TB D CH hk' hd1 hu hret
  refine wpAny_call ?_
  k_dflt (refine' callS_cells B F X N T XB TB D KtsTurn.refl rfl rfl hk' ?k6 ?k7 ?k8 ?k9 ?kB ?kD ?_ ?c2 ?c3 ?c4; (case k6 => k_is); (case k7 => k_is); (case k8 => ktr_room); (case k9 => exact BindsTo.of_eq rfl); (case kB => exact rfl); (case kD => decide +kernel); (case c2 => exact rfl); (case c3 => exact rfl); (case c4 => exact rfl); k_whole; intro g' L' h' tk' cells' FG' F' N' Y' B' X' T' D' l1; k_cells Y'; (try simp only [List.cons_append, List.nil_append] at N'); (try dsimp only); (try k_fold))
  have l8 : @LT.lt Nat _ 224 L' := l1 _ (.head _)
  have l7 := fun p hp => l1 p (.tail _ hp)
  k_extra "unf"
  unfold Hold
  rintro r9 led9 h2 tk2 ⟨tab1, cds, tS, f9, la9, n9, own9, rfl, rfl, hc9, hS9, hla, h224, hap⟩ F2 N2
  (try simp only [List.cons_append] at N2 hc9 hla h224)
  (try dsimp only)
  k_sweep
  (try k_fold)
  have f1 := fun q hq => hap q hq _ (.tail _ (.head _))
  have f1' := fun q hq => hap q hq _ (.head _)
  have f2 : @Ne Nat _ _ := hla _ (.tail _ (.tail _ (.head _)))
  have f3 : @Ne Nat _ _ := hla _ (.tail _ (.head _))
  have f4 : @Ne Nat _ _ := hla _ (.head _)
  dsimp only at f1 f1' f2 f3 f4
  k_extra "unf"
  (rename Fr g' _ _ _ => lF); (rename News g' _ _ _ => lN)
  k_dflt (refine LCg.ListComp_U (F₀ := fl_hide (fs := (envX cn cs L a ccd cl :: outer).filterMap (·.frame)) lF KtsTurn.refl) (by rfl) (by decide) (by rfl) (by decide) (by rfl) ?_)
  k_extra "unf"
  (rename Fr g' _ _ _ => lF'); (rename News g' _ _ _ => lN'); (rename _ = Data.cell (some (Value.ref f9)) => dS)
  obtain ⟨BASE, hB, lN1⟩ := split_base lN'
  have mS : ∃ o, (L' + 1 + 1, o) ∈ BASE ∧ o.data = .cell (some (.ref f9)) := ⟨_, by rw [hB]; exact .tail _ (.head _), dS⟩
  have mR : ∃ o, (L' + 1, o) ∈ BASE ∧ o.data = .cell (some (.ref g)) := ⟨_, by rw [hB]; exact .tail _ (.tail _ (.head _)), by assumption⟩
  have hSm : Stm w f9 la9 BASE := stm_mono hS9 fun q hq => by
    have : q ∈ rest ++ own9 := by
      rcases List.mem_append.mp hq with hq | hq
      · rcases List.mem_append.mp (hc9 q hq) with hq | hq
        · exact List.mem_append.mpr (.inl (hR₀ q hq))
        · exact List.mem_append.mpr (.inr hq)
      · exact List.mem_append.mpr (.inr hq)
    rw [hB]
    exact .tail _ (.tail _ (.tail _ this))
  have hBla : ∀ q ∈ BASE, q.1 ≠ la9 := by
    rw [hB]
    exact List.forall_mem_cons.mpr ⟨f4, List.forall_mem_cons.mpr ⟨f3, List.forall_mem_cons.mpr ⟨f2, fun q hq => hla q (.tail _ (.tail _ (.tail _ hq)))⟩⟩⟩
  obtain ⟨oS, mS, dS⟩ := mS
  obtain ⟨oR, mR, dR⟩ := mR
  have hoff := fl_off lN1 KtsTurn.refl D'
  have hlaF : la9 ∉ (envX cn cs L a ccd cl :: outer).filterMap (·.frame) := hoff _ (.head _)
  obtain ⟨frs, q1, q2, q3⟩ := fl_make (fs := (envX cn cs L a ccd cl :: outer).filterMap (·.frame)) lF' KtsTurn.refl D'
  refine LCg.CompSrc.range (by rfl) (fl_hide lF' KtsTurn.refl) (news_app q3 (fl_news lN1 KtsTurn.refl)) (by assumption) (small_one (by decide) (by decide) (by omega) (by omega)) (range_size many) (by unfold sizeLine; omega) ?_
  intro g9
  let J9 : Nat → List Value → List (Addr × Obj) → Prop := fun i ys news => ∃ frs b1 t1 n1 own, FrameLed g' ((envX cn cs L a ccd cl :: outer).filterMap (·.frame)) frs ∧ (∀ q ∈ frs, q.1 ∈ (envX cn cs L a ccd cl :: outer).filterMap (·.frame)) ∧ news = frs ++ ((la9, listOf #[.bytes b1 t1] n1) :: (BASE ++ own)) ∧ KBw.bInts b1 = stK ks i ∧ ys.length = i ∧ ItemsG G msg ks ys own ∧ (∀ q ∈ own, q.1 ≠ la9) ∧ (∀ q ∈ own, q.1 ∉ (envX cn cs L a ccd cl :: outer).filterMap (·.frame)) ∧ (∀ q ∈ own, ∀ p ∈ BASE, p.1 ≠ q.1)
  refine comp_ind (J := J9) ?_ ?_ _ 0 [] _ (Nat.zero_add _) ⟨frs, b, t, n9, [], q1, q2, by rw [List.append_nil], hk, rfl, (fun _ _ h => by simp at h), (fun _ h => nomatch h), (fun _ h => nomatch h), (fun _ h => nomatch h)⟩
  · intro i ys news v I oI C oC D m₂ h tk E' hi hJ hP hC hx F N o ne
    obtain ⟨frs, b1, t1, n1, own, y1, y2, rfl, y4, y5, y6, y7, y8, y9⟩ := hJ
    have sub3 : ∀ q ∈ frs, q ∈ (I, oI) :: (C, oC) :: (D, LCg.lst ys) :: (frs ++ ((la9, listOf #[.bytes b1 t1] n1) :: (BASE ++ own))) := fun q hq => .tail _ (.tail _ (.tail _ (List.mem_append_left _ hq)))
    obtain ⟨g₂, T2, F2, back⟩ := fl_back F N (fl_mono y1 sub3) D'
    have offm := LCg.Off3.mem o
    have hfs : ∀ b ∈ (envX cn cs L a ccd cl :: outer).filterMap (·.frame), b ≠ I ∧ b ≠ C ∧ b ≠ D := fun b hb => by
      obtain ⟨ob, _, _, hob, _⟩ := D' b hb
      obtain ⟨sl, hs⟩ := y1 b hb ob hob
      exact offm _ (List.mem_append_left _ hs)
    have oL := offm (la9, _) (List.mem_append_right _ (.head _))
    have N3 := back ((la9, listOf #[.bytes b1 t1] n1) :: (I, oI) :: (C, oC) :: (D, LCg.lst ys) :: (BASE ++ own))
      (by
        intro q hq
        simp only [List.mem_cons, List.mem_append] at hq ⊢
        rcases hq with h9 | h9 | h9 | h9 | h9 | h9 <;> simp only [h9, true_or, or_true])
      (List.forall_mem_cons.mpr ⟨hlaF, List.forall_mem_cons.mpr ⟨fun z => (hfs _ z).1 rfl, List.forall_mem_cons.mpr ⟨fun z => (hfs _ z).2.1 rfl, List.forall_mem_cons.mpr ⟨fun z => (hfs _ z).2.2 rfl, List.forall_mem_append.mpr ⟨fun q hq => hoff q (.tail _ hq), y8⟩⟩⟩⟩⟩)
    have hr3 : ∀ q ∈ (I, oI) :: (C, oC) :: (D, LCg.lst ys) :: (BASE ++ own), q.1 ≠ la9 := List.forall_mem_cons.mpr ⟨oL.1.symm, List.forall_mem_cons.mpr ⟨oL.2.1.symm, List.forall_mem_cons.mpr ⟨oL.2.2.symm, List.forall_mem_append.mpr ⟨hBla, y7⟩⟩⟩⟩
    have B2 := ts_below B' T2
    have X2 := XB.keeps B2.stays
    have TP2 := TB.keeps B2.stays
    have D2 := D'.turn T2
    have mS3 : (L' + 1 + 1, oS) ∈ (la9, listOf #[.bytes b1 t1] n1) :: (I, oI) :: (C, oC) :: (D, LCg.lst ys) :: (BASE ++ own) := .tail _ (.tail _ (.tail _ (.tail _ (List.mem_append_left _ mS))))
    have mR3 : (L' + 1, oR) ∈ (la9, listOf #[.bytes b1 t1] n1) :: (I, oI) :: (C, oC) :: (D, LCg.lst ys) :: (BASE ++ own) := .tail _ (.tail _ (.tail _ (.tail _ (List.mem_append_left _ mR))))
    have mC3 : (C, oC) ∈ (la9, listOf #[.bytes b1 t1] n1) :: (I, oI) :: (C, oC) :: (D, LCg.lst ys) :: (BASE ++ own) := .tail _ (.tail _ (.head _))
    clear back F N sub3
    (try k_fold)
    k_extra "unf"
    refine told_ok w g f9 la9 b1 t1 n1 (stK ks i) (G i) (msg i) _ (hG i) (stm_mono hSm fun q hq => .tail _ (.tail _ (.tail _ (List.mem_append_left _ hq)))) y4 hr3 _ _ _ _ _ _ _ _ _ _ _ _ _ _ _ _ _ _ _ _ _ _ _ _ _ _ B2 F2 X2 N3 TP2 XB TB D2 CH rfl (by ktr_room) (by ktr_units) ?ret
    case ret =>
      rintro r9 led9 h3 tk3 g₃ ⟨b2, t2, n2, e2, hcase⟩ T3 F3 N4 B3 X3 P3 D3
      obtain ⟨frs', z1, z2, z3⟩ := fl_make F3 (T2.trans T3) D'
      have F4 := fl_hide F3 (T2.trans T3)
      have N5 := fl_news N4 (T2.trans T3)
      have N6 := fl_off N4 (T2.trans T3) D'
      have offB : ∀ q ∈ BASE ++ own, q.1 ≠ I ∧ q.1 ≠ C ∧ q.1 ≠ D := fun q hq => offm q (List.mem_append_right _ (.tail _ hq))
      have offF : ∀ q ∈ frs', q.1 ≠ I ∧ q.1 ≠ C ∧ q.1 ≠ D := fun q hq => hfs _ (z2 q hq)
      rcases hcase with ⟨ok, e6, rfl⟩ | ⟨ok, D9, t9, rfl, rfl, e4, e5⟩
      · refine comp_end (oA := listOf #[.bytes b2 t2] n2) (own' := own) F4 z3 N5 offF oL offB (fun q hq => hq) trivial ?_
        refine ⟨frs', b2, t2, n2, own, z1, z2, rfl, ?_, by rw [List.length_append, y5]; rfl, items_snoc y6 (fun _ h => h) y5 (.inl ⟨ok, e6⟩), y7, y8, y9⟩
        exact e2
      · have oD := e5 _ (.head _)
        have oD1 := e5 _ (.tail _ (.head _))
        have oD2 := e5 _ (.tail _ (.tail _ (.head _)))
        refine comp_end (oA := listOf #[.bytes b2 t2] n2) (BASE := BASE) (own' := own ++ [(D9, listOf #[.str (msg i) t9] 0)]) F4 z3 N5 offF oL (fun q hq => ?_) (fun q hq => ?_) trivial ?_
        · rw [← List.append_assoc] at hq
          rcases List.mem_append.mp hq with hq | hq
          · exact offB q hq
          · rw [List.mem_singleton.mp hq]
            exact ⟨oD.symm, oD1.symm, oD2.symm⟩
        · simp only [List.mem_cons, List.mem_append, List.not_mem_nil, or_false] at hq ⊢
          rcases hq with h9 | h9 | h9 | h9 | h9 | h9 | h9
          · exact .inl h9
          · exact .inr (.inr (.inl h9))
          · exact .inr (.inr (.inr (.inl h9)))
          · exact .inr (.inr (.inr (.inr (.inl h9))))
          · exact .inr (.inr (.inr (.inr (.inr (.inl h9)))))
          · exact .inr (.inr (.inr (.inr (.inr (.inr h9)))))
          · exact .inr (.inl h9)
        · refine ⟨frs', b2, t2, n2, _, z1, z2, rfl, ?_, by rw [List.length_append, y5]; rfl, items_snoc y6 (fun _ h => List.mem_append_left _ h) y5 (.inr ⟨ok, D9, t9, rfl, List.mem_append_right _ (.head _)⟩), List.forall_mem_append.mpr ⟨y7, List.forall_mem_singleton.mpr e4⟩, List.forall_mem_append.mpr ⟨y8, List.forall_mem_singleton.mpr (N6 _ (.tail _ (.head _)))⟩, List.forall_mem_append.mpr ⟨y9, List.forall_mem_singleton.mpr fun p hp => e5 p (.tail _ (.tail _ (.tail _ (List.mem_append_left _ hp))))⟩⟩
          exact e2
  · intro ys news hJ
    obtain ⟨frs, b1, t1, n1, own, y1, y2, rfl, y4, y5, y6, y7, y8, y9⟩ := hJ
    unfold LCg.FinE
    intro D9 h9 tk9 F9 N9 o9
    have offD := off1_mem o9
    obtain ⟨g₃, T3, F3, back⟩ := fl_back F9 N9 (fl_mono y1 fun q hq => .tail _ (List.mem_append_left _ hq)) D'
    have hDF : D9 ∉ (envX cn cs L a ccd cl :: outer).filterMap (·.frame) := fun hb => by
      obtain ⟨ob, _, _, hob, _⟩ := D' _ hb
      obtain ⟨sl, hs⟩ := y1 _ hb ob hob
      exact offD _ (List.mem_append_left _ hs) rfl
    have N3 := back ((D9, LCg.lst ys) :: (BASE ++ own)) (fun q hq => by
        rcases List.mem_cons.mp hq with h9 | h9
        · rw [h9]; exact .head _
        · exact .tail _ (List.mem_append_right _ (.tail _ h9)))
      (List.forall_mem_cons.mpr ⟨hDF, List.forall_mem_append.mpr ⟨fun q hq => hoff q (.tail _ hq), y8⟩⟩)
    clear back F9 N9
    (try dsimp only)
    k_extra "unf"
    (rename KtsTurn _ h₀ _ => kT); (rename News _ L _ ((D9, _) :: _) => kN)
    have h224' : ∀ q ∈ rest ++ own9, q.1 ≠ 224 := fun q hq => h224 q (.tail _ (.tail _ hq))
    have o224 : ∀ q ∈ own, q.1 ≠ 224 := fun q hq => (y9 q hq (224, tab1) (by rw [hB]; exact .head _)).symm
    have d224 : D9 ≠ 224 := (offD _ (List.mem_append_right _ (.tail _ (List.mem_append_left _ (by rw [hB]; exact .head _))))).symm
    have dAll : ∀ q ∈ rest ++ (own9 ++ own), q.1 ≠ D9 := fun q hq => by
      rw [← List.append_assoc] at hq
      refine offD q (List.mem_append_right _ (.tail _ ?_))
      rcases List.mem_append.mp hq with hq | hq
      · exact List.mem_append_left _ (by rw [hB]; exact .tail _ (.tail _ (.tail _ hq)))
      · exact List.mem_append_right _ hq
    have dApt : ∀ q ∈ own9 ++ own, ∀ p ∈ rest, q.1 ≠ p.1 := List.forall_mem_append.mpr ⟨fun q hq p hp => hap q hq p (.tail _ (.tail _ hp)), fun q hq p hp => (y9 q hq p (by rw [hB]; exact .tail _ (.tail _ (.tail _ (List.mem_append_left _ hp))))).symm⟩
    refine hret _ ((D9, LCg.lst ys) :: (224, tab1) :: (rest ++ (own9 ++ own))) _ _ _ ⟨tab1, cds, D9, ys, own9 ++ own, rfl, y5, items_mono y6 (fun _ h => List.mem_append_right _ h), tS, rfl, fun q hq => ?_, ?_, d224, dAll, dApt⟩ kT (by assumption) (fun q hq => kN q ?_) (by assumption) (by assumption) (by assumption) (by assumption)
    · rw [← List.append_assoc]
      exact List.mem_append_left _ (hc9 q hq)
    · rw [← List.append_assoc]
      exact List.forall_mem_append.mpr ⟨h224', o224⟩
    · rw [hB]
      simp only [List.mem_cons, List.mem_append] at hq ⊢
      rcases hq with h9 | h9 | h9 | h9 | h9 <;> simp only [h9, true_or, or_true]
end
section
noncomputable def ItemS (x : Nat → Str) (ks : List Int) (i : Nat) (v : Value) (led : List (Addr × Obj)) : Prop :=
  (okAt (stK ks i) = true ∧ ∃ t, v = .str (x i) t) ∨ (okAt (stK ks i) = false ∧ ∃ D t, v = .ref D ∧ (D, listOf #[.str (msgOf (stK ks i)) t] 0) ∈ led)
noncomputable def ItemsS (x : Nat → Str) (ks : List Int) (ys : List Value) (led : List (Addr × Obj)) : Prop := ∀ i v, ys[i]? = some v → ItemS x ks i v led
noncomputable def ItemB (ks : List Int) (i : Nat) (v : Value) (led : List (Addr × Obj)) : Prop :=
  (okAt (stK ks i) = true ∧ ∃ b t, v = .bytes b t ∧ KBw.bInts b = ((stK ks i).drop 1).take ((stK ks i).getD 0 0).toNat) ∨ (okAt (stK ks i) = false ∧ ∃ D t, v = .ref D ∧ (D, listOf #[.str (Str.ofString "not enough data in stream to read uint1") t] 0) ∈ led)
noncomputable def ItemsB (ks : List Int) (ys : List Value) (led : List (Addr × Obj)) : Prop := ∀ i v, ys[i]? = some v → ItemB ks i v led
theorem allS_ok (w : World) (b : Array UInt8) (t : Tok) (ks : List Int) (x : Nat → Str) (hk : KBw.bInts b = ks) (hl : ks.length ≤ 16777216) (hX : ∀ i, okAt (stK ks i) = true → x i ∈ five ∧ ((stK ks i).drop 1).take ((stK ks i).getD 0 0).toNat = codes (x i)) (many : Nat) (tm : Tok) (tab : Obj) (rest : List (Addr × Obj)) (R₀ : List (Addr × Obj)) (hT : TabAny w tab R₀) (hR₀ : ∀ q ∈ R₀, q ∈ rest) (hr : ∀ q ∈ rest, q.1 ≠ 224) (hm : many ≤ 9) :
    CallOkT w 241 [.ref 35, .bytes b t, .int (many : Int) tm] ((224, tab) :: rest) 34 3000
      (fun r led => ∃ (tab' : Obj) (cds : List (Addr × Obj)) (D : Addr) (ys : List Value) (own : List (Addr × Obj)), r = .ref D ∧ ys.length = many + 1 ∧ ItemsS x ks ys own ∧ TabS w tab' cds ∧ led = (D, LCg.lst ys) :: (224, tab') :: (rest ++ own) ∧ (∀ q ∈ cds, q ∈ R₀ ++ own) ∧ (∀ q ∈ rest ++ own, q.1 ≠ 224) ∧ D ≠ 224 ∧ (∀ q ∈ rest ++ own, q.1 ≠ D) ∧ (∀ q ∈ own, ∀ p ∈ rest, q.1 ≠ p.1)) :=
  all_ok w 35 b t ks (fun i v => ∃ t, v = .str (x i) t) (fun i => msgOf (stK ks i)) hk (fun i => string1_read (Nat.le_trans (stK_len ks i) hl) (hX i)) many tm tab rest R₀ hT hR₀ hr hm
theorem allB_ok (w : World) (b : Array UInt8) (t : Tok) (ks : List Int) (hk : KBw.bInts b = ks) (hl : ks.length ≤ 16777216) (hX : ∀ i, 0 < (stK ks i).length → ((stK ks i).getD 0 0).toNat ≤ (stK ks i).length - 1) (many : Nat) (tm : Tok) (tab : Obj) (rest : List (Addr × Obj)) (R₀ : List (Addr × Obj)) (hT : TabAny w tab R₀) (hR₀ : ∀ q ∈ R₀, q ∈ rest) (hr : ∀ q ∈ rest, q.1 ≠ 224) (hm : many ≤ 9) :
    CallOkT w 241 [.ref 42, .bytes b t, .int (many : Int) tm] ((224, tab) :: rest) 34 3000
      (fun r led => ∃ (tab' : Obj) (cds : List (Addr × Obj)) (D : Addr) (ys : List Value) (own : List (Addr × Obj)), r = .ref D ∧ ys.length = many + 1 ∧ ItemsB ks ys own ∧ TabS w tab' cds ∧ led = (D, LCg.lst ys) :: (224, tab') :: (rest ++ own) ∧ (∀ q ∈ cds, q ∈ R₀ ++ own) ∧ (∀ q ∈ rest ++ own, q.1 ≠ 224) ∧ D ≠ 224 ∧ (∀ q ∈ rest ++ own, q.1 ≠ D) ∧ (∀ q ∈ own, ∀ p ∈ rest, q.1 ≠ p.1)) :=
  all_ok w 42 b t ks (fun i v => ∃ b t, v = .bytes b t ∧ KBw.bInts b = ((stK ks i).drop 1).take ((stK ks i).getD 0 0).toNat) (fun _ => Str.ofString "not enough data in stream to read uint1") hk (fun i => bytes1_read (Nat.le_trans (stK_len ks i) hl) (hX i)) many tm tab rest R₀ hT hR₀ hr hm
end
end
end
section
/-- the octets of a row -/
noncomputable def octK (ys : List Str) : List Int := ys.flatMap fun y => (y.length : Int) :: codes y
theorem octK_cons (y : Str) (ys : List Str) : octK (y :: ys) = (y.length : Int) :: (codes y ++ octK ys) := by
  unfold octK
  rw [List.flatMap_cons]
  rfl
theorem octK_app (xs ys : List Str) : octK (xs ++ ys) = octK xs ++ octK ys := by
  unfold octK
  rw [List.flatMap_append]
theorem codes_len (y : Str) : (codes y).length = y.length := by
  unfold codes
  rw [List.length_map, Array.length_toList]
  rfl
theorem octK_length : ∀ (ys : List Str), (∀ y ∈ ys, y.length ≤ 3) → (octK ys).length ≤ 4 * ys.length
  | [], _ => Nat.le_refl _
  | y :: ys, h => by
    have := octK_length ys (fun z hz => h z (.tail _ hz))
    have := h y (.head _)
    rw [octK_cons, List.length_cons, List.length_append, codes_len, List.length_cons]
    omega
theorem five_len {y : Str} (h : y ∈ five) : y.length ≤ 3 := by
  simp only [five, List.mem_cons, List.not_mem_nil, or_false] at h
  rcases h with rfl | rfl | rfl | rfl | rfl <;> decide +kernel
theorem octK_succ {ys : List Str} {i : Nat} {x : Str} (hi : i < ys.length) (h : ys.getD i Str.empty = x) : octK (ys.take (i + 1)) = octK (ys.take i) ++ ((x.length : Int) :: codes x) := by
  rw [List.take_succ_eq_append_getElem hi]
  have : ys[i] = x := by rw [← h, List.getD_eq_getElem?_getD, List.getElem?_eq_getElem hi]; rfl
  rw [this, octK_app, octK_cons]
  simp [octK]
theorem ok_cons {z : Str} {R : List Int} : okAt ((z.length : Int) :: (codes z ++ R)) = true := by
  unfold okAt
  rw [Bool.and_eq_true, decide_eq_true_eq, decide_eq_true_eq]
  refine ⟨Nat.zero_lt_succ _, ?_⟩
  show z.length ≤ (codes z ++ R).length
  rw [List.length_append, codes_len]
  omega
theorem next_cons {z : Str} {R : List Int} : nextK ((z.length : Int) :: (codes z ++ R)) = R := by
  unfold nextK
  rw [if_pos ok_cons]
  show (codes z ++ R).drop z.length = R
  rw [← codes_len z, List.drop_left]
theorem stK_oct (T : List Int) : ∀ (i : Nat) (zs : List Str), i ≤ zs.length → stK (octK zs ++ T) i = octK (zs.drop i) ++ T := by
  intro i zs
  induction i with
  | zero => intro _; rfl
  | succ i ih =>
    intro h
    show nextK (stK (octK zs ++ T) i) = _
    rw [ih (by omega), List.drop_eq_getElem_cons (show i < zs.length by omega), octK_cons, List.cons_append, List.append_assoc, next_cons]
theorem stK_past {ks : List Int} {n : Nat} (h : okAt (stK ks n) = false) : ∀ j, stK ks (n + 1 + j) = []
  | 0 => by
    show nextK (stK ks n) = []
    unfold nextK
    rw [h]; rfl
  | j + 1 => by
    show nextK (stK ks (n + 1 + j)) = []
    rw [stK_past h j]
    rfl
theorem stK_cases (zs : List Str) {T : List Int} (hT : okAt T = false) (i : Nat) : (∃ h : i < zs.length, ∃ R, stK (octK zs ++ T) i = (zs[i].length : Int) :: (codes zs[i] ++ R)) ∨ (i = zs.length ∧ stK (octK zs ++ T) i = T) ∨ (zs.length < i ∧ stK (octK zs ++ T) i = []) := by
  rcases Nat.lt_or_ge i zs.length with h | h
  · refine .inl ⟨h, octK (zs.drop (i + 1)) ++ T, ?_⟩
    rw [stK_oct T i zs (by omega), List.drop_eq_getElem_cons h, octK_cons, List.cons_append, List.append_assoc]
  · rcases Nat.eq_or_lt_of_le h with e | e
    · subst e
      refine .inr (.inl ⟨rfl, ?_⟩)
      rw [stK_oct T _ zs (Nat.le_refl _), List.drop_length]
      rfl
    · refine .inr (.inr ⟨e, ?_⟩)
      have h1 : okAt (stK (octK zs ++ T) zs.length) = false := by
        rw [stK_oct T _ zs (Nat.le_refl _), List.drop_length]; exact hT
      have := stK_past h1 (i - (zs.length + 1))
      rwa [show zs.length + 1 + (i - (zs.length + 1)) = i by omega] at this
theorem oct_hX {zs : List Str} {T : List Int} (hT : okAt T = false) (h5 : ∀ z ∈ zs, z ∈ five) (i : Nat) (h : okAt (stK (octK zs ++ T) i) = true) :
    zs.getD i Str.empty ∈ five ∧ ((stK (octK zs ++ T) i).drop 1).take ((stK (octK zs ++ T) i).getD 0 0).toNat = codes (zs.getD i Str.empty) := by
  rcases stK_cases zs hT i with ⟨hi, R, e⟩ | ⟨hi, e⟩ | ⟨hi, e⟩
  · have e2 : zs.getD i Str.empty = zs[i] := by simp [List.getD_eq_getElem?_getD, hi]
    rw [e, e2]
    refine ⟨h5 _ (List.getElem_mem hi), ?_⟩
    show (codes zs[i] ++ R).take zs[i].length = codes zs[i]
    rw [← codes_len zs[i], List.take_left]
  · rw [e, hT] at h; cases h
  · rw [e] at h; cases h
theorem oct_hB {zs : List Str} (i : Nat) (h : 0 < (stK (octK zs) i).length) : ((stK (octK zs) i).getD 0 0).toNat ≤ (stK (octK zs) i).length - 1 := by
  rw [← List.append_nil (octK zs)] at h ⊢
  rcases stK_cases zs (T := []) rfl i with ⟨hi, R, e⟩ | ⟨hi, e⟩ | ⟨hi, e⟩
  · rw [e]
    show zs[i].length ≤ (codes zs[i] ++ R).length
    rw [List.length_append, codes_len]
    omega
  · rw [e] at h; exact absurd h (Nat.lt_irrefl _)
  · rw [e] at h; exact absurd h (Nat.lt_irrefl _)
theorem datAll_of {own : List (Addr × Obj)} : ∀ {ys : List Value} {ds : List Dat}, ys.length = ds.length → (∀ (i : Nat) (v : Value) (d : Dat), ys[i]? = some v → ds[i]? = some d → DatIn own v d) → DatAll own ys ds
  | [], [], _, _ => .nil
  | [], _ :: _, h, _ => nomatch h
  | _ :: _, [], h, _ => nomatch h
  | y :: ys, d :: ds, h, k => .cons (k 0 y d rfl rfl) (datAll_of (Nat.succ.inj h) fun i v d hv hd => k (i + 1) v d hv hd)
theorem itemsS_dat {zs : List Str} {T : List Int} {own : List (Addr × Obj)} {ys : List Value} (hT : okAt T = false) (h : ItemsS (fun i => zs.getD i Str.empty) (octK zs ++ T) ys own) (hl : ys.length = zs.length + 1) :
    DatAll own ys (zs.map Dat.str ++ [Dat.list [Dat.str (msgOf T)]]) := by
  refine datAll_of (by simp [hl]) fun i v d hv hd => ?_
  have h9 := h i v hv
  rcases stK_cases zs hT i with ⟨hi, R, e⟩ | ⟨hi, e⟩ | ⟨hi, e⟩
  · unfold ItemS at h9
    rw [e, ok_cons] at h9
    rcases h9 with ⟨_, t, rfl⟩ | ⟨h8, _⟩
    · rw [List.getElem?_append_left (by simpa using hi)] at hd
      have e2 : zs.getD i Str.empty = zs[i] := by simp [List.getD_eq_getElem?_getD, hi]
      have e3 : d = Dat.str zs[i] := by simpa [hi] using hd.symm
      rw [e3]
      dsimp only
      rw [e2]
      exact .str _ _
    · cases h8
  · unfold ItemS at h9
    rw [e, hT] at h9
    rcases h9 with ⟨h8, _⟩ | ⟨_, D, t, rfl, hm⟩
    · cases h8
    · subst hi
      rw [List.getElem?_append_right (by simp)] at hd
      have e3 : d = Dat.list [Dat.str (msgOf T)] := by simpa using hd.symm
      rw [e3]
      exact .list hm (.cons (.str _ _) .nil)
  · have := (List.getElem?_eq_some_iff.mp hv).1
    omega
/-- the bytes of a text -/
noncomputable def encB (x : Str) : Array UInt8 := (x.cps.toList.map fun n => UInt8.ofNat n).toArray
theorem encB_of {x : Str} {b : Array UInt8} (hx : x ∈ five) (h : KBw.bInts b = codes x) : b = encB x := by
  refine bInts_inj (h.trans ?_)
  simp only [five, List.mem_cons, List.not_mem_nil, or_false] at hx
  rcases hx with rfl | rfl | rfl | rfl | rfl <;> decide +kernel
theorem itemsB_dat {zs : List Str} {own : List (Addr × Obj)} {ys : List Value} (h5 : ∀ z ∈ zs, z ∈ five) (h : ItemsB (octK zs) ys own) (hl : ys.length = zs.length + 1) :
    DatAll own ys (zs.map (fun z => Dat.bytes (encB z)) ++ [Dat.list [Dat.str (Str.ofString "not enough data in stream to read uint1")]]) := by
  refine datAll_of (by simp [hl]) fun i v d hv hd => ?_
  have h9 := h i v hv
  unfold ItemB at h9
  rw [← List.append_nil (octK zs)] at h9
  rcases stK_cases zs (T := []) rfl i with ⟨hi, R, e⟩ | ⟨hi, e⟩ | ⟨hi, e⟩
  · rw [e, ok_cons] at h9
    rcases h9 with ⟨_, b, t, rfl, hb⟩ | ⟨h8, _⟩
    · rw [List.getElem?_append_left (by simpa using hi)] at hd
      have e3 : d = Dat.bytes (encB zs[i]) := by simpa [hi] using hd.symm
      have hb' : KBw.bInts b = codes zs[i] := by
        rw [hb]
        show (codes zs[i] ++ R).take zs[i].length = codes zs[i]
        rw [← codes_len zs[i], List.take_left]
      rw [e3, encB_of (h5 _ (List.getElem_mem hi)) hb']
      exact .bytes _ _
    · cases h8
  · rw [e] at h9
    rcases h9 with ⟨h8, _⟩ | ⟨_, D, t, rfl, hm⟩
    · cases h8
    · subst hi
      rw [List.getElem?_append_right (by simp)] at hd
      have e3 : d = Dat.list [Dat.str (Str.ofString "not enough data in stream to read uint1")] := by simpa using hd.symm
      rw [e3]
      exact .list hm (.cons (.str _ _) .nil)
  · have := (List.getElem?_eq_some_iff.mp hv).1
    omega
theorem oct_cut (zs : List Str) {z : Str} (hz : 0 < z.length) : (octK (zs ++ [z])).dropLast = octK zs ++ ((z.length : Int) :: (codes z).dropLast) := by
  have h : codes z ≠ [] := fun e => by
    have := codes_len z
    rw [e] at this
    exact absurd this.symm (by simp only [List.length_nil]; omega)
  rw [octK_app, octK_cons, show octK [] = [] from rfl, List.append_nil, List.dropLast_append_of_ne_nil (by simp), List.dropLast_cons_of_ne_nil h]
theorem cut_ok {z : Str} (hz : 0 < z.length) : okAt ((z.length : Int) :: (codes z).dropLast) = false := by
  unfold okAt
  rw [Bool.and_eq_false_iff]
  right
  rw [decide_eq_false_iff_not]
  show ¬ z.length ≤ (codes z).dropLast.length
  rw [List.length_dropLast, codes_len]
  omega
theorem cut_msg {z : Str} : msgOf ((z.length : Int) :: (codes z).dropLast) = shortMsg (z.length : Int) ((z.length - 1 : Nat) : Int) := by
  unfold msgOf
  rw [if_neg (by simp)]
  show shortMsg (z.length : Int) (((codes z).dropLast.length : Nat) : Int) = _
  rw [List.length_dropLast, codes_len]
end
section
theorem depL_app : ∀ (a b : List Dat), depL (a ++ b) = max (depL a) (depL b)
  | [], b => by rw [List.nil_append, depL, Nat.zero_max]
  | d :: a, b => by rw [List.cons_append, depL, depL, depL_app a b, Nat.max_assoc]
theorem depL_map {α : Type} {f : α → Dat} (h : ∀ z, depD (f z) = 0) : ∀ (zs : List α), depL (zs.map f) = 0
  | [] => rfl
  | z :: zs => by rw [List.map_cons, depL, h, depL_map h zs, Nat.max_self]
theorem depL_msg {α : Type} {f : α → Dat} (h : ∀ z, depD (f z) = 0) (zs : List α) (m : Str) : depL (zs.map f ++ [Dat.list [Dat.str m]]) = 1 := by
  rw [depL_app, depL_map h]
  rfl
theorem strsAre_dat {own : List (Addr × Obj)} {vs : List Value} {xs : List Str} (h : StrsAre vs xs) : DatAll own vs (xs.map Dat.str) := by
  induction h with
  | nil => exact .nil
  | cons x t _ ih => exact .cons (.str _ _) ih
end
section
open PyProof.Rows PySem.Spec
/-! an exception that a frame itself raises and catches, in a frame that others stand below: the finally clause, the handled one ahead of it, the handler -/
structure Exc2 (h h' : Heap) (e : Addr) (cls : String) (c : Value) : Prop where
  keeps : ∀ b o, h.get? b = some o → h'.get? b = some o
  new : h.get? e = none
  there : ∃ ob t, h'.get? e = some ob ∧ ob.cls = .type cls ∧ ob.data = .fields #[t, .none, c, .none, .bool false, .none]
theorem exc2_of {h h' : Heap} {e : Addr} {cls : String} (x : Heap.NewExc h h' e cls) : Exc2 h h' e cls .none := ⟨x.keeps, x.new, x.there⟩
structure Flown (h : Heap) (fs : List Addr) (e T : Addr) (cls t c fl : Value) (h' : Heap) : Prop where
  ne_ : h.get? e = none
  nT : h.get? T = none
  Te : T ≠ e
  he : ∃ oe, h'.get? e = some oe ∧ oe.cls = cls ∧ oe.data = .fields #[t, .ref T, c, .none, .bool false, .none]
  hT : ∃ oT ts, h'.get? T = some oT ∧ oT.data = .fields ts ∧ ts[3]? = some fl
  other : ∀ b o, b ∉ fs → h.get? b = some o → h'.get? b = some o
  up : ∀ b o, h.get? b = some o → ∃ sl, h'.get? b = some { o with slots := sl }
section
variable {M : Model} {A : Around} {E : Value → Shared → Prop} {s : Shared}
theorem flown_note {h base : Heap} {env : Env} {outer : List Env} {L e : Addr} {cls : String} {c : Value} {Q : Unit → Shared → Prop} (hfr : A.frames = some (env :: outer)) (hl : h.FunFrames base (env :: outer)) (hf : env.frame = some L)
    (hx : Exc2 h s.heap e cls c) (k : ∀ h' T t, Flown h ((env :: outer).filterMap (·.frame)) e T (.type cls) t c (rawInt L) h' → Q () { s with heap := h' }) : wpAny M A (noteFrame (.ref e) env) Q E s := by
  obtain ⟨oe, t, he, hcls, hd⟩ := hx.there
  have hl' : s.heap.FunFrames base (env :: outer) := hl.of_keeps fun b o hb _ => ⟨o, hx.keeps b o hb, rfl⟩
  have hene : e ∉ (env :: outer).filterMap (·.frame) := fun hm => by
    obtain ⟨_, o, ho, _⟩ := hl.mem hm
    rw [hx.new] at ho; cases ho
  unfold noteFrame
  simp only [hf]
  refine wpAny_bind (wpAny_field he hd (x := .none) rfl ?_)
  rw [if_neg (by decide)]
  refine wpAny_bind (wpAny_frameOf_fun hfr hl' hf fun h₁ hs₁ => ?_)
  refine wpAny_bind (wpAny_entryPlaceOf fun pl hpl => ?_)
  unfold EntryCells.newEntry newFields
  refine wpAny_bind (wpAny_newObj_type ?_ (hpl.sizeOk5 _ _ _ _ _))
  have he₁ : h₁.get? e = some oe := (hs₁.2.1 e hene).trans he
  have he₂ := Heap.get?_push_of_some (h := h₁) { cls := .type "traceback", dict := none, data := .fields ([Value.none, .ref L, .none, rawInt L, .none] ++ (if pl.isEmpty then List.replicate 6 Value.none else pl)).toArray } he₁
  have hTe : h₁.objs.size ≠ e := Nat.ne_of_gt (Heap.lt_size he₁)
  refine wpAny_setField he₂ hd (by show 1 < 6; decide) (k _ h₁.objs.size t ?_)
  have hd₃ := Obj.data_mapFields hd (·.setIfInBounds 1 (Value.ref h₁.objs.size))
  have he₃ := Heap.get?_update_self (Obj.mapFields (·.setIfInBounds 1 (Value.ref h₁.objs.size))) he₂ (Obj.isFreed_of_fields hd₃)
  have hT₃ := (Heap.get?_update_other (h₁.push { cls := .type "traceback", dict := none, data := .fields ([Value.none, .ref L, .none, rawInt L, .none] ++ (if pl.isEmpty then List.replicate 6 Value.none else pl)).toArray })
    (Obj.mapFields (·.setIfInBounds 1 (Value.ref h₁.objs.size))) (Ne.symm hTe)).trans (Heap.get?_push_size h₁ rfl)
  have keep : ∀ b o, b ≠ e → h₁.get? b = some o → ((h₁.push { cls := .type "traceback", dict := none, data := .fields ([Value.none, .ref L, .none, rawInt L, .none] ++ (if pl.isEmpty then List.replicate 6 Value.none else pl)).toArray }).update e (Obj.mapFields (·.setIfInBounds 1 (Value.ref h₁.objs.size)))).get? b = some o :=
    fun b o hbe hb => by
      rw [Heap.get?_update_other _ _ (Ne.symm hbe)]
      exact Heap.get?_push_of_some _ hb
  have ne : ∀ b o, h.get? b = some o → b ≠ e := fun b o hb q => by rw [q, hx.new] at hb; cases hb
  have nT : h.get? h₁.objs.size = none := by
    cases q : h.get? h₁.objs.size with
    | none => rfl
    | some o =>
      obtain ⟨sl, hs⟩ := hs₁.2.2 _ o (hx.keeps _ o q)
      exact absurd (Heap.lt_size hs) (Nat.lt_irrefl _)
  refine ⟨hx.new, nT, hTe, ⟨_, he₃, (Obj.cls_mapFields _ _).trans hcls, hd₃⟩, ⟨_, _, hT₃, rfl, by simp⟩, fun b o hn hb => keep b o (ne b o hb) ((hs₁.2.1 b hn).trans (hx.keeps b o hb)), fun b o hb => ?_⟩
  obtain ⟨sl, hs⟩ := hs₁.2.2 b o (hx.keeps b o hb)
  exact ⟨sl, keep b _ (ne b o hb) hs⟩
theorem flown_again {h : Heap} {fs : List Addr} {e T L : Addr} {cls t c : Value} {env : Env} {Q : Unit → Shared → Prop} (x : Flown h fs e T cls t c (rawInt L) s.heap) (hf : env.frame = some L) (k : Q () s) : wpAny M A (noteFrame (.ref e) env) Q E s := by
  obtain ⟨oe, he, _, hd⟩ := x.he
  obtain ⟨oT, ts, hT, hdT, h3⟩ := x.hT
  unfold noteFrame
  simp only [hf]
  refine wpAny_bind (wpAny_field he hd (x := .ref T) rfl ?_)
  rw [if_pos (show (Value.ref T != Value.none) = true from by simp)]
  refine wpAny_bind (wpAny_field hT hdT h3 ?_)
  rw [if_pos (show (rawInt L == rawInt L) = true from by simp)]
  exact wpAny_pure k
theorem flown_set {h : Heap} {fs : List Addr} {e T : Addr} {cls t c fl : Value} {Q : Unit → Shared → Prop} (x : Flown h fs e T cls t c fl s.heap) (f : Option Addr)
    (k : ∀ h', Flown h fs e T cls t c (f.elim .none fun a => rawInt a) h' → Q () { s with heap := h' }) : wpAny M A (setFlight (.ref e) f) Q E s := by
  obtain ⟨oe, he, hcls, hd⟩ := x.he
  obtain ⟨oT, ts, hT, hdT, h3⟩ := x.hT
  have hsz : 3 < ts.size := (Array.getElem?_eq_some_iff.mp h3).1
  unfold setFlight
  refine wpAny_bind (wpAny_field he hd (x := .ref T) rfl ?_)
  rw [if_pos (show (Value.ref T != Value.none) = true from by simp)]
  have ne : ∀ b o, h.get? b = some o → T ≠ b := fun b o hb q => by rw [← q, x.nT] at hb; cases hb
  refine wpAny_setField hT hdT hsz (k _ ⟨x.ne_, x.nT, x.Te, ⟨oe, (Heap.get?_update_other _ _ x.Te).trans he, hcls, hd⟩, ⟨_, _, Heap.get?_update_self _ hT (Obj.isFreed_of_fields (Obj.data_mapFields hdT _)), Obj.data_mapFields hdT _, by simp [hsz]⟩, fun b o hn hb => ?_, fun b o hb => ?_⟩)
  · exact (Heap.get?_update_other _ _ (ne b o hb)).trans (x.other b o hn hb)
  · obtain ⟨sl, hs⟩ := x.up b o hb
    exact ⟨sl, (Heap.get?_update_other _ _ (ne b o hb)).trans hs⟩
theorem flown_back {h : Heap} {fs : List Addr} {e T L : Addr} {cls t c fl : Value} {env : Env} (x : Flown h fs e T cls t c fl s.heap) (hf : env.frame = some L) (k : ∀ h', Flown h fs e T cls t c (rawInt L) h' → E (.ref e) { s with heap := h' }) : cameBackBy M A env E (.ref e) s := by
  obtain ⟨oe, he, hcls, hd⟩ := x.he
  unfold cameBackBy
  refine wpAny_bind (wpAny_field he hd (x := .ref T) rfl ?_)
  rw [if_neg (show ¬ (Value.ref T == Value.none) = true from by simp)]
  refine flown_set x _ fun h' x' => ?_
  rw [hf] at x'
  exact k h' x'
end
section
variable {prog : Program} {w : World} {A A₀ : Around} {E : Value → Shared → Prop} {s : Shared} {base g g₀ h : Heap} {outer : List Env} {L a e T : Addr} {m : Str → Option Value} {name : Str} {scope : Scope} {cd : Value} {news : List (Addr × Obj)} {KF : Frag}
  {p : Program} {loose : List Str} {mean : ExcName → Option Value} {mg mb : Str → Option Value}
theorem flown_ground {h' : Heap} {cls t c fl : Value} (K : Below A₀ base outer g) (F : Fr g L h m) (N : News g L h news) (XB : KF.In base) (TB : Top p loose mean mg mb base) (D : KtsDicts (outer.filterMap (·.frame)) g) (T0 : KtsTurn (outer.filterMap (·.frame)) g₀ g)
    (x : Flown h ((envOf name scope L a cd :: outer).filterMap (·.frame)) e T cls t c fl h') (hk : scope.kind = .function) :
    ∃ g', KtsTurn (outer.filterMap (·.frame)) g₀ g' ∧ Fr g' L h' m ∧ News g' L h' news ∧ Below A₀ base outer g' ∧ KF.In g' ∧ Top p loose mean mg mb g' ∧ KtsDicts (outer.filterMap (·.frame)) g' ∧
      ∃ oe, oe.data = .fields #[t, .ref T, c, .none, .bool false, .none] ∧ oe.cls = cls ∧ News g' L h' ((e, oe) :: news) := by
  have K' := K.push (name := name) (a := a) (cd := cd) F hk
  have hBh : (hideAll h ((envOf name scope L a cd :: outer).filterMap (·.frame))).StaysIn h' := fun b o q => by
    by_cases hm : b ∈ (envOf name scope L a cd :: outer).filterMap (·.frame)
    · rw [hideAll_none _ hm] at q; cases q
    · exact x.other b o hm (of_hideAll _ q)
  obtain ⟨g', T₁, F₁, K₁⟩ := kts_ground K F (B := hideAll h ((envOf name scope L a cd :: outer).filterMap (·.frame))) (h₅ := h') (fun b o q n => hideAll_get _ q n) hBh (fun b o q _ => x.up b o q)
  have notIn : ∀ q ∈ news, q.1 ∉ (envOf name scope L a cd :: outer).filterMap (·.frame) := fun q hq hm => by
    rcases kts_mem hm with z | z
    · exact (N q hq).2.1 z
    · obtain ⟨_, o, ho, _⟩ := K.frames.mem z
      rw [(N q hq).2.2] at ho; cases ho
  have N₁ : News g' L h' news := fun q hq => ⟨x.other _ _ (notIn q hq) (N q hq).1, (N q hq).2.1, T₁.none_ _ (N q hq).2.2⟩
  obtain ⟨oe, he, hcls, hd⟩ := x.he
  have eL : e ≠ L := fun q => by
    obtain ⟨oL, es, ep, hL, hLd, _⟩ := F.ns
    have := x.ne_
    rw [q, hL] at this; cases this
  refine ⟨g', T0.trans T₁, F₁, N₁, K₁, XB.keeps K₁.stays, TB.keeps K₁.stays, D.turn T₁, oe, hd, hcls, fun q hq => ?_⟩
  rcases List.mem_cons.mp hq with rfl | hq
  · refine ⟨he, eL, T₁.none_ _ ?_⟩
    cases z : g.get? e with
    | none => rfl
    | some o => have := F.keep _ _ z; rw [x.ne_] at this; cases this
  · exact N₁ q hq
theorem flown_caught {x : Str} {X T' : String} {t c : Value} {b₀ : Stmt} {suite : List Stmt} {pos np : Pos} {rest : List ExceptHandler} {Q : Flow → Shared → Prop} (K : Below A₀ base outer g) (F : Fr g L h m) (N : News g L h news) (XB : KF.In base) (TB : Top p loose mean mg mb base)
    (D : KtsDicts (outer.filterMap (·.frame)) g) (T0 : KtsTurn (outer.filterMap (·.frame)) g₀ g) (fx : Flown h ((envOf name scope L a cd :: outer).filterMap (·.frame)) e T (.type X) t c .none s.heap)
    (ex : nsIn KF mainGlobals x = some none) (hv : bootBuiltins x = some (.type T')) (hn' : x ≠ "__name__")
    (hexc : isSubtype (.type T') (.type "BaseException") = pure true) (hnt : isSubtype (.type ((Manifest.find? T').elim "type" fun y => y.metatype)) (.type "tuple") = pure false) (hsub : isSubtype (.type X) (.type T') = pure true)
    (k : ∀ h' g', KtsTurn (outer.filterMap (·.frame)) g₀ g' → Fr g' L h' m → News g' L h' news → Below A₀ base outer g' → KF.In g' → Top p loose mean mg mb g' → KtsDicts (outer.filterMap (·.frame)) g' →
      wpAny (model prog w) ((A₀.deeper (envOf name scope L a cd)).mark (some (.ref e))) (execs (b₀ :: suite) (envOf name scope L a cd)) Q E { s with heap := h' })
    (hk : scope.kind = .function := by rfl) (hx : (envOf name scope L a cd).kindOf x = some .globalImplicit := by rfl) (hd : (x == ("__debug__" : Str)) = false := by decide)
    (hE : PassesOwnAt (model prog w) ((A₀.deeper (envOf name scope L a cd)).mark (some (.ref e))) (A₀.deeper (envOf name scope L a cd)) (envOf name scope L a cd) E := by passes_own) :
    wpAny (model prog w) (A₀.deeper (envOf name scope L a cd)) (handleBy (.ref e) (envOf name scope L a cd) (.ExceptHandler (some (.Name x np)) none (b₀ :: suite) pos :: rest)) Q E s := by
  obtain ⟨g₅, T₅, F₅, N₅, K₅, X₅, P₅, D₅, _⟩ := flown_ground K F N XB TB D T0 fx hk
  obtain ⟨ob, hob, hobc, _⟩ := fx.he
  refine wpAny_handleBy_builtin (X := X) (T := T') (b := true) hexc hnt hsub (name_B F₅ X₅ (topRead_of P₅) ex hv hn' ⟨rfl, ⟨ob, hob, hobc⟩, ?_⟩ hk hx hd)
  refine flown_set fx none fun h₆ fx₆ => ?_
  obtain ⟨g₆, T₆, F₆, N₆, K₆, X₆, P₆, D₆, _⟩ := flown_ground K F N XB TB D T0 fx₆ hk
  exact wpAny_passesOwnAt hE (k h₆ g₆ T₆ F₆ N₆ K₆ X₆ P₆ D₆)
theorem unchain_entry : entryFor table "proto.unchain" = some Builtin.«proto.unchain» := entryFor_of_tree (by kernel_rfl)
theorem raise2 {α : Type} {cls msg : String} {e0 : Addr} {o0 : Obj} {vs0 : Array Value} {Q : α → Shared → Prop} (hp : PlainExc cls) (hh : A.handled = some (.ref e0)) (h0 : s.heap.get? e0 = some o0) (hd0 : o0.data = .fields vs0) (h2 : vs0[2]? = some .none)
    (k : ∀ h' tk e, Exc2 s.heap h' e cls (.ref e0) → E (.ref e) { s with heap := h', toks := tk }) : wpAny (model prog w) A (raiseErrorWords cls msg : Sem α) Q E s := by
  unfold raiseErrorWords
  refine wpAny_bind (wpAny_mkText (wpAny_bind ?_))
  unfold newExc newTuple
  refine wpAny_bind (wpAny_newObj_type ?_)
  refine wpAny_bind (m := firstArgMember _ _) (wpAny_of_eq (a := Value.none) (by simp only [firstArgMember, hp.first]; rfl) ?_)
  rw [hp.own]
  refine wpAny_newObj_type ?_
  unfold raiseNew
  refine wpAny_bind (wpAny_handled ?_)
  rw [hh]
  dsimp only
  rw [if_pos (show (Value.ref e0 != Value.ref _) = true from bne_iff_ne.mpr fun q => by
    injection q with q
    have := Heap.lt_size (Heap.get?_push_of_some (h := s.heap) { cls := .type "tuple", data := .seq [Value.str (Str.ofString msg) s.toks].toArray } h0)
    rw [q] at this
    exact Nat.lt_irrefl _ this)]
  refine wpAny_bind (wpAny_holding (runValue_entry unchain_entry ?_))
  unfold Builtin.«proto.unchain»
  dsimp only
  refine wpAny_bind (wpAny_field (Heap.get?_push_of_some _ (Heap.get?_push_of_some _ h0)) hd0 h2 ?_)
  rw [if_pos (show (Value.none == Value.none) = true from beq_self_eq_true _)]
  refine wpAny_pure ⟨_, rfl, ?_⟩
  simp only [updateField]
  refine wpAny_bind (wpAny_bind (wpAny_load (Heap.get?_push_size _ rfl) ?_))
  dsimp only
  rw [if_pos (by simp)]
  refine wpAny_update (Heap.get?_push_size _ rfl) (wpAny_throw (k _ _ _ ⟨fun b o hb => ?_, Heap.get?_none_of_le (by simp), ?_⟩))
  · rw [Heap.get?_update_other _ _ (fun q => by have := Heap.lt_size (Heap.get?_push_of_some (h := s.heap) { cls := .type "tuple", data := .seq [Value.str (Str.ofString msg) s.toks].toArray } hb); rw [← q] at this; exact Nat.lt_irrefl _ this)]
    exact Heap.get?_push_of_some _ (Heap.get?_push_of_some _ hb)
  · exact ⟨_, .ref s.heap.objs.size, Heap.get?_update_self _ (Heap.get?_push_size _ rfl) rfl, rfl, by simp [Obj.mapFields]⟩
theorem getItem_out2 {l e0 : Addr} {items : Array Value} {k : Int} {t : Tok} {o0 : Obj} {vs0 : Array Value} {Q : Value → Shared → Prop} (hA : A.handled = some (.ref e0)) (h0 : s.heap.get? e0 = some o0) (hd0 : o0.data = .fields vs0) (h2 : vs0[2]? = some .none) (hl : s.heap.IsList l items)
    (hout : (items.size : Int) ≤ k) (hhi : k < 2 ^ 63) (hE : ∀ h' tk e, Exc2 s.heap h' e "IndexError" (.ref e0) → E (.ref e) { s with heap := h', toks := tk }) :
    wpAny (model prog w) A (getItem (.ref l) (.int k t)) Q E s := by
  obtain ⟨o, ho, hc, ne, hd⟩ := id hl
  unfold getItem
  try with_reducible refine wpAny_holding ?_
  refine wpAny_bind (wpAny_sequenceKey hl.typeIs (by decide) ?_)
  refine wpAny_bind (wpAny_callSpecial?_slot (name := Str.ofString "__getitem__") hl.typeIs slot_list_getitem (wpAny_call_entry slot_list_getitem hl.typeIs entry_list_getitem ?_ (args_list_getitem _ _)))
  show wpAny _ _ (Builtin.List.listSubscript? (.int k t) >>= _) _ _ s
  refine wpAny_bind (wpAny_listSubscript_int (fitsIndex_both (by omega) hhi) ?_)
  clear hhi
  obtain ⟨j, rfl⟩ : ∃ j : Nat, k = Int.ofNat j := ⟨k.toNat, by rw [Int.ofNat_eq_natCast]; omega⟩
  show wpAny _ _ ((seqItemAt l j >>= fun r => pure (r.map (j, ·))) >>= _) _ _ s
  refine wpAny_bind (wpAny_bind (wpAny_seqItemAt ho hd (wpAny_pure ?_)))
  rw [Array.getElem?_eq_none (by have : (items.size : Int) ≤ (j : Int) := hout; omega)]
  exact wpAny_bind (wpAny_rule (wpAny_bind (raise2 (A := A.in1) plainExc_IndexError hA h0 hd0 h2 hE)))
theorem item_out2 {value slice : PySem.Expr} {l e0 : Addr} {vs : List Value} {nn : Nat} {k : Int} {u : Tok} {oe : Obj} {vs0 : Array Value} {Q : Value → Shared → Prop} (hA : A.handled = some (.ref e0)) (N0 : News g L s.heap ((e0, oe) :: news)) (hd0 : oe.data = .fields vs0) (h2 : vs0[2]? = some .none) (hm : (l, listOf vs.toArray nn) ∈ news)
    (hout : (vs.length : Int) ≤ k) (hhi : k < 2 ^ 63) (hE : ∀ h' tk e, Exc2 s.heap h' e "IndexError" (.ref e0) → E (.ref e) { s with heap := h', toks := tk })
    (hs : subscripted slice false (.ref l) (.int k u) = operate [.ref l, .int (k : Int) u] (getItem (.ref l) (.int k u)) := by with_unfolding_all rfl) :
    wpAny (model prog w) A (subscriptTail value slice (.ref l) (.int k u)) Q E s :=
  have hl : s.heap.IsList l vs.toArray := PySem.IsL.isList (n := nn) (N0 _ (.tail _ hm)).1
  tail_any hl.typeIs slot_list_getitem.lookup (getItem_out2 hA (N0.get (.head _)) hd0 h2 hl (by simpa using hout) hhi hE) hs
theorem item_out1 {value slice : PySem.Expr} {l : Addr} {vs : List Value} {nn : Nat} {k : Int} {u : Tok} {Q : Value → Shared → Prop} (hA : A.handled = none) (N : News g L s.heap news) (hm : (l, listOf vs.toArray nn) ∈ news)
    (hout : (vs.length : Int) ≤ k) (hhi : k < 2 ^ 63) (hE : ∀ h' tk e, Exc2 s.heap h' e "IndexError" .none → E (.ref e) { s with heap := h', toks := tk })
    (hs : subscripted slice false (.ref l) (.int k u) = operate [.ref l, .int (k : Int) u] (getItem (.ref l) (.int k u)) := by with_unfolding_all rfl) :
    wpAny (model prog w) A (subscriptTail value slice (.ref l) (.int k u)) Q E s :=
  item_outK hA (PySem.IsL.isList (n := nn) (N _ hm).1) (.inr (by simpa using hout)) (by omega) hhi (fun h' tk e x => hE h' tk e (exc2_of x)) hs
end
/-! a while loop in which the ground may turn (something is caught in its body) -/
noncomputable def GswEnd {σ : Type} (G : Heap → Prop) (L : Addr) (s : Shared) (Led : σ → List (Addr × Obj)) (ps : σ → List (Str × Value)) (Facts : σ → Prop) (stored : List Str) (m₀ : Str → Option Value) (P : σ → Prop) (μ : σ → Nat) (c : σ) (s₂ : Shared) : Prop :=
  ∃ (c' : σ) (g' h' : Heap) (tk : Nat) (m' : Str → Option Value) (news' : List (Addr × Obj)), s₂ = { s with heap := h', toks := tk } ∧ G g' ∧ Fr g' L h' m' ∧ News g' L h' news' ∧ (∀ p ∈ Led c', p ∈ news') ∧ Facts c' ∧ (∀ p ∈ ps c', m' p.1 = some p.2) ∧ (∀ z, (∀ p ∈ ps c', z ≠ p.1) → stored.contains z = false → m' z = m₀ z) ∧ P c' ∧ μ c' < μ c
noncomputable def GswPost {σ : Type} (G : Heap → Prop) (L : Addr) (s : Shared) (Led : σ → List (Addr × Obj)) (ps : σ → List (Str × Value)) (Facts : σ → Prop) (stored : List Str) (m₀ : Str → Option Value) (P : σ → Prop) (μ : σ → Nat) (Q : Flow → Shared → Prop) (c : σ) (f : Flow) (s₂ : Shared) : Prop :=
  match f with
  | .ret v => Q (.ret v) s₂
  | .brk => Q .next s₂
  | _ => GswEnd G L s Led ps Facts stored m₀ P μ c s₂
theorem gsw_end {σ : Type} {G : Heap → Prop} {g' : Heap} {L : Addr} {s : Shared} {Led : σ → List (Addr × Obj)} {ps : σ → List (Str × Value)} {Facts : σ → Prop} {stored : List Str} {m₀ m' : Str → Option Value} {P : σ → Prop} {μ : σ → Nat} {c : σ} {h' : Heap} {tk : Nat} {news' : List (Addr × Obj)} (c' : σ)
    (g : G g') (F : Fr g' L h' m') (N : News g' L h' news') (hn : ∀ p ∈ Led c', p ∈ news') (hf : Facts c') (hk : ∀ p ∈ ps c', m' p.1 = some p.2) (hr : ∀ z, (∀ p ∈ ps c', z ≠ p.1) → stored.contains z = false → m' z = m₀ z) (hp : P c') (hm : μ c' < μ c) :
    GswEnd G L s Led ps Facts stored m₀ P μ c { s with heap := h', toks := tk } := ⟨c', g', h', tk, m', news', rfl, g, F, N, hn, hf, hk, hr, hp, hm⟩
section
variable {prog : Program} {w : World} {A : Around} {E : Value → Shared → Prop} {Q : Flow → Shared → Prop} {s : Shared} {env : Env} {L : Addr} {G : Heap → Prop}
theorem gsw_while {σ : Type} {test : Expr} {body : List Stmt} {pos : Pos} {m₀ : Str → Option Value} (Led : σ → List (Addr × Obj)) (ps : σ → List (Str × Value)) (Facts : σ → Prop) (stored : List Str) (P : σ → Prop) (μ : σ → Nat) (c₀ : σ) {g₀ : Heap} (hg : G g₀)
    (F : Fr g₀ L s.heap m₀) (N : News g₀ L s.heap (Led c₀)) (hf : Facts c₀) (hk : ∀ p ∈ ps c₀, m₀ p.1 = some p.2) (hp : P c₀)
    (turn : ∀ (c : σ) (u : Str → Option Value) g h tk, G g → Facts c → P c → Fr g L h (kstB (fun z => if stored.contains z then u z else m₀ z) (ps c)) → News g L h (Led c) →
      wpAny (model prog w) A (isTrue test env (eval test env)) (fun b s₂ =>
        if b = true then wpAny (model prog w) A (execs body env) (GswPost G L s Led ps Facts stored m₀ P μ Q c) E s₂ else Q .next s₂) E { s with heap := h, toks := tk })
    (hE : PassesOwn (model prog w) A env E := by passes_own) :
    wpAny (model prog w) A (exec (.While test body [] pos) env) Q E s := by
  have main : ∀ (n : Nat) (c : σ) (g h : Heap) (tk : Nat) (m : Str → Option Value), μ c < n → G g → Fr g L h m → News g L h (Led c) → Facts c → (∀ p ∈ ps c, m p.1 = some p.2) → (∀ z, (∀ p ∈ ps c, z ≠ p.1) → stored.contains z = false → m z = m₀ z) → P c →
      WhlRest prog w A E env test body [] Q 1 { s with heap := h, toks := tk } := by
    intro n
    induction n with
    | zero => intro c g h tk m hn; exact absurd hn (Nat.not_lt_zero _)
    | succ n ih =>
      intro c g h tk m hn hg' F' N' hf' h1 h2 hp'
      refine whl_turn hE (wpAny_mono (turn c m g h tk hg' hf' hp' (ksw_fr h1 h2 F') N') (fun b s₂ q => ?_) fun _ _ x => x)
      cases b with
      | false =>
        refine WhlIf.no rfl (wpAny_execs_nil ?_)
        simpa using q
      | true =>
        refine WhlIf.yes rfl (wpAny_mono q (fun f s₃ q' => ?_) fun _ _ x => x)
        cases f with
        | ret v => exact q'
        | brk => exact q'
        | next =>
          obtain ⟨c', g', h', tk', m', news', rfl, a1, a2, a3, a4, a5, a6, a7, a8, a9⟩ := q'
          exact ih c' g' h' tk' m' (by omega) a1 a2 (fun p hp => a3 p (a4 p hp)) a5 a6 a7 a8
        | cont =>
          obtain ⟨c', g', h', tk', m', news', rfl, a1, a2, a3, a4, a5, a6, a7, a8, a9⟩ := q'
          exact ih c' g' h' tk' m' (by omega) a1 a2 (fun p hp => a3 p (a4 p hp)) a5 a6 a7 a8
  exact whl_start 1 (main (μ c₀ + 1) c₀ g₀ s.heap s.toks m₀ (Nat.lt_succ_self _) hg F N hf hk (fun _ _ _ => rfl) hp)
end
end
section
open PyProof.Rows
/-! a loop over enumerate(l) of a led list, which may change (but not in size) while it is read -/
noncomputable def EnAt (prog : Program) (w : World) (A : Around) (E : Value → Shared → Prop) (env : Env) (target : Expr) (body : List Stmt) (Q : Flow → Shared → Prop) (xval : Value) (s₁ : Shared) : Prop :=
  wpAny (model prog w) A (pyIter xval) (fun it s₂ => codeAny (model prog w) A (.forLoop target it body [] env) (fun r s' => match r with | .ok f => Q f s' | .error e => cameBackBy (model prog w) A env E e s') s₂) E s₁
noncomputable def EnEnd {σ : Type} (h₀ : Heap) (L : Addr) (Led : σ → List (Addr × Obj)) (ps : σ → List (Str × Value)) (stored : List Str) (m₀ : Str → Option Value) (P : Nat → σ → Prop) (e it : Addr) (oe oi : Obj) (i : Nat) (s₁ s₂ : Shared) : Prop :=
  ∃ (c : σ) (h' : Heap) (tk : Nat) (m' : Str → Option Value) (news' : List (Addr × Obj)), s₂ = { s₁ with heap := h', toks := tk } ∧ Fr h₀ L h' m' ∧ News h₀ L h' news' ∧ (∀ p ∈ (e, oe) :: (it, oi) :: Led c, p ∈ news') ∧ (∀ p ∈ Led c, p.1 ≠ e ∧ p.1 ≠ it) ∧ (∀ p ∈ ps c, m' p.1 = some p.2) ∧
    (∀ z, (∀ p ∈ ps c, z ≠ p.1) → stored.contains z = false → m' z = m₀ z) ∧ P (i + 1) c
noncomputable def EnPost {σ : Type} (h₀ : Heap) (L : Addr) (Led : σ → List (Addr × Obj)) (ps : σ → List (Str × Value)) (stored : List Str) (m₀ : Str → Option Value) (P : Nat → σ → Prop) (e it : Addr) (oe oi : Obj) (i : Nat) (s₁ : Shared) (Q : Flow → Shared → Prop) (f : Flow) (s₂ : Shared) : Prop :=
  match f with
  | .ret v => Q (.ret v) s₂
  | .brk => Q .next s₂
  | _ => EnEnd h₀ L Led ps stored m₀ P e it oe oi i s₁ s₂
theorem en_end {σ : Type} {h₀ : Heap} {L : Addr} {Led : σ → List (Addr × Obj)} {ps : σ → List (Str × Value)} {stored : List Str} {m₀ m' : Str → Option Value} {P : Nat → σ → Prop} {e it : Addr} {oe oi : Obj} {i : Nat} {s₁ : Shared} {h' : Heap} {tk : Nat} {news' : List (Addr × Obj)} (c : σ)
    (F : Fr h₀ L h' m') (N : News h₀ L h' news') (hn : ∀ p ∈ (e, oe) :: (it, oi) :: Led c, p ∈ news') (ho : ∀ p ∈ Led c, p.1 ≠ e ∧ p.1 ≠ it) (hk : ∀ p ∈ ps c, m' p.1 = some p.2) (hr : ∀ z, (∀ p ∈ ps c, z ≠ p.1) → stored.contains z = false → m' z = m₀ z) (hp : P (i + 1) c) :
    EnEnd h₀ L Led ps stored m₀ P e it oe oi i s₁ { s₁ with heap := h', toks := tk } := ⟨c, h', tk, m', news', rfl, F, N, hn, ho, hk, hr, hp⟩
section
variable {prog : Program} {w : World} {A : Around} {E : Value → Shared → Prop} {s : Shared} {env : Env} {h₀ : Heap} {Q : Flow → Shared → Prop} {body : List Stmt}
theorem For_enS {target : Expr} {iter : Expr} {pos : Pos} (h : wpAny (model prog w) A (eval iter env) (fun xval s₁ => EnAt prog w A E env target body Q xval s₁) E s)
    (hs : ∀ x, foldedSetIterable iter env x = pure x := by intro _; rfl) : wpAny (model prog w) A (exec (.For target iter body [] pos) env) Q E s := wpAny_For h hs
theorem kstB_em {ps : List (Str × Value)} {stored : List Str} {m₀ m₁ : Str → Option Value} (h1 : ∀ p ∈ ps, m₁ p.1 = some p.2) (h2 : ∀ z, (∀ p ∈ ps, z ≠ p.1) → stored.contains z = false → m₁ z = m₀ z) :
    kstB (fun z => if stored.contains z then m₁ z else m₀ z) ps = m₁ := by
  funext y
  refine kstB_eq h1 fun hn => ?_
  show (if stored.contains y = true then m₁ y else m₀ y) = m₁ y
  cases h3 : stored.contains y with
  | true => simp
  | false => simp only [Bool.false_eq_true, if_false]; exact (h2 y hn h3).symm
theorem for_enum {σ : Type} {l : Addr} {n : Nat} {m₀ : Str → Option Value} {xi xv : Str} {pi pv pt : Pos} {x1 : Nat} (Led : σ → List (Addr × Obj)) (ps : σ → List (Str × Value)) (stored : List Str) (P : Nat → σ → Prop) (its : σ → List Value) (lk : σ → Nat) (c₀ : σ)
    (hh : A.handled = none) (hxi : env.kindOf xi = some .local) (hxv : env.kindOf xv = some .local) (hp' : (env.scope.kind == .class || (env.scope.kind == .module && env.locals != env.globals)) = false)
    (hl : ∀ c, (l, listOf (its c).toArray (lk c)) ∈ Led c) (hn : ∀ i c, P i c → (its c).length = n) (F : Fr h₀ env.locals s.heap m₀) (N : News h₀ env.locals s.heap (Led c₀)) (hk : ∀ p ∈ ps c₀, m₀ p.1 = some p.2) (hp : P 0 c₀)
    (turn : ∀ (c : σ) i v t (u : Str → Option Value) h tk e it oe oi, (its c)[i]? = some v → i < n → P i c → Fr h₀ env.locals h (fun y => if y = xv then some v else if y = xi then some (.int (i : Int) t) else kstB (fun z => if stored.contains z then u z else m₀ z) (ps c) y) →
      News h₀ env.locals h ((e, oe) :: (it, oi) :: Led c) → (∀ p ∈ Led c, p.1 ≠ e ∧ p.1 ≠ it) →
      wpAny (model prog w) A (execs body env) (EnPost h₀ env.locals Led ps stored m₀ P e it oe oi i { s with heap := h, toks := tk } Q) E { s with heap := h, toks := tk })
    (done : ∀ (c : σ) (u : Str → Option Value) h tk, P n c → Fr h₀ env.locals h (kstB (fun z => if stored.contains z then u z else m₀ z) (ps c)) → News h₀ env.locals h (Led c) → Q .next { s with heap := h, toks := tk })
    (hE : PassesOwn (model prog w) A env E := by passes_own) :
    wpAny (model prog w) A (call (.type "enumerate") [.ref l]) (fun xval s₁ => EnAt prog w A E env (.Tuple [.Name xi pi, .Name xv pv] x1 pt) body Q xval s₁) E s := by
  refine call_enumerate_1 (N _ (hl c₀)).1 fun h1 he1 hit1 hz1 hk1 => ?_
  refine wpAny_pyIter_enum he1 ?_
  obtain ⟨e, he⟩ : ∃ x, s.heap.objs.size + 1 = x := ⟨_, rfl⟩
  rw [he] at he1 ⊢
  obtain ⟨it, hi⟩ : ∃ x, s.heap.objs.size = x := ⟨_, rfl⟩
  rw [hi] at he1 hit1
  have hei : e ≠ it := by rw [← he, ← hi]; exact Nat.ne_of_gt (Nat.lt_succ_self _)
  have heL : e ≠ env.locals := by rw [← he]; exact Nat.ne_of_gt (Nat.lt_succ_of_lt F.ns.lt)
  have hiL : it ≠ env.locals := by rw [← hi]; exact Nat.ne_of_gt F.ns.lt
  have he0 : h₀.get? e = none := Heap.get?_none_of_le (by rw [← he]; exact Nat.le_succ_of_le (Nat.le_trans F.above (Nat.le_of_lt F.ns.lt)))
  have hi0 : h₀.get? it = none := Heap.get?_none_of_le (by rw [← hi]; exact Nat.le_trans F.above (Nat.le_of_lt F.ns.lt))
  have off0 : ∀ p ∈ Led c₀, p.1 ≠ e ∧ p.1 ≠ it := fun p hp => by
    have := Heap.lt_size (N p hp).1
    rw [← he, ← hi]
    exact ⟨Nat.ne_of_lt (Nat.lt_succ_of_lt this), Nat.ne_of_lt this⟩
  let P9 : Nat → Shared → Prop := fun k s' => ∃ (c : σ) (h' : Heap) (tk : Nat) (m' : Str → Option Value) (i : Nat) (old : Value), s' = { s with heap := h', toks := tk } ∧ IsEnum h' e it ((i : Nat) : Int) old ∧ h'.IsListIter it l i ∧ Fr h₀ env.locals h' m' ∧ News h₀ env.locals h' (Led c) ∧ (∀ p ∈ Led c, p.1 ≠ e ∧ p.1 ≠ it) ∧
      (∀ p ∈ ps c, m' p.1 = some p.2) ∧ (∀ z, (∀ p ∈ ps c, z ≠ p.1) → stored.contains z = false → m' z = m₀ z) ∧ P i c ∧ i ≤ n ∧ k = n + 1 - i
  refine codeAny_forLoop_any P9 ?_ (n + 1)
    ⟨c₀, h1, s.toks, m₀, 0, .none, rfl, he1, hit1, F.keeps hk1, (fun p hp => ⟨hk1 _ _ (N p hp).1, (N p hp).2⟩), off0, hk, fun _ _ _ => rfl, hp, Nat.zero_le _, rfl⟩
  rintro k s' ⟨c, H, tk, m', i, old, rfl, he', hit', F', N', off, b1, b2, hP, hi', rfl⟩
  have hlen := hn i c hP
  have hL' : H.IsList l (its c).toArray := PySem.IsL.isList (n := lk c) (N' _ (hl c)).1
  cases hv : (its c)[i]? with
  | none =>
    have hsz : i = n := Nat.le_antisymm hi' (by rw [← hlen]; simpa using hv)
    subst hsz
    refine wpAny_pyNext_enum_end hh he' hit' hL' (by simpa using hv) fun h₁ he₁ => wpAny_execs_nil ?_
    refine done c m' h₁ tk hP ?_ fun p hp => ⟨he₁ _ _ (off p hp).2 (N' p hp).1, (N' p hp).2⟩
    rw [kstB_em b1 b2]
    exact ⟨F'.ns.extBut he₁ (Ne.symm hiL), fun b o x => he₁ b o (fun q => by rw [q, hi0] at x; cases x) (F'.keep b o x), F'.above⟩
  | some v =>
    have hlt : i < n := by rw [← hlen]; exact (List.getElem?_eq_some_iff.mp hv).1
    have heH : e < H.objs.size := Heap.lt_size he'
    have hLH : env.locals < H.objs.size := F'.ns.lt
    obtain ⟨oi0, hoi0, _⟩ := id hit'
    have hiH : it < H.objs.size := Heap.lt_size hoi0
    refine wpAny_pyNext_enum_item he' hit' hL' (by simpa using hv) hei fun h₁ heo hit₁ ht₁ hz₁ hk₁ => ?_
    refine wpAny_letOwnedTupleGo_enum heo fun h₂ he₂ hs₂ => ?_
    replace hs₂ : Heap.SameBut e h₁ h₂ := hs₂
    have ht₂ : h₂.IsTuple H.objs.size #[.int i tk, v] := ⟨_, (hs₂.2 _ (Nat.ne_of_gt heH)).trans ht₁, rfl, _, rfl⟩
    have hz₂ : h₂.objs.size = H.objs.size + 1 := hs₂.1.trans hz₁
    refine wpAny_assign_Tuple hh ht₂ rfl rfl fun h₃ hx₃ => ?_
    replace hx₃ : Heap.ExtBut h₂.objs.size h₂ h₃ := hx₃
    have old₃ : ∀ b o, b < H.objs.size → h₂.get? b = some o → h₃.get? b = some o := fun b o hb x => hx₃ b o (by rw [hz₂]; exact Nat.ne_of_lt (Nat.lt_succ_of_lt hb)) x
    have hn₃ : h₃.Ns env.locals m' := (F'.ns.at fun o x => hk₁ _ o (Ne.symm heL) (Ne.symm hiL) x).sameBut hs₂ (Ne.symm heL) |>.at fun o x => old₃ _ o hLH x
    show wpAny _ A (do holding [v] (assign (.Name xi pi) env (.int i tk)); do holding [] (assign (.Name xv pv) env v); pure ()) _ _ _
    refine wpAny_bind (wpAny_holding (wpAny_assign_Name (wpAny_storeName_local hxi hn₃ (fun h₄ hn₄ hs₄ => ?_) hp')))
    replace hs₄ : Heap.SameBut env.locals h₃ h₄ := hs₄
    refine wpAny_bind (wpAny_holding (wpAny_assign_Name (wpAny_storeName_local hxv hn₄ (fun h₅ hn₅ hs₅ => wpAny_pure ?_) hp')))
    replace hs₅ : Heap.SameBut env.locals h₄ h₅ := hs₅
    have up : ∀ b o, b ≠ env.locals → b ≠ e → b ≠ it → H.get? b = some o → h₅.get? b = some o := fun b o hbL hbe hbi x =>
      hs₅.extBut b o hbL (hs₄.extBut b o hbL (old₃ b o (Heap.lt_size x) (hs₂.extBut b o hbe (hk₁ b o hbe hbi x))))
    have up2 : ∀ b o, b ≠ env.locals → b < H.objs.size → h₂.get? b = some o → h₅.get? b = some o := fun b o hbL hb x => hs₅.extBut b o hbL (hs₄.extBut b o hbL (old₃ b o hb x))
    obtain ⟨oe, hoe, e5⟩ : ∃ oe, oe = _ ∧ h₅.get? e = some oe := ⟨_, rfl, up2 e _ heL heH he₂⟩
    obtain ⟨oi, hoi, hoic, hoid⟩ := (hit₁.extBut hs₂.extBut (Ne.symm hei)).at fun o x => up2 it o hiL hiH x
    have F₅ : Fr h₀ env.locals h₅ (fun y => if y = xv then some v else if y = xi then some (.int (i : Int) tk) else m' y) :=
      ⟨hn₅, fun b o x => up b o (fun q => by rw [q, Heap.get?_none_of_le F'.above] at x; cases x) (fun q => by rw [q, he0] at x; cases x) (fun q => by rw [q, hi0] at x; cases x) (F'.keep b o x), F'.above⟩
    rw [← kstB_em b1 b2] at F₅
    have N₅ : News h₀ env.locals h₅ ((e, oe) :: (it, oi) :: Led c) := fun p hp => by
      rcases List.mem_cons.mp hp with rfl | hp
      · exact ⟨e5, heL, he0⟩
      rcases List.mem_cons.mp hp with rfl | hp
      · exact ⟨hoi, hiL, hi0⟩
      · exact ⟨up _ _ (N' p hp).2.1 (off p hp).1 (off p hp).2 (N' p hp).1, (N' p hp).2⟩
    refine wpAny_mono (turn c i v tk m' h₅ _ e it oe oi hv hlt hP F₅ N₅ off) (fun f s₃ q => ?_) hE
    have fin : ∀ tk5, EnEnd h₀ env.locals Led ps stored m₀ P e it oe oi i { s with heap := h₅, toks := tk5 } s₃ → ∃ m, m < n + 1 - i ∧ P9 m s₃ := by
      rintro tk5 ⟨c', h', tk', m'', news', rfl, F6, N6, a1, a2, a3, a4, a5⟩
      refine ⟨n + 1 - (i + 1), by omega, c', h', tk', m'', i + 1, v, rfl, ?_, ⟨oi, (N6 _ (a1 _ (.tail _ (.head _)))).1, hoic, hoid⟩, F6, fun p hp => N6 p (a1 p (.tail _ (.tail _ hp))), a2, a3, a4, a5, hlt, rfl⟩
      have : ((i + 1 : Nat) : Int) = (i : Int) + 1 := by push_cast; rfl
      rw [this]
      exact (N6 _ (a1 _ (.head _))).1.trans (congrArg some hoe)
    cases f with
    | ret v => exact q
    | brk => exact q
    | next => exact fin _ q
    | cont => exact fin _ q
end
end
section
open PyProof.Rows
/-! a loop over a range (step 1), the ledger in the turn's own hand -/
noncomputable def RnEnd {σ : Type} (h₀ : Heap) (L : Addr) (Led : σ → List (Addr × Obj)) (ps : σ → List (Str × Value)) (stored : List Str) (m₀ : Str → Option Value) (P : Nat → σ → Prop) (it : Addr) (oi : Obj) (i : Nat) (s₁ s₂ : Shared) : Prop :=
  ∃ (c : σ) (h' : Heap) (tk : Nat) (m' : Str → Option Value) (news' : List (Addr × Obj)), s₂ = { s₁ with heap := h', toks := tk } ∧ Fr h₀ L h' m' ∧ News h₀ L h' news' ∧ (∀ p ∈ (it, oi) :: Led c, p ∈ news') ∧ (∀ p ∈ Led c, p.1 ≠ it) ∧ (∀ p ∈ ps c, m' p.1 = some p.2) ∧
    (∀ z, (∀ p ∈ ps c, z ≠ p.1) → stored.contains z = false → m' z = m₀ z) ∧ P (i + 1) c
noncomputable def RnPost {σ : Type} (h₀ : Heap) (L : Addr) (Led : σ → List (Addr × Obj)) (ps : σ → List (Str × Value)) (stored : List Str) (m₀ : Str → Option Value) (P : Nat → σ → Prop) (it : Addr) (oi : Obj) (i : Nat) (s₁ : Shared) (Q : Flow → Shared → Prop) (f : Flow) (s₂ : Shared) : Prop :=
  match f with
  | .ret v => Q (.ret v) s₂
  | .brk => Q .next s₂
  | _ => RnEnd h₀ L Led ps stored m₀ P it oi i s₁ s₂
theorem rn_end {σ : Type} {h₀ : Heap} {L : Addr} {Led : σ → List (Addr × Obj)} {ps : σ → List (Str × Value)} {stored : List Str} {m₀ m' : Str → Option Value} {P : Nat → σ → Prop} {it : Addr} {oi : Obj} {i : Nat} {s₁ : Shared} {h' : Heap} {tk : Nat} {news' : List (Addr × Obj)} (c : σ)
    (F : Fr h₀ L h' m') (N : News h₀ L h' news') (hn : ∀ p ∈ (it, oi) :: Led c, p ∈ news') (ho : ∀ p ∈ Led c, p.1 ≠ it) (hk : ∀ p ∈ ps c, m' p.1 = some p.2) (hr : ∀ z, (∀ p ∈ ps c, z ≠ p.1) → stored.contains z = false → m' z = m₀ z) (hp : P (i + 1) c) :
    RnEnd h₀ L Led ps stored m₀ P it oi i s₁ { s₁ with heap := h', toks := tk } := ⟨c, h', tk, m', news', rfl, F, N, hn, ho, hk, hr, hp⟩
section
variable {prog : Program} {w : World} {A : Around} {E : Value → Shared → Prop} {s : Shared} {env : Env} {h₀ : Heap} {Q : Flow → Shared → Prop} {body : List Stmt}
theorem for_rng {σ : Type} {r : Addr} {a b : Int} {t₀ u₀ v₀ : Tok} {n : Nat} {m₀ : Str → Option Value} {x : Str} {px : Pos} (Led : σ → List (Addr × Obj)) (ps : σ → List (Str × Value)) (stored : List Str) (P : Nat → σ → Prop) (c₀ : σ)
    (hh : A.handled = none) (hx : env.kindOf x = some .local) (hp' : (env.scope.kind == .class || (env.scope.kind == .module && env.locals != env.globals)) = false)
    (hr : IsRange s.heap r a b 1 t₀ u₀ v₀) (hsm : Builtin.Range.small a b 1 = true) (hn : Builtin.Range.rangeSize a b 1 = ((n : Nat) : Int)) (F : Fr h₀ env.locals s.heap m₀) (N : News h₀ env.locals s.heap (Led c₀)) (hk : ∀ p ∈ ps c₀, m₀ p.1 = some p.2) (hp : P 0 c₀)
    (turn : ∀ (c : σ) i t (u : Str → Option Value) h tk it oi, i < n → P i c → Fr h₀ env.locals h (fun y => if y = x then some (.int (a + (i : Int)) t) else kstB (fun z => if stored.contains z then u z else m₀ z) (ps c) y) →
      News h₀ env.locals h ((it, oi) :: Led c) → (∀ p ∈ Led c, p.1 ≠ it) →
      wpAny (model prog w) A (execs body env) (RnPost h₀ env.locals Led ps stored m₀ P it oi i { s with heap := h, toks := tk } Q) E { s with heap := h, toks := tk })
    (done : ∀ (c : σ) (u : Str → Option Value) h tk, P n c → Fr h₀ env.locals h (kstB (fun z => if stored.contains z then u z else m₀ z) (ps c)) → News h₀ env.locals h (Led c) → Q .next { s with heap := h, toks := tk })
    (hE : PassesOwn (model prog w) A env E := by passes_own) :
    EnAt prog w A E env (.Name x px) body Q (.ref r) s := by
  refine wpAny_pyIter_range hr hsm ?_
  obtain ⟨it, hi⟩ : ∃ x, s.heap.objs.size = x := ⟨_, rfl⟩
  rw [hi]
  have hI : (s.heap.push { cls := .type "range_iterator", data := .fields #[rawInt a, rawInt (Builtin.Range.rangeSize a b 1), rawInt 1] }).get? it = some { cls := .type "range_iterator", data := .fields #[rawInt a, rawInt (Builtin.Range.rangeSize a b 1), rawInt 1] } := by
    rw [← hi]; exact Heap.get?_push_size _ rfl
  have W : Walks prog w A it [it] [it] n (fun i v => i < n ∧ ∃ t, v = .int (a + i * 1) t) (fun i h => IsRangeIter h it (a + (i : Nat) * 1) ((n : Int) - (i : Nat)) 1) := (Walks.range hh _ a 1 n).bound
  have hiL : it ≠ env.locals := by rw [← hi]; exact Nat.ne_of_gt F.ns.lt
  have hi0 : h₀.get? it = none := Heap.get?_none_of_le (by rw [← hi]; exact Nat.le_trans F.above (Nat.le_of_lt F.ns.lt))
  have off0 : ∀ p ∈ Led c₀, p.1 ≠ it := fun p hp => by rw [← hi]; exact Nat.ne_of_lt (Heap.lt_size (N p hp).1)
  have hst0 : IsRangeIter (s.heap.push { cls := .type "range_iterator", data := .fields #[rawInt a, rawInt (Builtin.Range.rangeSize a b 1), rawInt 1] }) it (a + ((0 : Nat) : Int) * 1) ((n : Int) - ((0 : Nat) : Int)) 1 := by
    show _ = _
    rw [hI, hn]
    simp
  let P9 : Nat → Shared → Prop := fun k s' => ∃ (c : σ) (h' : Heap) (tk : Nat) (m' : Str → Option Value) (i : Nat), s' = { s with heap := h', toks := tk } ∧ IsRangeIter h' it (a + (i : Nat) * 1) ((n : Int) - (i : Nat)) 1 ∧ Fr h₀ env.locals h' m' ∧ News h₀ env.locals h' (Led c) ∧ (∀ p ∈ Led c, p.1 ≠ it) ∧
      (∀ p ∈ ps c, m' p.1 = some p.2) ∧ (∀ z, (∀ p ∈ ps c, z ≠ p.1) → stored.contains z = false → m' z = m₀ z) ∧ P i c ∧ i ≤ n ∧ k = n + 1 - i
  refine codeAny_forLoop P9 ?_ (n + 1)
    ⟨c₀, _, s.toks, m₀, 0, rfl, hst0, F.keeps (fun _ _ e => Heap.get?_push_of_some _ e), (fun p hp => ⟨Heap.get?_push_of_some _ (N p hp).1, (N p hp).2⟩), off0, hk, fun _ _ _ => rfl, hp, Nat.zero_le _, rfl⟩
  rintro k s' ⟨c, H, tk, m', i, rfl, hst, F', N', off, b1, b2, hP, hi', rfl⟩
  have next : ∀ h₁ : Heap, (∀ b o, b ∉ [it] → H.get? b = some o → h₁.get? b = some o) → Fr h₀ env.locals h₁ m' ∧ News h₀ env.locals h₁ (Led c) := fun h₁ hk₁ =>
    ⟨⟨F'.ns.at' fun o e => hk₁ _ o (fun q => hiL (List.mem_singleton.mp q).symm) e, fun b o e => hk₁ b o (fun q => by rw [List.mem_singleton.mp q, hi0] at e; cases e) (F'.keep b o e), F'.above⟩, fun p hp => ⟨hk₁ _ _ (fun q => off p hp (List.mem_singleton.mp q)) (N' p hp).1, (N' p hp).2⟩⟩
  by_cases hlt : i < n
  · refine W.item i _ _ _ hlt hst fun v h₁ tk₁ hPv hst₁ hk₁ => ?_
    obtain ⟨F₁, N₁⟩ := next h₁ hk₁
    obtain ⟨_, t, rfl⟩ := hPv
    refine wpAny_assign_Name (wpAny_storeName_local hx F₁.ns (fun h₂ hn₂ hs₂ => ?_) hp')
    have F₂ := F₁.set hn₂ hs₂
    rw [← kstB_em b1 b2, Int.mul_one] at F₂
    have hst₂ : h₂.get? it = some _ := (hs₂.2 it hiL).trans hst₁
    obtain ⟨oi, hoi, hst₂⟩ : ∃ oi, oi = _ ∧ h₂.get? it = some oi := ⟨_, rfl, hst₂⟩
    have N₂ : News h₀ env.locals h₂ ((it, oi) :: Led c) := fun p hp => by
      rcases List.mem_cons.mp hp with rfl | hp
      · exact ⟨hst₂, hiL, hi0⟩
      · exact N₁.set hs₂ p hp
    refine wpAny_mono (turn c i t m' h₂ _ it oi hlt hP F₂ N₂ off) (fun f s₃ q => ?_) hE
    have fin : ∀ tk5, RnEnd h₀ env.locals Led ps stored m₀ P it oi i { s with heap := h₂, toks := tk5 } s₃ → ∃ m, m < n + 1 - i ∧ P9 m s₃ := by
      rintro tk5 ⟨c', h', tk', m'', news', rfl, F6, N6, a1, a2, a3, a4, a5⟩
      exact ⟨n + 1 - (i + 1), by omega, c', h', tk', m'', i + 1, rfl, (N6 _ (a1 _ (.head _))).1.trans (congrArg some hoi), F6, fun p hp => N6 p (a1 p (.tail _ hp)), a2, a3, a4, a5, hlt, rfl⟩
    cases f with
    | ret v => exact q
    | brk => exact q
    | next => exact fin _ q
    | cont => exact fin _ q
  · obtain rfl : i = n := Nat.le_antisymm hi' (Nat.not_lt.mp hlt)
    refine W.done _ _ _ hst fun h₁ tk₁ hk₁ => wpAny_execs_nil ?_
    obtain ⟨F₁, N₁⟩ := next h₁ hk₁
    rw [← kstB_em b1 b2] at F₁
    exact done c m' h₁ tk₁ hP F₁ N₁
end
end
section
open PyProof.Rows
/-! tuple.__new__ of a class of the program's own that stands on tuple -/
section
variable {prog : Program} {w : World} {A : Around} {E : Value → Shared → Prop} {h : Heap} {g : Array GenState} {d : Drawn} {t : Nat} {os : OsState} {C T : Addr} {cd : ClassData} {oc : Value} {od : Option Addr} {sl : Array (Option Value)} {items : Array Value} {n : Nat}
structure TupCls (prog : Program) (w : World) (h : Heap) (C : Addr) : Prop where
  typ : Looks (model prog w) h (isType (.ref C)) true
  sub : Looks (model prog w) h (isSubtype (.ref C) (.type "tuple")) true
  base : Looks (model prog w) h (Bind.staticBase (.ref C)) (.type "tuple")
  init : Looks (model prog w) h (typeLookup (.ref C) "__init__") (some (.builtin "object.__init__"))
theorem tn_kind : builtinKind "tuple.__new__" = some .builtinFn := by decide +kernel
theorem tn_split : splitId "tuple.__new__" = some ("tuple", "__new__") := by decide +kernel
theorem tup_new {Q : Value → Shared → Prop} (Y : TupCls prog w h C) (hC : h.get? C = some ⟨oc, od, .cls cd, sl⟩) (hdel : cd.hasDel = false) (hT : h.get? T = some ({ cls := .type "tuple", data := .seq items n } : Obj)) (hsz : items.size ≤ 1000)
    (hq : ∀ h' dx x, (∀ b o, h.get? b = some o → h'.get? b = some o) → h.get? x = none → h'.get? x = some ({ cls := .ref C, dict := some dx, data := .seq items } : Obj) → Q (.ref x) ⟨h', g, d, t, os⟩) :
    wpAny (model prog w) A (call (.builtin "tuple.__new__") [.ref C, .ref T]) Q E ⟨h, g, d, t, os⟩ := by
  obtain ⟨typ, sub, base, init⟩ := Y
  have mt : Looks (model prog w) h (Bind.madeBy (.type "tuple")) (some "tuple.__new__") := Looks.of_pure PySem.F.called_tuple.made
  have here : Looks (model prog w) h (Bind.madeHere "tuple.__new__" (.ref C)) () := base.andThen (mt.andThen (Looks.of_pure (by simp only [Option.map_some, bne_self_eq_false, Bool.false_eq_true, if_false])))
  refine wpAny_call (codeAny_call_builtin_code (Code.quiet_builtin _ (by decide +kernel)) ?_)
  simp only [checkBuiltinCall, tn_kind, tn_split]
  repeat (first | simp only [bne_self_eq_false, Bool.false_eq_true, if_false, Bool.not_true] | lk)
  refine codeAny_builtin PySem.F.entry_tuple_new ?_
  unfold Builtin.«tuple.__new__»
  repeat (first | simp only [beq_self_eq_true, if_true, bne_self_eq_false, Bool.false_eq_true, if_false, Bool.not_true] | with_reducible refine wpAny_bind (wpAny_collect_seq T (.inr rfl) hT rfl rfl (fun h' k => ?_) (by unfold sizeLine; omega)) | lk)
  rw [if_neg (by rw [Array.toArray_toList]; unfold sizeLine; omega)]
  show wpAny _ _ (newObjAsIs _ _ _) _ _ _
  unfold newObjAsIs classHasDel
  refine wpAny_bind (wpAny_alloc (wpAny_bind (wpAny_bind (wpAny_load (Heap.get?_push_of_some _ (Heap.get?_push_of_some _ (k _ _ hC))) (wpAny_pure ?_)))))
  dsimp only
  rw [hdel]
  refine wpAny_pure (wpAny_pure ?_)
  show Q _ _
  rw [Array.toArray_toList]
  refine hq _ _ _ (fun b o hb => Heap.get?_push_of_some _ (Heap.get?_push_of_some _ (k b o hb))) ?_ (Heap.get?_push_size _ rfl)
  cases q : h.get? (h'.push { cls := .type "dict", data := .dict #[] }).objs.size with
  | none => rfl
  | some o =>
    exact absurd (Heap.lt_size (Heap.get?_push_of_some (h := h') { cls := .type "dict", data := .dict #[] } (k _ _ q))) (Nat.lt_irrefl _)
end
section
variable {prog : Program} {w : World} {A : Around} {E : Value → Shared → Prop} {s : Shared} {h₀ : Heap} {L C T : Addr} {m : Str → Option Value} {news : List (Addr × Obj)} {cd : ClassData} {oc : Value} {od : Option Addr} {sl : Array (Option Value)} {items : Array Value} {n : Nat}
theorem tup_newK {Q : Value → Shared → Prop} (F : Fr h₀ L s.heap m) (N : News h₀ L s.heap news) (Y : TupCls prog w s.heap C) (hC : s.heap.get? C = some ⟨oc, od, .cls cd, sl⟩) (hdel : cd.hasDel = false) (hT : (T, ({ cls := .type "tuple", data := .seq items n } : Obj)) ∈ news) (hsz : items.size ≤ 1000)
    (hq : ∀ x dx h', Fr h₀ L h' m → News h₀ L h' ((x, ({ cls := .ref C, dict := some dx, data := .seq items } : Obj)) :: news) → (∀ p ∈ news, p.1 ≠ x) → Q (.ref x) { s with heap := h' }) :
    wpAny (model prog w) A (call (.builtin "tuple.__new__") [.ref C, .ref T]) Q E s := by
  obtain ⟨h, g, d, t, os⟩ := s
  refine tup_new Y hC hdel (N _ hT).1 hsz fun h' dx x k hx hx' => ?_
  have xL : x ≠ L := fun q => by obtain ⟨oL, _, _, hL, _⟩ := F.ns; rw [q, hL] at hx; cases hx
  refine hq x dx h' (F.keeps k) (fun p hp => ?_) (fun p hp q => by have := (N p hp).1; rw [q, hx] at this; cases this)
  rcases List.mem_cons.mp hp with rfl | hp
  · refine ⟨hx', xL, ?_⟩
    cases q : h₀.get? x with
    | none => rfl
    | some o => have := F.keep _ _ q; rw [hx] at this; cases this
  · exact ⟨k _ _ (N p hp).1, (N p hp).2⟩
theorem bestBase_tuple : Builtin.Slots.bestBase [.type "tuple"] = pure (.type "tuple") := by first | rfl | kernel_rfl
theorem tupCls_mk {h : Heap} {x y : Value} {mro : List Value} (hC : h.get? C = some ⟨oc, od, .cls cd, sl⟩) (hb : cd.bases = [.type "tuple"]) (hm : Looks (model prog w) h (mroOf (.ref C)) (x :: y :: mro)) (hmade : Looks (model prog w) h (Bind.madeBy (.ref C)) none)
    (hs : Looks (model prog w) h (isSubtype (.ref C) (.type "tuple")) true) (hi : Looks (model prog w) h (typeLookup (.ref C) "__init__") (some (.builtin "object.__init__"))) : TupCls prog w h C := by
  have mt : Looks (model prog w) h (Bind.madeBy (.type "tuple")) (some "tuple.__new__") := Looks.of_pure PySem.F.called_tuple.made
  have bb : Looks (model prog w) h (Builtin.Slots.bestBase [.type "tuple"]) (.type "tuple") := Looks.of_pure bestBase_tuple
  refine ⟨?_, hs, ?_, hi⟩
  · unfold isType
    exact (Looks.ld hC).andThen .now
  · intro A Q E s k q
    unfold Bind.staticBase
    refine wpAny_bind (hm A _ E s k ?_)
    rw [List.forIn_cons]
    refine wpAny_bind (wpAny_bind ?_)
    dsimp only
    refine wpAny_bind (hmade A _ E s k ?_)
    simp only [Option.isSome_none, Bool.false_eq_true, if_false]
    unfold classData
    refine wpAny_bind (wpAny_bind (wpAny_load (k _ _ hC) (wpAny_pure ?_)))
    rw [hb]
    refine wpAny_bind (bb A _ E s k (wpAny_pure ?_))
    dsimp only
    rw [List.forIn_cons]
    refine wpAny_bind (wpAny_bind ?_)
    dsimp only
    refine mt A _ E s k ?_
    simp only [Option.isSome_some, if_true]
    exact wpAny_pure (wpAny_pure (wpAny_pure q))
end
end
section
theorem wl_21 : True := by
  k_with "compareOp Gt ref ref" => ((k_here; (with_reducible show wpAny _ _ (compareOp CmpOp.Gt (Value.ref _) (Value.ref _)) _ _ _); k_dflt (refine' gt_lists ?Nq64 ?aq64 ?bq64 ?cq64 ?dq64 ?eq64 ?_; (case Nq64 => k_asm); (case aq64 => first | (with_reducible assumption) | k_mem); (case bq64 => first | (with_reducible assumption) | k_mem); (case cq64 => with_reducible assumption); (case dq64 => with_reducible assumption); (case eq64 => ke_room); k_whole)))
  k_with "compareOp Lt ref ref" => ((k_here; (with_reducible show wpAny _ _ (compareOp CmpOp.Lt (Value.ref _) (Value.ref _)) _ _ _); k_dflt (refine' lt_lists ?Nq65 ?aq65 ?bq65 ?cq65 ?dq65 ?eq65 ?_; (case Nq65 => k_asm); (case aq65 => first | (with_reducible assumption) | k_mem); (case bq65 => first | (with_reducible assumption) | k_mem); (case cq65 => with_reducible assumption); (case dq65 => with_reducible assumption); (case eq65 => ke_room); k_whole)))
  k_with "subscriptTail Name BinOp ref int" => ((k_here; (try dsimp only); (with_reducible show wpAny _ _ (subscriptTail _ _ (Value.ref _) (Value.int _ _)) _ _ _); k_dflt (refine' sa_sub ?k1q66 ?k2q66 ?k3q66 ?k4q66 ?k5q66 ?k6q66 ?_ ?k7q66; (case k1q66 => k_asm); (case k2q66 => with_reducible (first | assumption | (refine List.mem_cons_of_mem _ ?_; first | assumption | (refine List.mem_cons_of_mem _ ?_; first | assumption | (refine List.mem_cons_of_mem _ ?_; first | assumption | (refine List.mem_cons_of_mem _ ?_; first | assumption | (refine List.mem_cons_of_mem _ ?_; first | assumption | (refine List.mem_cons_of_mem _ ?_; first | assumption | (refine List.mem_cons_of_mem _ ?_; first | assumption | (refine List.mem_cons_of_mem _ ?_; first | assumption | (refine List.mem_cons_of_mem _ ?_; assumption))))))))))); (case k3q66 => with_reducible assumption); (case k4q66 => omega); (case k5q66 => omega); (case k6q66 => omega); (case k7q66 => with_unfolding_all rfl); k_whole); intro _))
  k_with "subscriptTail Name Name ref int" => ((k_here; (try dsimp only); (with_reducible show wpAny _ _ (subscriptTail _ _ (Value.ref _) (Value.int _ _)) _ _ _); k_dflt (refine' sa_sub ?k1q67 ?k2q67 ?k3q67 ?k4q67 ?k5q67 ?k6q67 ?_ ?k7q67; (case k1q67 => k_asm); (case k2q67 => with_reducible (first | assumption | (refine List.mem_cons_of_mem _ ?_; first | assumption | (refine List.mem_cons_of_mem _ ?_; first | assumption | (refine List.mem_cons_of_mem _ ?_; first | assumption | (refine List.mem_cons_of_mem _ ?_; first | assumption | (refine List.mem_cons_of_mem _ ?_; first | assumption | (refine List.mem_cons_of_mem _ ?_; first | assumption | (refine List.mem_cons_of_mem _ ?_; first | assumption | (refine List.mem_cons_of_mem _ ?_; first | assumption | (refine List.mem_cons_of_mem _ ?_; assumption))))))))))); (case k3q67 => with_reducible assumption); (case k4q67 => omega); (case k5q67 => omega); (case k6q67 => omega); (case k7q67 => with_unfolding_all rfl); k_whole); intro _))
  k_with "own subscriptTail Name Slice ref ref" => ((k_here; (with_reducible show wpAny _ _ (subscriptTail _ (PySem.Expr.Slice _ _ none _) (Value.ref _) (Value.ref _)) _ _ _); k_dflt (refine' sa_slice ?Fq68 ?Nq68 ?lq68 ?iq68 ?zq68 ?pq68 ?qq68 ?_ ?sq68 ?tq68; (case Fq68 => k_asm); (case Nq68 => k_asm); (case lq68 => with_reducible (first | assumption | (refine List.mem_cons_of_mem _ ?_; first | assumption | (refine List.mem_cons_of_mem _ ?_; first | assumption | (refine List.mem_cons_of_mem _ ?_; first | assumption | (refine List.mem_cons_of_mem _ ?_; first | assumption | (refine List.mem_cons_of_mem _ ?_; first | assumption | (refine List.mem_cons_of_mem _ ?_; first | assumption | (refine List.mem_cons_of_mem _ ?_; first | assumption | (refine List.mem_cons_of_mem _ ?_; first | assumption | (refine List.mem_cons_of_mem _ ?_; assumption))))))))))); (case iq68 => with_reducible assumption); (case zq68 => omega); (case pq68 => kmk_part); (case qq68 => kmk_part); (case sq68 => with_unfolding_all rfl); (case tq68 => kmk_pure); k_whole); intro _ _ _ _ _ l1w8 _ _; (try k_lt l1w8); (try k_sweep)))
  k_with "call builtin:list.extend cons nil" => ((k_here; (with_reducible show wpAny _ _ (call (Value.builtin _) [Value.ref _, Value.ref _]) _ _ _); k_dflt (refine' sa_extend0 ?Fq69 ?Nq69 ?bq69 ?uq69 ?eq69 ?Uq69 ?iq69 ?zq69 ?_; (case Fq69 => k_asm); (case Nq69 => k_asm); (case bq69 => k_mem); (case uq69 => with_reducible assumption); (case eq69 => omega); (case Uq69 => k_upd); (case iq69 => with_reducible assumption); (case zq69 => omega); k_whole); intro _ _ N'w8; (try dsimp only at N'w8); (try k_sweep)))
  trivial
section
theorem wl_22 : True := by
  k_with "unf" => (repeat' (first | (k_unfold; (try dsimp only)) | ((first | (with_reducible show wpAny _ _ (execs _ _) _ _ _) | (with_reducible show wpAny _ _ (call _ _) _ _ _) | (with_reducible show wpAny _ _ (isTrue _ _ _) _ _ _) | (with_reducible show wpAny _ _ (truthy _) _ _ _)); k_fold) | ((fail_if_success first | (with_reducible show KswEnd _ _ _ _ _ _ _ _ _ _ _ _) | (with_reducible show FlEnd _ _ _ _ _ _ _ _ _ _ _ _) | (with_reducible show F1End _ _ _ _ _ _ _ _ _ _ _) | (with_reducible show wpAny _ _ (exec (Stmt.While _ _ _ _) _) _ _ _) | (with_reducible show wpAny _ _ (exec (Stmt.For _ _ _ _ _) _) _ _ _) | (with_reducible show wpAny _ _ (pyIter _) (fun it s₂ => LoopAtV _ _ _ _ _ _ _ _ _ it s₂) _ _) | (with_reducible show wpAny _ _ (eval (PySem.Expr.ListComp _ _ _ _) _) _ _ _) | (with_reducible show LCg.CompSrc _ _ _ _ _ _ _ _ _ _ _ _ _ _) | (with_reducible show LCt.CompSrcT _ _ _ _ _ _ _ _ _ _ _ _ _ _ _) | (with_reducible show LCg.CompEnd _ _ _ _ _ _ _ _ _ _ _ _ _ _)); first | ((with_reducible show _ ∧ _); with_reducible (k_extra "own And")) | ((with_reducible show wpAny _ _ (binaryOp Operator.Add (Value.bytes _ _) (Value.bytes _ _)) _ _ _); with_reducible (k_extra "own binaryOp Add bytes bytes")) | ((with_reducible show wpAny _ _ (binaryOp Operator.Add (Value.ref _) (Value.ref _)) _ _ _); with_reducible (k_extra "own binaryOp Add ref ref")) | ((with_reducible show wpAny _ _ (binaryOp Operator.Mod (Value.str _ _) (Value.ref _)) _ _ _); with_reducible (k_extra "own binaryOp Mod str ref")) | ((with_reducible show wpAny _ _ (binaryOp Operator.RShift _ _) _ _ _); with_reducible (k_extra "own binaryOp RShift int int")) | ((with_reducible show wpAny _ _ (eval (PySem.Expr.Name _ _) _) _ _ _); with_reducible (k_extra "own eval Name")) | ((with_reducible show wpAny _ _ (exec (Stmt.Raise _ _ _) _) _ _ _); with_reducible (k_extra "own exec Raise some none")) | ((with_reducible show wpAny _ _ (getMethod (Value.bytes _ _) _ _) _ _ _); with_reducible (k_extra "own getMethod bytes")) | ((with_reducible show wpAny _ _ (getMethod (Value.ref _) _ _) _ _ _); with_reducible (k_extra "own getMethod ref")) | ((with_reducible show wpAny _ _ (getMethod (Value.str _ _) _ _) _ _ _); with_reducible (k_extra "own getMethod str")) | ((with_reducible show wpAny _ _ (leaving _ _) _ _ _); k_extra "own leaving ref") | ((with_reducible show wpAny _ _ (subscriptTail _ (PySem.Expr.Slice _ _ _ _) (Value.ref _) _) _ _ _); with_reducible (k_extra "own subscriptTail Name Slice ref ref")) | ((with_reducible show wpAny _ _ (truthy (Value.ref _)) _ _ _); with_reducible (k_extra "own truthy ref")) | walk1 | (dsimp only; walk1) | (leave1; walk_say "STEP leave1"; try dsimp only) | fail "no step")))
  trivial
/-- the items of a that stand at its head -/
noncomputable def skipE (e : Str) : List Str → List Str
  | [] => []
  | x :: xs => if x = e then skipE e xs else x :: xs
noncomputable def sldR : Nat → List Str → List Str → List Str × List Str
  | 0, xs, ys => (xs, ys)
  | k + 1, x :: xs, y :: ys => if slt x y = true then (x :: (sldR k (skipE x xs) (y :: ys)).1, (sldR k (skipE x xs) (y :: ys)).2)
      else if slt y x = true then ((sldR k (x :: xs) (skipE y ys)).1, y :: (sldR k (x :: xs) (skipE y ys)).2)
      else sldR k (skipE x xs) (skipE y ys)
  | _ + 1, xs, ys => (xs, ys)
theorem getD_pre {xs0 : List Str} {mx : Str} {i : Nat} (h : i ≤ xs0.length) : (i < xs0.length ∧ (xs0 ++ [mx]).getD i Str.empty ∈ xs0) ∨ (i = xs0.length ∧ (xs0 ++ [mx]).getD i Str.empty = mx) := by
  rcases Nat.lt_or_ge i xs0.length with hi | hi
  · left
    refine ⟨hi, ?_⟩
    simp [List.getD, List.getElem?_append_left hi, List.getElem?_eq_getElem hi]
  · right
    have : i = xs0.length := by omega
    subst this
    simp [List.getD]
theorem slt_irrefl (x : Str) : slt x x = false := by
  simp [slt, List.lt_irrefl]
theorem slt_asymm {x y : Str} (h : slt x y = true) : slt y x = false := by
  simp only [slt, decide_eq_true_eq, decide_eq_false_iff_not] at h ⊢
  exact List.lt_asymm h
theorem drop_at {l : List Str} {i : Nat} (h : i < l.length) : l.drop i = l.getD i Str.empty :: l.drop (i + 1) := by
  rw [List.drop_eq_getElem_cons h]
  simp [List.getD, List.getElem?_eq_getElem h]
theorem skip_here {e : Str} {l : List Str} {i : Nat} (h : i < l.length) (hne : l.getD i Str.empty ≠ e) : skipE e (l.drop i) = l.drop i := by
  rw [drop_at h, skipE, if_neg hne]
theorem skip_next {e : Str} {l : List Str} {i : Nat} (h : i < l.length) (he : l.getD i Str.empty = e) : skipE e (l.drop i) = skipE e (l.drop (i + 1)) := by
  rw [drop_at h, skipE, if_pos he]
section
variable {k i j i' j' : Nat} {xs ys ms us : List Str} {R : List Str × List Str}
theorem sld_stepL (q : (ms ++ (sldR (k + 1) (xs.drop i) (ys.drop j)).1, us ++ (sldR (k + 1) (xs.drop i) (ys.drop j)).2) = R) (hi : i < xs.length) (hj : j < ys.length) (c : slt (xs.getD i Str.empty) (ys.getD j Str.empty) = true)
    (hd : xs.drop i' = skipE (xs.getD i Str.empty) (xs.drop (i + 1))) : ((ms ++ [xs.getD i Str.empty]) ++ (sldR k (xs.drop i') (ys.drop j)).1, us ++ (sldR k (xs.drop i') (ys.drop j)).2) = R := by
  rw [← q, drop_at hi, drop_at hj, sldR, if_pos c, hd, List.append_assoc]
  rfl
theorem sld_stepR (q : (ms ++ (sldR (k + 1) (xs.drop i) (ys.drop j)).1, us ++ (sldR (k + 1) (xs.drop i) (ys.drop j)).2) = R) (hi : i < xs.length) (hj : j < ys.length) (c : slt (ys.getD j Str.empty) (xs.getD i Str.empty) = true)
    (hd : ys.drop j' = skipE (ys.getD j Str.empty) (ys.drop (j + 1))) : (ms ++ (sldR k (xs.drop i) (ys.drop j')).1, (us ++ [ys.getD j Str.empty]) ++ (sldR k (xs.drop i) (ys.drop j')).2) = R := by
  rw [← q, drop_at hi, drop_at hj, sldR, if_neg (by rw [slt_asymm c]; exact Bool.false_ne_true), if_pos c, hd, List.append_assoc]
  rfl
theorem sld_stepE (q : (ms ++ (sldR (k + 1) (xs.drop i) (ys.drop j)).1, us ++ (sldR (k + 1) (xs.drop i) (ys.drop j)).2) = R) (hi : i < xs.length) (hj : j < ys.length) (c1 : slt (xs.getD i Str.empty) (ys.getD j Str.empty) = false) (c2 : slt (ys.getD j Str.empty) (xs.getD i Str.empty) = false)
    (hd : xs.drop i' = skipE (xs.getD i Str.empty) (xs.drop (i + 1))) (hd' : ys.drop j' = skipE (ys.getD j Str.empty) (ys.drop (j + 1))) : (ms ++ (sldR k (xs.drop i') (ys.drop j')).1, us ++ (sldR k (xs.drop i') (ys.drop j')).2) = R := by
  rw [← q, drop_at hi, drop_at hj, sldR, if_neg (by rw [c1]; exact Bool.false_ne_true), if_neg (by rw [c2]; exact Bool.false_ne_true), hd, hd']
theorem news_sld {h₀ h : Heap} {L : Addr} {d x y u m : Addr × Obj} {l : List (Addr × Obj)} (N : News h₀ L h (d :: x :: y :: u :: m :: l)) : News h₀ L h (d :: m :: u :: l) := fun q hq => N q (by
  revert q; repeat' (first | with_reducible refine List.forall_mem_cons.mpr ⟨?_, ?_⟩ | (intro _ hS9; (repeat (first | with_reducible exact hS9 | with_reducible refine List.mem_cons_of_mem _ ?_)); done) | with_reducible refine List.forall_mem_append.mpr ⟨?_, ?_⟩ | ((repeat (first | with_reducible exact List.mem_cons_self | with_reducible refine List.mem_cons_of_mem _ ?_)); done) | with_reducible exact fun _ h => absurd h List.not_mem_nil))
theorem sldR_nil (k : Nat) : sldR k [] [] = ([], []) := by cases k <;> rfl
theorem sld_fin (q : (ms ++ (sldR (k + 1) (xs.drop i) (ys.drop j)).1, us ++ (sldR (k + 1) (xs.drop i) (ys.drop j)).2) = R) (hi : i + 1 = xs.length) (hj : j + 1 = ys.length) (c1 : slt (xs.getD i Str.empty) (ys.getD j Str.empty) = false) (c2 : slt (ys.getD j Str.empty) (xs.getD i Str.empty) = false) :
    (ms, us) = R := by
  rw [← q, drop_at (l := xs) (i := i) (by omega), drop_at (l := ys) (i := j) (by omega), List.drop_of_length_le (Nat.le_of_eq hi.symm), List.drop_of_length_le (Nat.le_of_eq hj.symm), sldR, if_neg (by rw [c1]; exact Bool.false_ne_true), if_neg (by rw [c2]; exact Bool.false_ne_true)]
  show _ = (ms ++ (sldR k [] []).1, us ++ (sldR k [] []).2)
  rw [sldR_nil, List.append_nil, List.append_nil]
theorem pre_of_lt {xs0 : List Str} {mx z : Str} {i : Nat} (h : i ≤ xs0.length) (o1 : ∀ x ∈ xs0, slt x mx = true) (hz : z = mx ∨ slt z mx = true) (c : slt ((xs0 ++ [mx]).getD i Str.empty) z = true) : i < xs0.length ∧ slt ((xs0 ++ [mx]).getD i Str.empty) mx = true := by
  rcases getD_pre (mx := mx) h with h9 | h9
  · exact ⟨h9.1, o1 _ h9.2⟩
  · exfalso
    rw [h9.2] at c
    rcases hz with rfl | hz
    · rw [slt_irrefl] at c; cases c
    · rw [slt_asymm hz] at c; cases c
theorem pre_at {xs0 : List Str} {mx : Str} {i : Nat} (h : i ≤ xs0.length) (o1 : ∀ x ∈ xs0, slt x mx = true) : (i < xs0.length ∧ slt ((xs0 ++ [mx]).getD i Str.empty) mx = true) ∨ (i = xs0.length ∧ (xs0 ++ [mx]).getD i Str.empty = mx) := by
  rcases getD_pre (mx := mx) h with h9 | h9
  · exact .inl ⟨h9.1, o1 _ h9.2⟩
  · exact .inr h9
theorem pre_or {xs0 : List Str} {mx : Str} {i : Nat} (h : i ≤ xs0.length) (o1 : ∀ x ∈ xs0, slt x mx = true) : (xs0 ++ [mx]).getD i Str.empty = mx ∨ slt ((xs0 ++ [mx]).getD i Str.empty) mx = true := by
  rcases pre_at h o1 with h9 | h9
  · exact .inr h9.2
  · exact .inl h9.2
theorem pre_same {xs0 : List Str} {mx z : Str} {i : Nat} (h : i ≤ xs0.length) (o1 : ∀ x ∈ xs0, slt x mx = true) (hz : slt z mx = true) (e : (xs0 ++ [mx]).getD i Str.empty = z) : i < xs0.length := by
  rcases pre_at h o1 with h9 | h9
  · exact h9.1
  · exfalso
    rw [h9.2] at e
    rw [← e, slt_irrefl] at hz; cases hz
end
theorem sld_ok (w : World) (la lb : Addr) (vs us : List Value) (xs0 ys0 : List Str) (mx : Str) (n k : Nat) (rest : List (Addr × Obj)) (h1 : StrsAre vs (xs0 ++ [mx])) (h2 : StrsAre us (ys0 ++ [mx])) (hx : xs0.length ≤ 100) (hy : ys0.length ≤ 100)
    (o1 : ∀ x ∈ xs0, slt x mx = true) (o2 : ∀ x ∈ ys0, slt x mx = true) (m1 : (la, listOf vs.toArray n) ∈ rest) (m2 : (lb, listOf us.toArray k) ∈ rest) :
    CallOkT w 120 [.ref la, .ref lb] rest 6 300 (fun r led => ∃ D M U mv uv n1 n2, r = .ref D ∧ led = (D, ({ cls := .type "tuple", data := .seq #[.ref M, .ref U] } : Obj)) :: (M, listOf (List.toArray mv) n1) :: (U, listOf (List.toArray uv) n2) :: rest ∧ StrsAre mv (sldR (xs0.length + 1 + (ys0.length + 1)) (xs0 ++ [mx]) (ys0 ++ [mx])).1 ∧ StrsAre uv (sldR (xs0.length + 1 + (ys0.length + 1)) (xs0 ++ [mx]) (ys0 ++ [mx])).2) := by
  have p1 := fun {i : Nat} (h : i ≤ xs0.length) => pre_at h o1
  have p2 := fun {i : Nat} (h : i ≤ ys0.length) => pre_at h o2
  have pl1 := fun {i : Nat} {z : Str} (h : i ≤ xs0.length) => pre_of_lt (z := z) h o1
  have pl2 := fun {i : Nat} {z : Str} (h : i ≤ ys0.length) => pre_of_lt (z := z) h o2
  have po1 := fun {i : Nat} (h : i ≤ xs0.length) => pre_or h o1
  have po2 := fun {i : Nat} (h : i ≤ ys0.length) => pre_or h o2
  have ps1 := fun {i : Nat} {z : Str} (h : i ≤ xs0.length) => pre_same (z := z) h o1
  have ps2 := fun {i : Nat} {z : Str} (h : i ≤ ys0.length) => pre_same (z := z) h o2
  obtain ⟨xs, hX⟩ : ∃ x, xs0 ++ [mx] = x := ⟨_, rfl⟩
  rw [hX] at h1 p1 pl1 po1 ps1 ⊢
  obtain ⟨ys, hY⟩ : ∃ x, ys0 ++ [mx] = x := ⟨_, rfl⟩
  rw [hY] at h2 p2 pl2 po2 ps2 ⊢
  have lX : xs.length = xs0.length + 1 := by rw [← hX]; simp
  have lY : ys.length = ys0.length + 1 := by rw [← hY]; simp
  clear hX hY
  unfold CallOkT
  k_fill
  intro loose mean mg mb p dp un gd cn cs a ccd cl outer A₀ base h₀ L m sh sg sd st so Q E B F X N T XB TB D C hk' hd1 hu hret
  generalize hR : sldR (xs0.length + 1 + (ys0.length + 1)) xs ys = R at hret
  refine wpAny_call ?_
  k_dflt (refine' callS_plain (bs := [(Str.ofString "actual", .ref lb), (Str.ofString "expected", .ref la)]) B F X N T XB TB D KtsTurn.refl rfl rfl hk' ?k6 ?k7 ?k8 ?k9 ?kB ?kL ?_ ?c2 ?c3 ?c4 ?c5; (case k6 => k_is); (case k7 => k_is); (case k8 => ktr_room); (case k9 => exact BindsTo.of_eq rfl); (case kB => exact locs rfl); (case kL => exact rfl); (case c2 => exact rfl); (case c3 => exact rfl); (case c4 => exact rfl); (case c5 => decide); k_whole; intro g' L' h' tk' FG' F' N' B' X' T' D'; (try dsimp only); (try k_fold))
  k_extra "unf"
  (rename Fr _ _ _ _ => lF'); (rename News _ _ _ ((_, _) :: (_, _) :: rest) => lN')
  (rename (∀ p : Addr × Obj, p ∈ rest → p.1 < _) => a1); (rename (_ ∧ AllLt _ rest) => a2)
  obtain ⟨a3, a4⟩ := a2
  have oM : ∀ p ∈ rest, p.1 ≠ _ := allNe a1 (Nat.le_refl _)
  have oU : ∀ p ∈ rest, p.1 ≠ _ := fun p hp => Nat.ne_of_lt (ktn_ltOf a4 p hp)
  have oUM : @LT.lt Nat _ _ _ := a3
  clear a1 a3 a4
  refine' ksw_while (σ := Nat × Tok × Nat × Tok × (List Value × List Str × Nat) × (List Value × List Str × Nat)) (fun c => (_, listOf c.2.2.2.2.2.1.toArray c.2.2.2.2.2.2.2) :: (_, listOf c.2.2.2.2.1.1.toArray c.2.2.2.2.1.2.2) :: rest) (fun c => [(Str.ofString "i", .int (c.1 : Int) c.2.1), (Str.ofString "j", .int (c.2.2.1 : Int) c.2.2.2.1)]) (fun c => StrsAre c.2.2.2.2.1.1 c.2.2.2.2.1.2.1 ∧ StrsAre c.2.2.2.2.2.1 c.2.2.2.2.2.2.1) [Str.ofString "e", Str.ofString "a"]
    (fun c => c.1 ≤ xs0.length ∧ c.2.2.1 ≤ ys0.length ∧ c.2.2.2.2.1.2.1.length ≤ c.1 ∧ c.2.2.2.2.2.2.1.length ≤ c.2.2.1 ∧ ∃ k, (xs.length - c.1) + (ys.length - c.2.2.1) ≤ k ∧ (c.2.2.2.2.1.2.1 ++ (sldR k (xs.drop c.1) (ys.drop c.2.2.1)).1, c.2.2.2.2.2.2.1 ++ (sldR k (xs.drop c.1) (ys.drop c.2.2.1)).2) = R) (fun c => (xs.length - c.1) + (ys.length - c.2.2.1)) (0, _, 0, _, ([], [], 0), ([], [], 0)) lF' lN' ?kf ?kk ?kp ?_ ?ke
  (case kf => exact ⟨.nil, .nil⟩)
  (case kk => (intro p hp; rcases List.mem_cons.mp hp with rfl | hp; exact rfl; rcases List.mem_cons.mp hp with rfl | hp; exact rfl; nomatch hp))
  (case kp => exact ⟨Nat.zero_le _, Nat.zero_le _, Nat.zero_le _, Nat.zero_le _, xs0.length + 1 + (ys0.length + 1), by (dsimp only; omega), by simpa using hR⟩)
  (case ke => passes_own)
  refine all_oxxxxoxxxeoxxxee ?_
  intro i ti j tj mv ms mn uv us' un' u h tk pk2 pk3 F' N'
  (try dsimp only); (try k_fold); show (let G9 : Prop := _; G9); intro G9
  obtain ⟨hi1, hi2⟩ := pk2
  obtain ⟨q1, q2, q5, q6, kk, q3, q4⟩ := pk3
  k_unfold; clear G9
  (dsimp only at hi1 hi2 q1 q2 q3 q4 q5 q6 F' N')
  (clear lF' lN')
  obtain ⟨kk, rfl⟩ : ∃ k, kk = k + 1 := ⟨kk - 1, by omega⟩
  (try k_fold)
  k_extra "unf"
  · (rename slt _ _ = true => c1); (rename Fr _ _ _ _ => lF'); (rename News _ _ _ ((_, _) :: (_, _) :: rest) => lN')
    rw [Int.toNat_natCast, Int.toNat_natCast] at c1
    have b1 := pl1 q1 (po2 q2) c1
    refine' ksw_while (σ := Nat × Tok) (fun _ => _) (fun c => [(Str.ofString "i", .int (c.1 : Int) c.2)]) (fun _ => True) [] (fun c => i + 1 ≤ c.1 ∧ c.1 ≤ xs0.length ∧ skipE (xs.getD i Str.empty) (xs.drop c.1) = skipE (xs.getD i Str.empty) (xs.drop (i + 1))) (fun c => xs.length - c.1) (i + 1, _) lF' lN' ?kf ?kk ?kp ?_ ?ke
    (case kf => trivial)
    (case kk => (intro p hp; rcases List.mem_cons.mp hp with rfl | hp; exact rfl; nomatch hp))
    (case kp => exact ⟨Nat.le_refl _, b1.1, rfl⟩)
    (case ke => passes_own)
    refine all_oxxe ?_
    intro i' ti' ui' h' tk' _ pk2 F' N'
    (try dsimp only); (try k_fold); show (let G9 : Prop := _; G9); intro G9
    obtain ⟨r1, p10, p19⟩ := pk2
    k_unfold; clear G9
    (dsimp only at r1 p10 p19 F' N')
    (clear lF' lN')
    (try k_fold)
    k_extra "unf"
    · (rename (_ == _) = true => c5); (rename Fr _ _ _ _ => e1); (rename News _ _ _ ((_, _) :: (_, _) :: rest) => e2)
      rw [Int.toNat_natCast, Int.toNat_natCast] at c5
      have c6 := eq_of_beq c5
      refine ksw_end (i' + 1, _) e1 e2 (fun _ h9 => h9) trivial (by intro p hp; rcases List.mem_cons.mp hp with rfl | hp; exact rfl; nomatch hp) ?hr ⟨?_, ?_, ?_⟩ ?_
      case hr =>
        intro z h3 h4
        have a1 : z ≠ Str.ofString "i" := h3 _ (.head _)
        simp only [kstB, a1, if_false, List.contains_nil, Bool.false_eq_true]
      · show i + 1 ≤ i' + 1
        omega
      · exact ps1 p10 b1.2 c6
      · show skipE _ (xs.drop (i' + 1)) = _
        rw [← p19, skip_next (by omega) c6]
      · show xs.length - (i' + 1) < xs.length - i'
        omega
    · (rename (_ == _) = false => c5)
      rw [Int.toNat_natCast, Int.toNat_natCast] at c5
      have d1 : xs.drop i' = skipE (xs.getD i Str.empty) (xs.drop (i + 1)) := by
        rw [← p19, skip_here (by omega)]
        intro h9
        rw [h9, beq_self_eq_true] at c5
        cases c5
      clear c5
      (rename Fr _ _ _ _ => e1); (rename News _ _ _ ((_, _) :: (_, _) :: rest) => e2)
      refine ksw_end (i', _, j, _, (_, _, _), (_, _, _)) e1 e2 (fun _ h9 => h9) ⟨by assumption, by assumption⟩ (by kst_all) ?hr ⟨p10, q2, by (dsimp only; simp only [List.length_append, List.length_singleton]; omega), q6, kk, ?_, ?_⟩ ?_
      case hr =>
        intro z h3 h4
        have a1 : z ≠ Str.ofString "i" := h3 _ (.head _)
        have a2 : z ≠ Str.ofString "j" := h3 _ (.tail _ (.head _))
        have b1 : z ≠ Str.ofString "e" := fun e9 => by subst e9; exact absurd h4 (by decide)
        have b2 : z ≠ Str.ofString "a" := fun e9 => by subst e9; exact absurd h4 (by decide)
        simp only [kstB, a1, a2, b1, b2, h4, if_false, List.contains_nil, Bool.false_eq_true]
      · show (xs.length - i') + (ys.length - j) ≤ kk
        omega
      · dsimp only
        (try simp only [Int.toNat_natCast])
        exact sld_stepL q4 (by omega) (by omega) c1 d1
      · show (xs.length - i') + (ys.length - j) < (xs.length - i) + (ys.length - j)
        omega
  · (rename slt _ _ = true => c2); (rename Fr _ _ _ _ => lF'); (rename News _ _ _ ((_, _) :: (_, _) :: rest) => lN')
    rw [Int.toNat_natCast, Int.toNat_natCast] at c2
    have b2 := pl2 q2 (po1 q1) c2
    refine' ksw_while (σ := Nat × Tok) (fun _ => _) (fun c => [(Str.ofString "j", .int (c.1 : Int) c.2)]) (fun _ => True) [] (fun c => j + 1 ≤ c.1 ∧ c.1 ≤ ys0.length ∧ skipE (ys.getD j Str.empty) (ys.drop c.1) = skipE (ys.getD j Str.empty) (ys.drop (j + 1))) (fun c => ys.length - c.1) (j + 1, _) lF' lN' ?kf ?kk ?kp ?_ ?ke
    (case kf => trivial)
    (case kk => (intro p hp; rcases List.mem_cons.mp hp with rfl | hp; exact rfl; nomatch hp))
    (case kp => exact ⟨Nat.le_refl _, b2.1, rfl⟩)
    (case ke => passes_own)
    refine all_oxxe ?_
    intro j' tj' uj' h' tk' _ pk2 F' N'
    (try dsimp only); (try k_fold); show (let G9 : Prop := _; G9); intro G9
    obtain ⟨r2, p20, p29⟩ := pk2
    k_unfold; clear G9
    (dsimp only at r2 p20 p29 F' N')
    (clear lF' lN')
    (try k_fold)
    k_extra "unf"
    · (rename (_ == _) = true => c5); (rename Fr _ _ _ _ => e1); (rename News _ _ _ ((_, _) :: (_, _) :: rest) => e2)
      rw [Int.toNat_natCast, Int.toNat_natCast] at c5
      have c6 := eq_of_beq c5
      refine ksw_end (j' + 1, _) e1 e2 (fun _ h9 => h9) trivial (by intro p hp; rcases List.mem_cons.mp hp with rfl | hp; exact rfl; nomatch hp) ?hr ⟨?_, ?_, ?_⟩ ?_
      case hr =>
        intro z h3 h4
        have a1 : z ≠ Str.ofString "j" := h3 _ (.head _)
        simp only [kstB, a1, if_false, List.contains_nil, Bool.false_eq_true]
      · show j + 1 ≤ j' + 1
        omega
      · exact ps2 p20 b2.2 c6
      · show skipE _ (ys.drop (j' + 1)) = _
        rw [← p29, skip_next (by omega) c6]
      · show ys.length - (j' + 1) < ys.length - j'
        omega
    · (rename (_ == _) = false => c5)
      rw [Int.toNat_natCast, Int.toNat_natCast] at c5
      have d2 : ys.drop j' = skipE (ys.getD j Str.empty) (ys.drop (j + 1)) := by
        rw [← p29, skip_here (by omega)]
        intro h9
        rw [h9, beq_self_eq_true] at c5
        cases c5
      clear c5
      (rename Fr _ _ _ _ => e1); (rename News _ _ _ ((_, _) :: (_, _) :: rest) => e2)
      refine ksw_end (i, _, j', _, (_, _, _), (_, _, _)) e1 e2 (fun _ h9 => h9) ⟨by assumption, by assumption⟩ (by kst_all) ?hr ⟨q1, p20, q5, by (dsimp only; simp only [List.length_append, List.length_singleton]; omega), kk, ?_, ?_⟩ ?_
      case hr =>
        intro z h3 h4
        have a1 : z ≠ Str.ofString "i" := h3 _ (.head _)
        have a2 : z ≠ Str.ofString "j" := h3 _ (.tail _ (.head _))
        have b1 : z ≠ Str.ofString "e" := fun e9 => by subst e9; exact absurd h4 (by decide)
        have b2 : z ≠ Str.ofString "a" := fun e9 => by subst e9; exact absurd h4 (by decide)
        simp only [kstB, a1, a2, b1, b2, h4, if_false, List.contains_nil, Bool.false_eq_true]
      · show (xs.length - i) + (ys.length - j') ≤ kk
        omega
      · dsimp only
        (try simp only [Int.toNat_natCast])
        exact sld_stepR q4 (by omega) (by omega) c2 d2
      · show (xs.length - i) + (ys.length - j') < (xs.length - i) + (ys.length - j)
        omega
  · (rename slt (ys.getD _ _) _ = false => c2); (rename slt (xs.getD _ _) _ = false => c1); (rename Fr _ _ _ _ => lF'); (rename News _ _ _ ((_, _) :: (_, _) :: rest) => lN')
    rw [Int.toNat_natCast, Int.toNat_natCast] at c1 c2
    by_cases b0 : i < xs0.length
    · have b1 : i < xs0.length ∧ slt (xs.getD i Str.empty) mx = true := by
        rcases p1 q1 with h9 | h9
        · exact h9
        · omega
      have b2 : j < ys0.length ∧ slt (ys.getD j Str.empty) mx = true := by
        rcases p2 q2 with h9 | h9
        · exact h9
        · rw [h9.2, b1.2] at c1; cases c1
      refine' ksw_while (σ := Nat × Tok) (fun _ => _) (fun c => [(Str.ofString "i", .int (c.1 : Int) c.2)]) (fun _ => True) [] (fun c => i + 1 ≤ c.1 ∧ c.1 ≤ xs0.length ∧ skipE (xs.getD i Str.empty) (xs.drop c.1) = skipE (xs.getD i Str.empty) (xs.drop (i + 1))) (fun c => xs.length - c.1) (i + 1, _) lF' lN' ?kf ?kk ?kp ?_ ?ke
      (case kf => trivial)
      (case kk => (intro p hp; rcases List.mem_cons.mp hp with rfl | hp; exact rfl; nomatch hp))
      (case kp => exact ⟨Nat.le_refl _, b1.1, rfl⟩)
      (case ke => passes_own)
      refine all_oxxe ?_
      intro i' ti' ui' h' tk' _ pk2 F' N'
      (try dsimp only); (try k_fold); show (let G9 : Prop := _; G9); intro G9
      obtain ⟨r1, p10, p19⟩ := pk2
      k_unfold; clear G9
      (dsimp only at r1 p10 p19 F' N')
      (clear lF' lN')
      (try k_fold)
      k_extra "unf"
      · (rename (_ == _) = true => c5); (rename Fr _ _ _ _ => e1); (rename News _ _ _ ((_, _) :: (_, _) :: rest) => e2)
        rw [Int.toNat_natCast, Int.toNat_natCast] at c5
        have c6 := eq_of_beq c5
        refine ksw_end (i' + 1, _) e1 e2 (fun _ h9 => h9) trivial (by intro p hp; rcases List.mem_cons.mp hp with rfl | hp; exact rfl; nomatch hp) ?hr ⟨?_, ?_, ?_⟩ ?_
        case hr =>
          intro z h3 h4
          have a1 : z ≠ Str.ofString "i" := h3 _ (.head _)
          simp only [kstB, a1, if_false, List.contains_nil, Bool.false_eq_true]
        · show i + 1 ≤ i' + 1
          omega
        · exact ps1 p10 b1.2 c6
        · show skipE _ (xs.drop (i' + 1)) = _
          rw [← p19, skip_next (by omega) c6]
        · show xs.length - (i' + 1) < xs.length - i'
          omega
      · (rename (_ == _) = false => c5)
        rw [Int.toNat_natCast, Int.toNat_natCast] at c5
        have d1 : xs.drop i' = skipE (xs.getD i Str.empty) (xs.drop (i + 1)) := by
          rw [← p19, skip_here (by omega)]
          intro h9
          rw [h9, beq_self_eq_true] at c5
          cases c5
        clear c5
        (rename Fr _ _ _ _ => lF'); (rename News _ _ _ ((_, _) :: (_, _) :: rest) => lN')
        refine' ksw_while (σ := Nat × Tok) (fun _ => _) (fun c => [(Str.ofString "j", .int (c.1 : Int) c.2)]) (fun _ => True) [] (fun c => j + 1 ≤ c.1 ∧ c.1 ≤ ys0.length ∧ skipE (ys.getD j Str.empty) (ys.drop c.1) = skipE (ys.getD j Str.empty) (ys.drop (j + 1))) (fun c => ys.length - c.1) (j + 1, _) lF' lN' ?kf ?kk ?kp ?_ ?ke
        (case kf => trivial)
        (case kk => (intro p hp; rcases List.mem_cons.mp hp with rfl | hp; exact rfl; nomatch hp))
        (case kp => exact ⟨Nat.le_refl _, b2.1, rfl⟩)
        (case ke => passes_own)
        refine all_oxxe ?_
        intro j' tj' uj' h' tk' _ pk2 F' N'
        (try dsimp only); (try k_fold); show (let G9 : Prop := _; G9); intro G9
        obtain ⟨r2, p20, p29⟩ := pk2
        k_unfold; clear G9
        (dsimp only at r2 p20 p29 F' N')
        (clear lF' lN')
        (try k_fold)
        k_extra "unf"
        · (rename (_ == _) = true => c5); (rename Fr _ _ _ _ => e1); (rename News _ _ _ ((_, _) :: (_, _) :: rest) => e2)
          rw [Int.toNat_natCast, Int.toNat_natCast] at c5
          have c6 := eq_of_beq c5
          refine ksw_end (j' + 1, _) e1 e2 (fun _ h9 => h9) trivial (by intro p hp; rcases List.mem_cons.mp hp with rfl | hp; exact rfl; nomatch hp) ?hr ⟨?_, ?_, ?_⟩ ?_
          case hr =>
            intro z h3 h4
            have a1 : z ≠ Str.ofString "j" := h3 _ (.head _)
            simp only [kstB, a1, if_false, List.contains_nil, Bool.false_eq_true]
          · show j + 1 ≤ j' + 1
            omega
          · exact ps2 p20 b2.2 c6
          · show skipE _ (ys.drop (j' + 1)) = _
            rw [← p29, skip_next (by omega) c6]
          · show ys.length - (j' + 1) < ys.length - j'
            omega
        · (rename (_ == _) = false => c5)
          rw [Int.toNat_natCast, Int.toNat_natCast] at c5
          have d2 : ys.drop j' = skipE (ys.getD j Str.empty) (ys.drop (j + 1)) := by
            rw [← p29, skip_here (by omega)]
            intro h9
            rw [h9, beq_self_eq_true] at c5
            cases c5
          clear c5
          (rename Fr _ _ _ _ => e1); (rename News _ _ _ ((_, _) :: (_, _) :: rest) => e2)
          refine ksw_end (i', _, j', _, (_, _, _), (_, _, _)) e1 e2 (fun _ h9 => h9) ⟨by assumption, by assumption⟩ (by kst_all) ?hr ⟨p10, p20, (by (dsimp only; omega)), (by (dsimp only; omega)), kk, ?_, ?_⟩ ?_
          case hr =>
            intro z h3 h4
            have a1 : z ≠ Str.ofString "i" := h3 _ (.head _)
            have a2 : z ≠ Str.ofString "j" := h3 _ (.tail _ (.head _))
            have b1 : z ≠ Str.ofString "e" := fun e9 => by subst e9; exact absurd h4 (by decide)
            have b2 : z ≠ Str.ofString "a" := fun e9 => by subst e9; exact absurd h4 (by decide)
            simp only [kstB, a1, a2, b1, b2, h4, if_false, List.contains_nil, Bool.false_eq_true]
          · show (xs.length - i') + (ys.length - j') ≤ kk
            omega
          · dsimp only
            (try simp only [Int.toNat_natCast])
            exact sld_stepE q4 (by omega) (by omega) c1 c2 d1 d2
          · show (xs.length - i') + (ys.length - j') < (xs.length - i) + (ys.length - j)
            omega
    · have b1 : i = xs0.length ∧ xs.getD i Str.empty = mx := by
        rcases p1 q1 with h9 | h9
        · omega
        · exact h9
      have b2 : j = ys0.length ∧ ys.getD j Str.empty = mx := by
        rcases p2 q2 with h9 | h9
        · rw [b1.2, h9.2] at c2; cases c2
        · exact h9
      k_dflt (refine whl_start 1 ?_)
      refine whl_turn (by passes_own) ?_
      (try dsimp only)
      (try k_fold)
      repeat' ((fail_if_success (with_reducible show wpAny _ _ (subscriptTail _ _ _ _) _ _ _)); (first | (k_unfold; (try dsimp only)) | ((with_reducible show wpAny _ _ (execs _ _) _ _ _); k_fold) | walk1 | (dsimp only; walk1) | (leave1; (try dsimp only))))
      (rename Fr _ L' _ _ => lF'); (rename News _ _ _ ((_, _) :: (_, _) :: rest) => lN')
      refine item_out1 rfl lN' (.tail _ (.tail _ m1)) (by rw [h1.length]; omega) (by omega) (fun h8 tk8 e8 x8 => ?_)
      refine flown_note (B'.push lF' (by rfl)).stack (B'.push lF' (by rfl)).frames rfl x8 fun h9 T9 t9 x9 => ⟨(by intro q; cases q), ?_⟩
      refine flown_again x9 rfl ?_
      refine flown_set x9 none fun h10 x10 => ?_
      obtain ⟨g10, T10, F10, N10, B10, X10, P10, D10, oe10, od10, oc10, M10⟩ := flown_ground B' lF' lN' XB TB D' KtsTurn.refl x10 rfl
      clear lF' lN' x8 x9 x10
      (try dsimp only)
      (try k_fold)
      k_extra "unf"
      k_dflt (refine whl_start 1 ?_)
      refine whl_turn (by passes_own) ?_
      (try dsimp only)
      (try k_fold)
      repeat' ((fail_if_success (with_reducible show wpAny _ _ (subscriptTail _ _ _ _) _ _ _)); (first | (k_unfold; (try dsimp only)) | ((with_reducible show wpAny _ _ (execs _ _) _ _ _); k_fold) | walk1 | (dsimp only; walk1) | (leave1; (try dsimp only))))
      (rename Fr g10 L' _ _ => lF'); (rename News g10 _ _ ((e8, _) :: _) => lN')
      refine item_out2 rfl lN' od10 rfl (.tail _ (.tail _ m2)) (by rw [h2.length]; omega) (by omega) (fun h11 tk11 e11 x11 => ?_)
      refine flown_note (B10.push lF' (by rfl)).stack (B10.push lF' (by rfl)).frames rfl x11 fun h12 T12 t12 x12 => ?_
      refine flown_back x12 rfl fun h13 x13 => ?_
      dsimp only
      refine flown_again x13 rfl ?_
      refine flown_set x13 none fun h14 x14 => ?_
      refine flown_caught (T' := "IndexError") B10 lF' (fun q hq => lN' q (.tail _ hq)) XB TB D10 T10 x14 ?ex PyProof.Rows.Boot.«IndexError» ?hn PySem.F.isExc_IndexError PySem.F.notTuple_IndexError PySem.F.self_IndexError ?_
      (case ex => k_is)
      (case hn => decide)
      intro h15 g15 T15 F15 N15 B15 X15 P15 D15
      have z1 : (cutS xs (some ((i : Int) + 1)) none).length = 0 := by rw [cut_from (by omega) (by omega), List.length_drop]; omega
      have z2 : (cutS ys (some ((j : Int) + 1)) none).length = 0 := by rw [cut_from (by omega) (by omega), List.length_drop]; omega
      clear lF' lN' x11 x12 x13 x14
      (try dsimp only)
      (try k_fold)
      k_extra "unf"
      have hf := sld_fin q4 (by omega) (by omega) c1 c2
      (rename Fr _ L _ _ => lF'); (rename News _ L _ ((_, _) :: _) => lN')
      exact hret _ _ _ _ _ ⟨_, _, _, _, _, _, _, rfl, rfl, (by rw [← hf]; exact hi1), (by rw [← hf]; exact hi2)⟩ (by assumption) lF' (news_sld lN') (by assumption) (by assumption) (by assumption) (by assumption)
end
section
/-- neighbours that are alike, once -/
noncomputable def ddE : Str → List Str → List Str
  | _, [] => []
  | e, x :: xs => if x = e then ddE e xs else x :: ddE x xs
noncomputable def dd : List Str → List Str
  | [] => []
  | x :: xs => x :: ddE x xs
theorem dd_skip (e : Str) : ∀ xs, ddE e xs = dd (skipE e xs)
  | [] => rfl
  | x :: xs => by
    unfold ddE skipE
    split
    · exact dd_skip e xs
    · rfl
theorem dd_cons (x : Str) (xs : List Str) : dd (x :: xs) = x :: dd (skipE x xs) := by
  rw [← dd_skip]; rfl
/-- the first list's items that the second lacks -/
noncomputable def fil (xs ys : List Str) : List Str := xs.filter fun t => !ys.any (· == t)
theorem any_mem {t : Str} {ys : List Str} : ys.any (· == t) = true ↔ t ∈ ys := by
  rw [List.any_eq_true]
  constructor
  · rintro ⟨x, hx, e⟩
    rw [beq_iff_eq] at e
    rwa [← e]
  · exact fun h => ⟨t, h, by rw [beq_iff_eq]⟩
theorem fil_congr {xs ys ys' : List Str} (h : ∀ t ∈ xs, (t ∈ ys ↔ t ∈ ys')) : fil xs ys = fil xs ys' := by
  unfold fil
  refine List.filter_congr fun t ht => ?_
  congr 1
  rw [Bool.eq_iff_iff, any_mem, any_mem]
  exact h t ht
theorem fil_in {x : Str} {xs ys : List Str} (h : x ∈ ys) : fil (x :: xs) ys = fil xs ys := by
  unfold fil
  rw [List.filter_cons, if_neg]
  rw [any_mem.mpr h]; decide
theorem fil_out {x : Str} {xs ys : List Str} (h : x ∉ ys) : fil (x :: xs) ys = x :: fil xs ys := by
  unfold fil
  rw [List.filter_cons, if_pos]
  cases e : ys.any (· == x) with
  | true => exact absurd (any_mem.mp e) h
  | false => rfl
theorem skip_mem {e : Str} : ∀ {xs : List Str} {z : Str}, z ∈ skipE e xs → z ∈ xs
  | [], z, h => h
  | x :: xs, z, h => by
    unfold skipE at h
    split at h
    · exact .tail _ (skip_mem h)
    · exact h
theorem skip_len (e : Str) : ∀ (xs : List Str), (skipE e xs).length ≤ xs.length
  | [] => Nat.le_refl _
  | x :: xs => by
    unfold skipE
    split
    · exact Nat.le_succ_of_le (skip_len e xs)
    · exact Nat.le_refl _
theorem skip_cover {e : Str} : ∀ {xs : List Str} {z : Str}, z ∈ xs → z = e ∨ z ∈ skipE e xs
  | [], z, h => nomatch h
  | x :: xs, z, h => by
    unfold skipE
    split
    · next q =>
      rcases List.mem_cons.mp h with r | r
      · exact .inl (r.trans q)
      · exact skip_cover r
    · exact .inr h
theorem skip_pair {e : Str} : ∀ {xs : List Str}, xs.Pairwise sle → (skipE e xs).Pairwise sle
  | [], h => h
  | x :: xs, h => by
    unfold skipE
    split
    · exact skip_pair (List.pairwise_cons.mp h).2
    · exact h
theorem skip_above {e : Str} : ∀ {xs : List Str}, (e :: xs).Pairwise sle → ∀ z ∈ skipE e xs, slt e z = true
  | [], _, z, h => nomatch h
  | x :: xs, hp, z, h => by
    have h1 := List.pairwise_cons.mp hp
    have h2 := List.pairwise_cons.mp h1.2
    unfold skipE at h
    split at h
    · exact skip_above (List.pairwise_cons.mpr ⟨fun y hy => h1.1 y (.tail _ hy), h2.2⟩) z h
    · next q =>
      have ex : slt e x = true := slt_of (h1.1 x (.head _)) q
      rcases List.mem_cons.mp h with r | r
      · rw [r]; exact ex
      · cases q2 : slt e z with
        | true => rfl
        | false =>
          have := sle_trans (h2.1 z r) q2
          rw [sle, ex] at this
          cases this
theorem skip_snoc {e mx : Str} (h : e ≠ mx) : ∀ xs, skipE e (xs ++ [mx]) = skipE e xs ++ [mx]
  | [] => by
    show (if mx = e then skipE e [] else [mx]) = _
    rw [if_neg (Ne.symm h)]
    rfl
  | x :: xs => by
    show (if x = e then skipE e (xs ++ [mx]) else x :: (xs ++ [mx])) = (if x = e then skipE e xs else x :: xs) ++ [mx]
    split
    · exact skip_snoc h xs
    · rfl
theorem ddE_mem : ∀ {xs : List Str} {e z : Str}, z ∈ ddE e xs → z ∈ xs
  | [], e, z, h => h
  | x :: xs, e, z, h => by
    unfold ddE at h
    split at h
    · exact .tail _ (ddE_mem h)
    · rcases List.mem_cons.mp h with r | r
      · rw [r]; exact .head _
      · exact .tail _ (ddE_mem r)
theorem dd_mem : ∀ {xs : List Str} {z : Str}, z ∈ dd xs → z ∈ xs
  | [], z, h => h
  | x :: xs, z, h => by
    rcases List.mem_cons.mp h with r | r
    · rw [r]; exact .head _
    · exact .tail _ (ddE_mem r)
theorem sldR_nil2 : ∀ k, sldR k [] [] = ([], [])
  | 0 => rfl
  | _ + 1 => rfl
theorem sldR_eq (mx : Str) : ∀ (k : Nat) (xs ys : List Str), xs.length + ys.length < k → xs.Pairwise sle → ys.Pairwise sle → (∀ x ∈ xs, slt x mx = true) → (∀ y ∈ ys, slt y mx = true) →
    sldR k (xs ++ [mx]) (ys ++ [mx]) = (fil (dd xs) ys, fil (dd ys) xs) := by
  intro k
  induction k with
  | zero => intro xs ys h; omega
  | succ k ih =>
    intro xs ys hk px py bx by'
    have hmm : slt mx mx = false := sle_refl mx
    match xs, ys with
    | [], [] =>
      show (if slt mx mx = true then _ else if slt mx mx = true then _ else sldR k (skipE mx []) (skipE mx [])) = _
      rw [hmm, if_neg (by decide), if_neg (by decide)]
      exact sldR_nil2 k
    | [], y :: ys =>
      have hy := by' y (.head _)
      show (if slt mx y = true then _ else if slt y mx = true then ((sldR k [mx] (skipE y (ys ++ [mx]))).1, y :: (sldR k [mx] (skipE y (ys ++ [mx]))).2) else _) = _
      rw [show slt mx y = false from sle_of_lt hy, if_neg (by decide), if_pos hy, skip_snoc (slt_ne hy)]
      have l := skip_len y ys
      have h9 := ih [] (skipE y ys) (by simp only [List.length_cons, List.length_nil] at hk ⊢; omega) .nil (skip_pair (List.pairwise_cons.mp py).2) (fun _ h => nomatch h) (fun z h => by' z (.tail _ (skip_mem h)))
      rw [List.nil_append] at h9
      rw [h9]
      rw [dd_cons, fil_out (by exact List.not_mem_nil)]
      rfl
    | x :: xs, [] =>
      have hx := bx x (.head _)
      show (if slt x mx = true then (x :: (sldR k (skipE x (xs ++ [mx])) [mx]).1, (sldR k (skipE x (xs ++ [mx])) [mx]).2) else _) = _
      rw [if_pos hx, skip_snoc (slt_ne hx)]
      have l := skip_len x xs
      have h9 := ih (skipE x xs) [] (by simp only [List.length_cons, List.length_nil] at hk ⊢; omega) (skip_pair (List.pairwise_cons.mp px).2) .nil (fun z h => bx z (.tail _ (skip_mem h))) (fun _ h => nomatch h)
      rw [List.nil_append] at h9
      rw [h9]
      rw [dd_cons, fil_out (by exact List.not_mem_nil)]
      rfl
    | x :: xs, y :: ys =>
      have hx := bx x (.head _)
      have hy := by' y (.head _)
      have lx := skip_len x xs
      have ly := skip_len y ys
      have qx := List.pairwise_cons.mp px
      have qy := List.pairwise_cons.mp py
      have ax := skip_above px
      have ay := skip_above py
      show (if slt x y = true then (x :: (sldR k (skipE x (xs ++ [mx])) (y :: ys ++ [mx])).1, (sldR k (skipE x (xs ++ [mx])) (y :: ys ++ [mx])).2) else if slt y x = true then ((sldR k (x :: xs ++ [mx]) (skipE y (ys ++ [mx]))).1, y :: (sldR k (x :: xs ++ [mx]) (skipE y (ys ++ [mx]))).2) else sldR k (skipE x (xs ++ [mx])) (skipE y (ys ++ [mx]))) = _
      rw [skip_snoc (slt_ne hx), skip_snoc (slt_ne hy)]
      cases e1 : slt x y with
      | true =>
        have hxy : ∀ z ∈ y :: ys, slt x z = true := fun z hz => by
          rcases List.mem_cons.mp hz with r | r
          · rw [r]; exact e1
          · cases q2 : slt x z with
            | true => rfl
            | false =>
              have := sle_trans (qy.1 z r) q2
              rw [sle, e1] at this
              cases this
        rw [if_pos rfl, ih (skipE x xs) (y :: ys) (by simp only [List.length_cons] at hk ⊢; omega) (skip_pair qx.2) py (fun z h => bx z (.tail _ (skip_mem h))) by']
        rw [dd_cons x, fil_out (fun h => absurd rfl (slt_ne (hxy x h)))]
        refine Prod.ext rfl ?_
        exact fil_congr fun t ht => ⟨fun h => .tail _ (skip_mem h), fun h => by
          have hne := slt_ne (hxy t (dd_mem ht))
          rcases List.mem_cons.mp h with r | r
          · exact absurd r.symm hne
          · rcases skip_cover (e := x) r with r | r
            · exact absurd r.symm hne
            · exact r⟩
      | false =>
        rw [if_neg (by decide)]
        cases e2 : slt y x with
        | true =>
          have hyx : ∀ z ∈ x :: xs, slt y z = true := fun z hz => by
            rcases List.mem_cons.mp hz with r | r
            · rw [r]; exact e2
            · cases q2 : slt y z with
              | true => rfl
              | false =>
                have := sle_trans (qx.1 z r) q2
                rw [sle, e2] at this
                cases this
          rw [if_pos rfl, ih (x :: xs) (skipE y ys) (by simp only [List.length_cons] at hk ⊢; omega) px (skip_pair qy.2) bx (fun z h => by' z (.tail _ (skip_mem h)))]
          rw [dd_cons y, fil_out (fun h => absurd rfl (slt_ne (hyx y h)))]
          refine Prod.ext ?_ rfl
          exact fil_congr fun t ht => ⟨fun h => .tail _ (skip_mem h), fun h => by
            have hne := slt_ne (hyx t (dd_mem ht))
            rcases List.mem_cons.mp h with r | r
            · exact absurd r.symm hne
            · rcases skip_cover (e := y) r with r | r
              · exact absurd r.symm hne
              · exact r⟩
        | false =>
          have exy : x = y := sle_antisymm e2 e1
          subst exy
          rw [if_neg (by decide), ih (skipE x xs) (skipE x ys) (by simp only [List.length_cons] at hk ⊢; omega) (skip_pair qx.2) (skip_pair qy.2) (fun z h => bx z (.tail _ (skip_mem h))) (fun z h => by' z (.tail _ (skip_mem h)))]
          rw [dd_cons x xs, dd_cons x ys, fil_in (.head _), fil_in (.head _)]
          have go : ∀ (us ws : List Str), (∀ z ∈ skipE x us, slt x z = true) → fil (dd (skipE x us)) (skipE x ws) = fil (dd (skipE x us)) (x :: ws) := fun us ws a => fil_congr fun t ht => ⟨fun h => .tail _ (skip_mem h), fun h => by
            have hne := slt_ne (a t (dd_mem ht))
            rcases List.mem_cons.mp h with r | r
            · exact absurd r.symm hne
            · rcases skip_cover (e := x) r with r | r
              · exact absurd r.symm hne
              · exact r⟩
          rw [go xs ys ax, go ys xs ay]
end
section
/-- the texts that differ from the one before, after i turns -/
noncomputable def onceK (l : List Str) : Nat → List Str
  | 0 => []
  | i + 1 => onceK l i ++ if i = 0 ∨ l.getD (i - 1) Str.empty ≠ l.getD i Str.empty then [l.getD i Str.empty] else []
theorem onceK_len (l : List Str) : ∀ i, (onceK l i).length ≤ i
  | 0 => Nat.le_refl _
  | i + 1 => by
    have := onceK_len l i
    rw [onceK, List.length_append]
    split
    · rw [List.length_singleton]; omega
    · rw [List.length_nil]; omega
theorem ddE_snoc (x : Str) : ∀ (l : List Str) (e : Str), ddE e (l ++ [x]) = ddE e l ++ if l.getLastD e ≠ x then [x] else []
  | [], e => by
    show (if x = e then [] else [x]) = [] ++ (if e ≠ x then [x] else [])
    by_cases h : x = e
    · rw [if_pos h, if_neg (fun q => q h.symm)]; rfl
    · rw [if_neg h, if_pos (Ne.symm h)]; rfl
  | y :: l, e => by
    rw [List.getLastD_cons]
    show (if y = e then ddE e (l ++ [x]) else y :: ddE y (l ++ [x])) = (if y = e then ddE e l else y :: ddE y l) ++ _
    by_cases h : y = e
    · subst h
      rw [if_pos rfl, if_pos rfl, ddE_snoc x l]
    · rw [if_neg h, if_neg h, ddE_snoc x l]
      rfl
theorem dd_snoc (x : Str) (l : List Str) : dd (l ++ [x]) = dd l ++ if l = [] ∨ l.getLastD Str.empty ≠ x then [x] else [] := by
  cases l with
  | nil => rfl
  | cons y l =>
    show y :: ddE y (l ++ [x]) = y :: ddE y l ++ _
    rw [ddE_snoc, List.getLastD_cons]
    simp
theorem onceK_dd (l : List Str) : onceK l l.length = dd l := by
  suffices h : ∀ i, i ≤ l.length → onceK l i = dd (l.take i) by
    have := h l.length (Nat.le_refl _)
    rwa [List.take_length] at this
  intro i
  induction i with
  | zero => intro _; rfl
  | succ i ih =>
    intro h
    have hi : i < l.length := by omega
    have ex : l.getD i Str.empty = l[i] := by simp [List.getD_eq_getElem?_getD, hi]
    rw [onceK, ih (by omega), ex, List.take_succ_eq_append_getElem hi, dd_snoc]
    congr 2
    rw [eq_iff_iff]
    cases i with
    | zero => simp
    | succ i =>
      have hi' : i < l.length := by omega
      have e1 : (l.take (i + 1)).getLastD Str.empty = l.getD i Str.empty := by
        rw [List.take_succ_eq_append_getElem hi', List.getLastD_concat]
        simp [List.getD_eq_getElem?_getD, hi']
      rw [e1]
      have e2 : l.take (i + 1) ≠ [] := by
        intro q
        have := congrArg List.length q
        rw [List.length_take, List.length_nil] at this
        omega
      simp [e2]
theorem fil_take {l ys : List Str} {i : Nat} {x : Str} (hi : i < l.length) (hx : l.getD i Str.empty = x) : fil (l.take (i + 1)) ys = fil (l.take i) ys ++ if ys.any (· == x) = true then [] else [x] := by
  have ex : l.getD i Str.empty = l[i] := by simp [List.getD_eq_getElem?_getD, hi]
  rw [List.take_succ_eq_append_getElem hi, ← ex, hx]
  unfold fil
  rw [List.filter_append]
  congr 1
  cases h : ys.any (· == x) <;> simp [h]
end
section
theorem wl_23 : True := by
  k_with "call builtin:list.remove cons nil" => ((k_here; (with_reducible show wpAny _ _ (call (Value.builtin _) [Value.ref _, Value.str _ _]) _ _ _); k_dflt (refine' sa_remove ?Fq70 (Del.news ?Dq70 ?Nq70) ?hrq70 ?hiq70 ?hlq70 ?hAq70 ?h1 ?h2; (case Fq70 => k_asm); (case Nq70 => k_asm); (case Dq70 => k_upd); (case hrq70 => first | assumption | k_all); (case hiq70 => with_reducible assumption); (case hlq70 => omega); (case hAq70 => rfl)); (case' h1 => (intro hx9w8 _ _ _ _ _ _; (try dsimp only); (try k_sweep))); (case' h2 => intro hx9w8 _ _ _ _)))
  k_with "GswPost cons next" => ((dsimp only [GswPost]))
  k_with "own getMethod ref" => ((k_here; (with_reducible show wpAny _ _ (getMethod (Value.ref _) (PySem.Str.ofString "count") _) _ _ _); k_dflt (refine' kf_method ?Nq72 ?mq72 PySem.F.slot_list_count PySem.F.type_list_count ?_; (case Nq72 => k_asm); (case mq72 => first | (with_reducible (first | assumption | (refine List.mem_cons_of_mem _ ?_; first | assumption | (refine List.mem_cons_of_mem _ ?_; first | assumption | (refine List.mem_cons_of_mem _ ?_; first | assumption | (refine List.mem_cons_of_mem _ ?_; first | assumption | (refine List.mem_cons_of_mem _ ?_; first | assumption | (refine List.mem_cons_of_mem _ ?_; first | assumption | (refine List.mem_cons_of_mem _ ?_; first | assumption | (refine List.mem_cons_of_mem _ ?_; first | assumption | (refine List.mem_cons_of_mem _ ?_; assumption))))))))))) | k_mem))))
  k_with "call builtin:list.count cons nil" => ((k_here; (with_reducible show wpAny _ _ (call (Value.builtin _) [Value.ref _, Value.str _ _]) _ _ _); k_dflt (refine' sa_count ?Nq73 ?mq73 ?iq73 ?_; (case Nq73 => k_asm); (case mq73 => first | (with_reducible (first | assumption | (refine List.mem_cons_of_mem _ ?_; first | assumption | (refine List.mem_cons_of_mem _ ?_; first | assumption | (refine List.mem_cons_of_mem _ ?_; first | assumption | (refine List.mem_cons_of_mem _ ?_; first | assumption | (refine List.mem_cons_of_mem _ ?_; first | assumption | (refine List.mem_cons_of_mem _ ?_; first | assumption | (refine List.mem_cons_of_mem _ ?_; first | assumption | (refine List.mem_cons_of_mem _ ?_; first | assumption | (refine List.mem_cons_of_mem _ ?_; assumption))))))))))) | k_mem); (case iq73 => with_reducible assumption); k_whole)))
  k_with "own binaryOp Add ref ref" => ((k_here; (with_reducible show wpAny _ _ (binaryOp _ (Value.ref _) (Value.ref _)) _ _ _); k_dflt (refine' sa_concat ?Fq74 ?Nq74 ?aq74 ?bq74 ?iq74 ?jq74 ?xq74 ?yq74 ?_; (case Fq74 => k_asm); (case Nq74 => k_asm); (case aq74 => first | (with_reducible (first | assumption | (refine List.mem_cons_of_mem _ ?_; first | assumption | (refine List.mem_cons_of_mem _ ?_; first | assumption | (refine List.mem_cons_of_mem _ ?_; first | assumption | (refine List.mem_cons_of_mem _ ?_; first | assumption | (refine List.mem_cons_of_mem _ ?_; first | assumption | (refine List.mem_cons_of_mem _ ?_; first | assumption | (refine List.mem_cons_of_mem _ ?_; first | assumption | (refine List.mem_cons_of_mem _ ?_; first | assumption | (refine List.mem_cons_of_mem _ ?_; assumption))))))))))) | k_mem); (case bq74 => first | (with_reducible (first | assumption | (refine List.mem_cons_of_mem _ ?_; first | assumption | (refine List.mem_cons_of_mem _ ?_; first | assumption | (refine List.mem_cons_of_mem _ ?_; first | assumption | (refine List.mem_cons_of_mem _ ?_; first | assumption | (refine List.mem_cons_of_mem _ ?_; first | assumption | (refine List.mem_cons_of_mem _ ?_; first | assumption | (refine List.mem_cons_of_mem _ ?_; first | assumption | (refine List.mem_cons_of_mem _ ?_; first | assumption | (refine List.mem_cons_of_mem _ ?_; assumption))))))))))) | k_mem); (case iq74 => with_reducible assumption); (case jq74 => with_reducible assumption); (case xq74 => omega); (case yq74 => omega); k_whole); intro _ _ _ _ _ l1w8 _ _; (try k_lt l1w8); (try k_sweep)))
  k_with "call builtin:list.append cons nil" => ((k_here; (with_reducible show wpAny _ _ (call (Value.builtin _) [Value.ref _, Value.ref _]) _ _ _); k_dflt (refine' va_append ?k1q75 ?k2q75 ?k3q75 ?k4q75 ?_; (case k1q75 => k_asm); (case k2q75 => k_asm); (case k3q75 => k_upd); (case k4q75 => omega); k_whole); intro _ _ _ _; (try k_sweep)))
  k_with "compareOp NotIn ref ref" => ((k_here; (with_reducible show wpAny _ _ (compareOp CmpOp.NotIn (Value.ref _) (Value.ref _)) _ _ _); k_dflt (refine' notIn_rows ?Nq76 ?aq76 ?bq76 ?cq76 ?dq76 ?eq76 ?fq76 ?gq76 ?_; (case Nq76 => k_asm); (case aq76 => k_mem); (case bq76 => with_reducible assumption); (case cq76 => intro _ h9w8; simp only [List.mem_cons, List.mem_append, h9w8, true_or, or_true]); (case dq76 => k_mem); (case eq76 => with_reducible assumption); (case fq76 => with_reducible assumption); (case gq76 => ke_room); k_whole)))
  k_with "call builtin:len cons nil" => ((k_here; (with_reducible show wpAny _ _ (call (Value.builtin "len") [Value.ref _]) _ _ _); k_dflt (refine' sa_len ?k1q77 ?k2q77 ?k3q77 ?k4q77 ?_; (case k1q77 => k_asm); (case k2q77 => with_reducible (first | assumption | (refine List.mem_cons_of_mem _ ?_; first | assumption | (refine List.mem_cons_of_mem _ ?_; first | assumption | (refine List.mem_cons_of_mem _ ?_; first | assumption | (refine List.mem_cons_of_mem _ ?_; first | assumption | (refine List.mem_cons_of_mem _ ?_; first | assumption | (refine List.mem_cons_of_mem _ ?_; first | assumption | (refine List.mem_cons_of_mem _ ?_; first | assumption | (refine List.mem_cons_of_mem _ ?_; first | assumption | (refine List.mem_cons_of_mem _ ?_; assumption))))))))))); (case k3q77 => with_reducible assumption); (case k4q77 => omega); k_whole)))
  k_with "call type:list cons nil" => ((k_here; (with_reducible show wpAny _ _ (call (Value.type "list") [Value.ref _]) _ _ _); k_dflt (refine' sa_copy ?Fq78 ?Nq78 ?bq78 ?iq78 ?zq78 ?_; (case Fq78 => k_asm); (case Nq78 => k_asm); (case bq78 => with_reducible (first | assumption | (refine List.mem_cons_of_mem _ ?_; first | assumption | (refine List.mem_cons_of_mem _ ?_; first | assumption | (refine List.mem_cons_of_mem _ ?_; first | assumption | (refine List.mem_cons_of_mem _ ?_; first | assumption | (refine List.mem_cons_of_mem _ ?_; first | assumption | (refine List.mem_cons_of_mem _ ?_; first | assumption | (refine List.mem_cons_of_mem _ ?_; first | assumption | (refine List.mem_cons_of_mem _ ?_; first | assumption | (refine List.mem_cons_of_mem _ ?_; assumption))))))))))); (case iq78 => with_reducible assumption); (case zq78 => omega); k_whole); intro _ _ _ _ _ l1w8; (try k_lt l1w8); (try k_sweep)))
  k_with "call type:object nil nil" => ((k_here; k_dflt (refine' object_call ?Fq79 ?Nq79 ?_; (case Fq79 => k_asm); (case Nq79 => k_asm); k_whole); intro _ _ _ _ l1w8; (try k_lt l1w8); (try k_sweep)))
  trivial
section
/-- what unorderable_list_difference makes of the two lists: the first one read from its end -/
noncomputable def uldG : List Str → List Str → List Str → List Str × List Str
  | [], ys, ms => (ms, ys)
  | x :: r, ys, ms => if ys.any (· == x) = true then uldG r (delS x ys) ms else uldG r ys (ms ++ [x])
theorem rev_last {xs : List Str} (h : 0 < xs.length) : xs.reverse = xs.getD (xs.length - 1) Str.empty :: xs.dropLast.reverse := by
  have hne : xs ≠ [] := fun q => by rw [q] at h; exact absurd h (Nat.lt_irrefl _)
  have e : xs.getLast hne = xs.getD (xs.length - 1) Str.empty := by
    rw [List.getLast_eq_getElem]
    simp [List.getD, List.getElem?_eq_getElem (show xs.length - 1 < xs.length by omega)]
  rw [← e]
  conv => lhs; rw [← List.dropLast_concat_getLast hne, List.reverse_append]
  rfl
theorem news_bma {h₀ h : Heap} {L : Addr} {b m a : Addr × Obj} {l : List (Addr × Obj)} (N : News h₀ L h (b :: m :: a :: l)) : News h₀ L h (m :: a :: b :: l) := fun q hq => N q (by
  revert q; repeat' (first | with_reducible refine List.forall_mem_cons.mpr ⟨?_, ?_⟩ | (intro _ hS9; (repeat (first | with_reducible exact hS9 | with_reducible refine List.mem_cons_of_mem _ ?_)); done) | with_reducible refine List.forall_mem_append.mpr ⟨?_, ?_⟩ | ((repeat (first | with_reducible exact List.mem_cons_self | with_reducible refine List.mem_cons_of_mem _ ?_)); done) | with_reducible exact fun _ h => absurd h List.not_mem_nil))
theorem news_damb {h₀ h : Heap} {L : Addr} {d m a b : Addr × Obj} {l : List (Addr × Obj)} (N : News h₀ L h (d :: m :: a :: b :: l)) : News h₀ L h (d :: m :: b :: l) := fun q hq => N q (by
  revert q; repeat' (first | with_reducible refine List.forall_mem_cons.mpr ⟨?_, ?_⟩ | (intro _ hS9; (repeat (first | with_reducible exact hS9 | with_reducible refine List.mem_cons_of_mem _ ?_)); done) | with_reducible refine List.forall_mem_append.mpr ⟨?_, ?_⟩ | ((repeat (first | with_reducible exact List.mem_cons_self | with_reducible refine List.mem_cons_of_mem _ ?_)); done) | with_reducible exact fun _ h => absurd h List.not_mem_nil))
theorem uld_ok (w : World) (la lb : Addr) (vs us : List Value) (xs ys : List Str) (n k : Nat) (rest : List (Addr × Obj)) (h1 : StrsAre vs xs) (h2 : StrsAre us ys) (hx : xs.length ≤ 100) (hy : ys.length ≤ 100) (hne : @Ne Nat la lb) (o1 : ∀ q ∈ rest, q.1 ≠ la) (o2 : ∀ q ∈ rest, q.1 ≠ lb) :
    CallOkT w 127 [.ref la, .ref lb] ((la, listOf vs.toArray n) :: (lb, listOf us.toArray k) :: rest) 6 300 (fun r led => ∃ D M mv uv n1 n2, r = .ref D ∧ led = (D, ({ cls := .type "tuple", data := .seq #[.ref M, .ref lb] } : Obj)) :: (M, listOf (List.toArray mv) n1) :: (lb, listOf (List.toArray uv) n2) :: rest ∧ StrsAre mv (uldG xs.reverse ys []).1 ∧ StrsAre uv (uldG xs.reverse ys []).2) := by
  unfold CallOkT
  k_fill
  intro loose mean mg mb p dp un gd cn cs a ccd cl outer A₀ base h₀ L m sh sg sd st so Q E B F X N T XB TB D C hk' hd1 hu hret
  generalize hR : uldG xs.reverse ys [] = R at hret
  refine wpAny_call ?_
  k_dflt (refine' callS_plain (bs := [(Str.ofString "actual", .ref lb), (Str.ofString "expected", .ref la)]) B F X N T XB TB D KtsTurn.refl rfl rfl hk' ?k6 ?k7 ?k8 ?k9 ?kB ?kL ?_ ?c2 ?c3 ?c4 ?c5; (case k6 => k_is); (case k7 => k_is); (case k8 => ktr_room); (case k9 => exact BindsTo.of_eq rfl); (case kB => exact locs rfl); (case kL => exact rfl); (case c2 => exact rfl); (case c3 => exact rfl); (case c4 => exact rfl); (case c5 => decide); k_whole; intro g' L' h' tk' FG' F' N' B' X' T' D'; (try dsimp only); (try k_fold))
  k_extra "unf"
  (rename Fr _ _ _ _ => lF'); (rename News _ _ _ ((_, _) :: (la, _) :: _) => lN'); (rename la < _ ∧ _ => a2)
  obtain ⟨a3, a4, a5⟩ := a2
  have oM : ∀ p ∈ rest, p.1 ≠ _ := fun p hp => Nat.ne_of_lt (ktn_ltOf a5 p hp)
  have o3 : @LT.lt Nat _ _ _ := a3
  have o4 : @LT.lt Nat _ _ _ := a4
  clear a3 a4 a5
  refine' gsw_while (G := fun g => KtsTurn ((envX cn cs L a ccd cl :: outer).filterMap (·.frame)) g' g ∧ Below (ktrTop dp un gd cn cs L a ccd cl outer) base (envX cn cs L a ccd cl :: outer) g ∧ (frag w.params).In g ∧ Top p loose mean mg mb g ∧ KtsDicts ((envX cn cs L a ccd cl :: outer).filterMap (·.frame)) g)
    (σ := (List Value × List Str × Nat) × (List Value × List Str × Nat) × (List Value × List Str × Nat)) (fun c => (_, listOf c.2.2.1.toArray c.2.2.2.2) :: (la, listOf c.1.1.toArray c.1.2.2) :: (lb, listOf c.2.1.1.toArray c.2.1.2.2) :: rest) (fun c => []) (fun c => StrsAre c.1.1 c.1.2.1 ∧ StrsAre c.2.1.1 c.2.1.2.1 ∧ StrsAre c.2.2.1 c.2.2.2.1) [Str.ofString "item"]
    (fun c => c.2.2.2.1.length + c.1.2.1.length ≤ 100 ∧ c.2.1.2.1.length ≤ 100 ∧ uldG c.1.2.1.reverse c.2.1.2.1 c.2.2.2.1 = R) (fun c => c.1.2.1.length) ((vs, xs, n), (us, ys, k), ([], [], 0)) ⟨KtsTurn.refl, B', X', T', D'⟩ lF' lN' ?kf ?kk ?kp ?_ ?ke
  (case kf => exact ⟨h1, h2, .nil⟩)
  (case kk => exact fun _ h9 => nomatch h9)
  (case kp => exact ⟨by simpa using hx, hy, hR⟩)
  (case ke => passes_own)
  refine all_ooxxxeoxxxeoxxxee ?_
  intro xv xx xn yv yy yn mv mm mn u g1 h tk pk2 pk3 pk4 F' N'
  (try dsimp only); (try k_fold); show (let G9 : Prop := _; G9); intro G9
  obtain ⟨T1, B1, X1, P1, D1⟩ := pk2
  obtain ⟨f1, f2, f3⟩ := pk3
  obtain ⟨p1, p2, p3⟩ := pk4
  k_unfold; clear G9
  (dsimp only at f1 f2 f3 p1 p2 p3 F' N')
  clear lF' lN' T' D' X' B'
  (try k_fold)
  k_extra "unf"
  case h2 =>
    (rename Fr g1 L' _ _ => lF'); (rename News g1 L' _ ((_, _) :: _) => lN'); (rename Heap.NewExc _ _ _ _ => x9)
    (rename 0 < xx.length => p5); (rename _ = false => c5)
    rw [rev_last p5, uldG, if_neg (by rw [c5]; exact Bool.false_ne_true)] at p3
    refine flown_note (B1.push lF' (by rfl)).stack (B1.push lF' (by rfl)).frames rfl (exc2_of x9) fun h12 T12 t12 x12 => ?_
    refine flown_set x12 none fun h14 x14 => ?_
    refine flown_caught (T' := "ValueError") B1 lF' lN' XB TB D1 T1 x14 ?ex PyProof.Rows.Boot.«ValueError» ?hn PySem.F.isExc_ValueError PySem.F.notTuple_ValueError PySem.F.self_ValueError ?_
    (case ex => k_is)
    (case hn => decide)
    intro h15 g15 T15 F15 N15 B15 X15 P15 D15
    clear lF' lN' x9 x12 x14
    (try dsimp only)
    (try k_fold)
    k_extra "unf"
    (rename Fr _ _ _ _ => e1); (rename News _ _ _ ((_, _) :: _) => e2)
    refine gsw_end ((_, _, _), (_, _, _), (_, _, _)) ⟨T15, B15, X15, P15, D15⟩ e1 e2 (fun _ h9 => h9) ⟨by assumption, by assumption, by assumption⟩ (fun _ h9 => nomatch h9) ?hr ⟨?_, p2, p3⟩ ?_
    case hr =>
      intro z h3 h4
      have b1 : z ≠ Str.ofString "item" := fun e9 => by subst e9; exact absurd h4 (by decide)
      simp only [kstB, b1, h4, if_false, List.contains_nil, Bool.false_eq_true]
    · dsimp only
      rw [List.length_append, List.length_singleton, List.length_dropLast]
      omega
    · dsimp only
      rw [List.length_dropLast]
      omega
  case h1 =>
    (rename Fr g1 L' _ _ => e1); (rename News g1 L' _ ((_, _) :: _) => e2)
    (rename 0 < xx.length => p5); (rename List.any _ _ = true => c5)
    rw [rev_last p5, uldG, if_pos c5] at p3
    refine gsw_end ((_, _, _), (_, _, _), (_, _, _)) ⟨T1, B1, X1, P1, D1⟩ e1 (news_bma e2) (fun _ h9 => h9) ⟨by assumption, by assumption, by assumption⟩ (fun _ h9 => nomatch h9) ?hr ⟨?_, ?_, p3⟩ ?_
    case hr =>
      intro z h3 h4
      have b1 : z ≠ Str.ofString "item" := fun e9 => by subst e9; exact absurd h4 (by decide)
      simp only [kstB, b1, h4, if_false, List.contains_nil, Bool.false_eq_true]
    · dsimp only
      rw [List.length_dropLast]
      omega
    · dsimp only
      omega
    · dsimp only
      rw [List.length_dropLast]
      omega
  · (rename Fr _ L _ _ => lF'); (rename News _ L _ ((_, _) :: _) => lN'); (rename ¬ (0 < xx.length) => p5)
    have e0 : xx = [] := List.eq_nil_of_length_eq_zero (by omega)
    rw [e0, List.reverse_nil, uldG] at p3
    rw [← p3] at hret
    exact hret _ _ _ _ _ ⟨_, _, _, _, _, _, rfl, rfl, f3, f2⟩ (by assumption) lF' (news_damb lN') (by assumption) (by assumption) (by assumption) (by assumption)
end
section
/-- what _law_counted has told after it has read the texts l -/
noncomputable def stepC (xs ys : List Str) (told : List (Int × Int × Str)) (t : Str) : List (Int × Int × Str) :=
  if ((xs.countP (· == t) : Nat) : Int) ≠ ((ys.countP (· == t) : Nat) : Int) ∧ (((xs.countP (· == t) : Nat) : Int), ((ys.countP (· == t) : Nat) : Int), t) ∉ told then told ++ [(((xs.countP (· == t) : Nat) : Int), ((ys.countP (· == t) : Nat) : Int), t)] else told
noncomputable def rowsC (xs ys l : List Str) : List (Int × Int × Str) := l.foldl (stepC xs ys) []
theorem rowsC_snoc (xs ys l : List Str) (t : Str) : rowsC xs ys (l ++ [t]) = stepC xs ys (rowsC xs ys l) t := by
  unfold rowsC
  rw [List.foldl_append]
  rfl
theorem take_snoc {l : List Str} {i : Nat} (h : i < l.length) : l.take (i + 1) = l.take i ++ [l.getD i Str.empty] := by
  rw [List.take_succ_eq_append_getElem h]
  simp [List.getD, List.getElem?_eq_getElem h]
theorem datAll_snoc {own : List (Addr × Obj)} {vs : List Value} {ds : List Dat} {v : Value} {d : Dat} (a : DatAll own vs ds) (h : DatIn own v d) : DatAll own (vs ++ [v]) (ds ++ [d]) := by
  induction vs generalizing ds with
  | nil => cases a; exact .cons h .nil
  | cons v vs ih => cases a with | cons a r => exact .cons a (ih r)
theorem news_mid {h₀ h : Heap} {L : Addr} {m x : Addr × Obj} {own l : List (Addr × Obj)} (N : News h₀ L h (m :: own ++ x :: l)) : News h₀ L h (m :: (own ++ l)) := fun q hq => N q (by
  simp only [List.mem_cons, List.mem_append] at hq ⊢
  rcases hq with h9 | h9 | h9
  · exact .inl (.inl h9)
  · exact .inl (.inr h9)
  · exact .inr (.inr h9))
theorem counted_ok (w : World) (la lb : Addr) (vs us : List Value) (xs ys : List Str) (n k : Nat) (rest : List (Addr × Obj)) (h1 : StrsAre vs xs) (h2 : StrsAre us ys) (hx : xs.length ≤ 100) (hy : ys.length ≤ 100) (sx : ∀ x ∈ xs, PyData.strOk x = true) (sy : ∀ x ∈ ys, PyData.strOk x = true) (m1 : (la, listOf vs.toArray n) ∈ rest) (m2 : (lb, listOf us.toArray k) ∈ rest) :
    CallOk w 253 [.ref la, .ref lb] rest 6 300 (fun r led => ∃ D tv k own, r = .ref D ∧ DatAll own tv ((rowsC xs ys (xs ++ ys)).map rowD) ∧ led = (D, listOf (List.toArray tv) k) :: (own ++ rest)) := by
  unfold CallOk
  k_fill
  intro loose mean mg mb p dp un gd cn cs a ccd cl outer A₀ base h₀ L m sh sg sd st so Q E B F X N T hk hd1 hu hret
  refine wpAny_call ?_
  k_dflt (refine' code_defL (bs := [(Str.ofString "two", .ref lb), (Str.ofString "one", .ref la)]) ?k1 ?k2 ?k3 ?k4 ?k5 ?kA ?kF ?kK ?k6 ?k7 ?k8 ?k9 ?kB ?kL ?_ ?c2 ?c3 ?c4 ?c5; (case kA => exact rfl); (case kF => exact rfl); (case kK => assumption); (case k1 => k_asm); (case k2 => k_asm); (case k3 => k_asm); (case k4 => k_asm); (case k5 => k_asm); (case k6 => k_is); (case k7 => k_is); (case k8 => ktr_room); (case k9 => exact BindsTo.of_eq rfl); (case c5 => decide); (case kB => exact locs rfl); (case kL => exact rfl); (case c2 => exact rfl); (case c3 => exact rfl); (case c4 => exact rfl); k_whole; intro _ _ _ _ _ _ _ BE _ _; (try dsimp only); (try k_lift BE); (try k_fold))
  k_extra "unf"
  (rename Fr _ _ _ _ => lF0); (with_unfolding_all refine' For_invVF lF0 ?k1 ?k2 ?_; (case k1 => exact rfl); (case k2 => exact rfl))
  k_extra "unf"
  have l1w8 : True := trivial
  rename_i M h5 a1 h6 W wv h7 F0 N0 sW hlW a2
  obtain ⟨a3, a4⟩ := a2
  have oM : ∀ p ∈ rest, p.1 ≠ M := allNe a1 (Nat.le_refl _)
  have oMW : @LT.lt Nat _ M W := a3
  refine for_led (σ := List Value × List (Int × Int × Str) × Nat × List (Addr × Obj)) (fun c => (M, listOf c.1.toArray c.2.2.1) :: c.2.2.2) ((W, listOf wv.toArray 0) :: rest) (fun c => []) [Str.ofString "row"] (fun i c => c.2.1 = rowsC xs ys ((xs ++ ys).take i) ∧ DatAll c.2.2.2 c.1 (c.2.1.map rowD) ∧ (∀ r ∈ c.2.1, PyData.strOk r.2.2 = true) ∧ c.1.length ≤ i ∧ (∀ q ∈ c.2.2.2, q.1 ≠ M)) ([], [], 0, []) rfl (.head _) F0 (news_swap N0) ?hR (fun _ h9 => nomatch h9) ⟨rfl, .nil, (fun _ h9 => nomatch h9), Nat.le_refl _, (fun _ h9 => nomatch h9)⟩ ?_ ?_
  case hR =>
    intro p hp b hb
    rcases List.mem_cons.mp hb with rfl | hb
    · rcases List.mem_cons.mp hp with rfl | hp
      · exact Nat.ne_of_gt oMW
      · exact oM p hp
    · nomatch hb
  · refine all_oxxxxe ?_
    intro tv rows n1 own i v u h tk R hv hRR hO pk2 F1 N1
    (try dsimp only); (try k_fold); show (let G9 : Prop := _; G9); intro G9
    obtain ⟨p1, p2, p3, p4, p5⟩ := pk2
    k_unfold; clear G9
    clear F0 N0
    dsimp only at p1 p2 p3 p4 p5 F1 N1 hO
    obtain ⟨hi, t1, e1⟩ := sa_item sW hv
    subst e1
    have m1' := List.mem_append_right own (hRR _ (.tail _ m1))
    have m2' := List.mem_append_right own (hRR _ (.tail _ m2))
    have oA : ∀ q ∈ own ++ R, q.1 ≠ M := fun q hq => (List.mem_append.mp hq).elim (p5 q) fun h9 => hO q h9 M (.head _)
    have sk : PyData.strOk ((xs ++ ys).getD i Str.empty) = true := by
      have : (xs ++ ys).getD i Str.empty ∈ xs ++ ys := by
        simp only [List.getD, List.getElem?_eq_getElem hi, Option.getD_some]
        exact List.getElem_mem hi
      exact (List.mem_append.mp this).elim (sx _) (sy _)
    rw [List.cons_append] at N1
    (try k_fold)
    k_extra "unf"
    · rename (_ ∈ rows) => c5
      (rename Fr _ _ _ (fun y => if y = Str.ofString "row" then _ else _) => e1); (rename News _ _ _ ((_, _) :: (M, _) :: _) => e2)
      refine fl_end (tv, rows, n1, own) e1 e2 (fun _ h9 => .tail _ h9) hO (fun _ h9 => nomatch h9) ?hr1 ⟨?_, p2, p3, Nat.le_succ_of_le p4, p5⟩
      case hr1 =>
        intro z h2 h3 h4
        have b1 : z ≠ Str.ofString "row" := fun e9 => by subst e9; exact absurd h4 (by decide)
        simp only [kstB, h2, b1, h4, if_false, Bool.false_eq_true, List.contains_nil]
      rw [take_snoc hi, rowsC_snoc, stepC, if_neg (fun q => by first | exact q.2 (by rw [← p1]; exact c5) | exact q.1 c5)]
      exact p1
    · have l1w8 : True := trivial
      (repeat (first | (rename (Value → Shared → Prop) => qz; clear qz) | (rename (Flow → Shared → Prop) => qz; clear qz) | (rename (Bool → Shared → Prop) => qz; clear qz)))
      have tk : True := trivial
      rename_i T9 h51 F51 N51 l1 h52 tk51 c6 c5 tk52 h53 e1 e2 hl9
      obtain ⟨l3, l4⟩ := l1
      refine fl_end ((tv ++ [Value.ref T9] : List Value), rows ++ [(((xs.countP (· == (xs ++ ys).getD i Str.empty) : Nat) : Int), ((ys.countP (· == (xs ++ ys).getD i Str.empty) : Nat) : Int), (xs ++ ys).getD i Str.empty)], n1 + 1, (T9, _) :: own) e1 (news_swap e2) (fun _ h9 => h9) ?ho (fun _ h9 => nomatch h9) ?hr2 ⟨?_, ?_, ?_, ?_, ?_⟩
      case ho =>
        intro q hq b hb
        rcases List.mem_cons.mp hb with rfl | hb
        · exact hO q hq _ (.head _)
        rcases List.mem_cons.mp hb with rfl | hb
        · exact Nat.ne_of_lt (ktn_ltOf l4 q (List.mem_append_right _ hq))
        · exact hO q hq _ (.tail _ hb)
      case hr2 =>
        intro z h2 h3 h4
        have b1 : z ≠ Str.ofString "row" := fun e9 => by subst e9; exact absurd h4 (by decide)
        simp only [kstB, h2, b1, h4, if_false, Bool.false_eq_true, List.contains_nil]
      · rw [take_snoc hi, rowsC_snoc, stepC, if_pos ⟨c6, by rw [← p1]; exact c5⟩, ← p1]
      · dsimp only
        rw [List.map_append]
        exact datAll_snoc (p2.mono fun _ h9 => .tail _ h9) (row_in (.head _))
      · intro r hr
        rcases List.mem_append.mp hr with h9 | h9
        · exact p3 r h9
        · rw [List.mem_singleton.mp h9]; exact sk
      · dsimp only
        rw [List.length_append, List.length_singleton]
        exact Nat.succ_le_succ p4
      · intro q hq
        rcases List.mem_cons.mp hq with rfl | hq
        · exact Nat.ne_of_gt l3
        · exact p5 q hq
    · rename (_ = _) => c5
      (rename Fr _ _ _ (fun y => if y = Str.ofString "row" then _ else _) => e1); (rename News _ _ _ ((_, _) :: (M, _) :: _) => e2)
      refine fl_end (tv, rows, n1, own) e1 e2 (fun _ h9 => .tail _ h9) hO (fun _ h9 => nomatch h9) ?hr3 ⟨?_, p2, p3, Nat.le_succ_of_le p4, p5⟩
      case hr3 =>
        intro z h2 h3 h4
        have b1 : z ≠ Str.ofString "row" := fun e9 => by subst e9; exact absurd h4 (by decide)
        simp only [kstB, h2, b1, h4, if_false, Bool.false_eq_true, List.contains_nil]
      rw [take_snoc hi, rowsC_snoc, stepC, if_neg (fun q => by first | exact q.2 (by rw [← p1]; exact c5) | exact q.1 c5)]
      exact p1
  · refine all_oxxxxe ?_
    intro tv rows n1 own u h tk pk2 hO F1 N1
    (try dsimp only); (try k_fold); show (let G9 : Prop := _; G9); intro G9
    obtain ⟨p1, p2, p3, p4, p5⟩ := pk2
    k_unfold; clear G9
    clear F0 N0
    dsimp only at p1 p2 p3 p4 p5 F1 N1 hO
    (try k_fold)
    k_extra "unf"
    (rename Fr _ L _ _ => e1); (rename News _ L _ _ => e2)
    rw [sW.length, List.take_length] at p1
    subst p1
    exact hret _ _ _ _ ⟨_, _, _, _, rfl, p2, rfl⟩ e1 (news_mid e2)
end
section
theorem news_one {h₀ h : Heap} {L : Addr} {a b : Addr × Obj} {l : List (Addr × Obj)} (N : News h₀ L h (a :: b :: l)) : News h₀ L h (a :: l) := fun q hq => N q (by
  revert q; repeat' (first | with_reducible refine List.forall_mem_cons.mpr ⟨?_, ?_⟩ | (intro _ hS9; (repeat (first | with_reducible exact hS9 | with_reducible refine List.mem_cons_of_mem _ ?_)); done) | with_reducible refine List.forall_mem_append.mpr ⟨?_, ?_⟩ | ((repeat (first | with_reducible exact List.mem_cons_self | with_reducible refine List.mem_cons_of_mem _ ?_)); done) | with_reducible exact fun _ h => absurd h List.not_mem_nil))
theorem args_oi4 (a b c d : Value) : argsOk "object.__init__" ⟨[a, b, c, d], []⟩ := by
  unfold argsOk; rw [PySem.signature?_of (id := "object.__init__") (n := ['_', '_', 't', 'i', 'n', 'i', '_', '_']) (o := ['t', 'c', 'e', 'j', 'b', 'o']) (by kernel_rfl) PySem.F.owner_object]; kernel_rfl
theorem meta_tuple : typeOf (.type "tuple") = pure (.type "type") := by kernel_rfl
theorem stub_tuple : Manifest.isStub "tuple" = false := by decide +kernel
theorem mis_ok (w : World) (x1 x2 : Int) (x3 : Str) (t1 t2 t3 : Tok) (rest : List (Addr × Obj)) :
    CallOk w 205 [.int x1 t1, .int x2 t2, .str x3 t3] rest 10 400 (fun r led => ∃ D dx, r = .ref D ∧ led = (D, ({ cls := .ref 205, dict := some dx, data := .seq #[.int x1 t1, .int x2 t2, .str x3 t3] } : Obj)) :: rest ∧ ∀ q ∈ rest, q.1 ≠ D) := by
  unfold CallOk
  k_fill
  intro loose mean mg mb p dp un gd cn cs a ccd cl outer A₀ base h₀ L m hh g d tk os Q E B F X N T hk hd1 hu hret
  have X' : (frag w.params).In hh := X.keeps F.keep
  have call : Looks (model PySem.Challenge.rw_in0117_01.prog w) hh (specialOf (.ref 205) "__call__") (some (.builtin "type.__call__")) := looks_specialIn X' (by k_dflt k_is)
  have typ : Looks (model PySem.Challenge.rw_in0117_01.prog w) hh (isInstance (.ref 205) (.type "type")) true := looks_instIn X' (by k_dflt k_is)
  have hmA : ∀ h9, (frag w.params).In h9 → Looks (model PySem.Challenge.rw_in0117_01.prog w) h9 (mroOf (.ref 205)) [Value.ref 205, Value.type "tuple", Value.type "object"] := fun h9 X9 => (looks_clsIn X9 (by k_dflt k_is)).andThen .now
  have hCA : ∀ h9, (frag w.params).In h9 → h9.get? 205 = some _ := fun h9 X9 => X9 _ _ (by k_dflt k_is)
  have madeA : ∀ h9, (frag w.params).In h9 → Looks (model PySem.Challenge.rw_in0117_01.prog w) h9 (Bind.madeBy (.ref 205)) none := by
    intro h9 X9 A Q E s k q
    unfold Bind.madeBy
    refine wpAny_bind (hmA h9 X9 A _ E s k ?_)
    rw [List.forIn_cons]
    refine wpAny_bind (wpAny_bind (wpAny_bind (wpAny_bind (wpAny_loadPart (k _ _ (hCA h9 X9)) (wpAny_pure ?_)))))
    dsimp only
    exact wpAny_pure (wpAny_pure (wpAny_pure q))
  have initA : ∀ h9, (frag w.params).In h9 → Looks (model PySem.Challenge.rw_in0117_01.prog w) h9 (typeLookup (.ref 205) "__init__") (some (.builtin "object.__init__")) := fun h9 X9 => looks_findIn X9 (by k_dflt k_is)
  have subA : ∀ h9, (frag w.params).In h9 → Looks (model PySem.Challenge.rw_in0117_01.prog w) h9 (isSubtype (.ref 205) (.type "tuple")) true := fun h9 X9 => looks_subIn X9 (by k_dflt k_is)
  have selfA : ∀ h9, (frag w.params).In h9 → Looks (model PySem.Challenge.rw_in0117_01.prog w) h9 (isSubtype (.ref 205) (.ref 205)) true := fun h9 X9 => looks_subIn X9 (by k_dflt k_is)
  have objA : ∀ h9, (frag w.params).In h9 → Looks (model PySem.Challenge.rw_in0117_01.prog w) h9 (isSubtype (.ref 205) (.type "object")) true := fun h9 X9 => looks_subIn X9 (by k_dflt k_is)
  have hm := hmA hh X'
  have hC := hCA hh X'
  have made := madeA hh X'
  refine wpAny_call ?_
  refine codeAny_of_tree ?_
  show wpAny _ _ (callAny (.ref 205) _) _ _ _
  refine nd_load hC ?_
  show wpAny _ _ (callAny.viaDunder (.ref 205) _) _ _ _
  unfold callAny.viaDunder
  refine wpAny_bind (call.at ?_)
  dsimp only
  rw [tc_bind]
  refine wpAny_bind (wpAny_pure (wpAny_bind (wpAny_pure ?_)))
  refine wpAny_pure (a := Fin.again (.call (.builtin "type.__call__") ⟨.ref 205 :: [.int x1 t1, .int x2 t2, .str x3 t3], []⟩)) (And.intro rfl ?_)
  refine codeAny_call_builtin_at (Code.quiet_builtin _ (by decide +kernel)) entry_typeCall (check_slot (i := "type.__call__") tc_kind tc_split typ (tc_args _ _ _) ?_)
  unfold Builtin.«type.__call__»
  iterate 9 lk
  refine cls_sm F X (by k_dflt k_is) (by k_dflt k_is) (by k_dflt k_is) (by k_dflt k_is) (by rfl) ?_
  iterate 2 lk
  refine wpAny_call ?_
  k_dflt cell_enter
  k_extra "unf"
  refine' method_type (K := frag w.params) (v := .builtin "tuple.__new__") ?a1 ?a2 ?a3 ?a4 ?a5 ?a6 ?_
  case' a1 => k_asm
  case' a2 => k_asm
  case' a3 => exact meta_tuple
  case' a4 => exact stub_tuple
  case' a5 => k_dflt k_is
  case' a6 => rfl
  (try dsimp only)
  iterate 14 (first | walk1 | (dsimp only; walk1))
  (rename Fr _ _ _ _ => e1); (rename News _ _ _ ((_, _) :: rest) => e2)
  have X2 := Frag.In.keeps (K := frag w.params) (by k_asm) e1.keep
  refine tup_newK e1 e2 (tupCls_mk (hCA _ X2) rfl (hmA _ X2) (madeA _ X2) (subA _ X2) (initA _ X2)) (hCA _ X2) rfl (.head _) (by show 3 ≤ 1000; decide) ?_
  intro x dx h5 F5 N5 o5
  clear e1 e2
  (try dsimp only)
  k_extra "unf"
  (rename Fr h₀ L _ _ => e3); (rename News h₀ L _ ((_, _) :: _) => e4)
  have X5 := Frag.In.keeps (K := frag w.params) X e3.keep
  have hx := (e4 _ (.head _)).1
  dsimp only at hx X5
  have t1 : Looks (model PySem.Challenge.rw_in0117_01.prog w) h5 (typeOf (.ref x)) (.ref 205) := (Looks.ld hx).andThen .now
  have s1 := selfA _ X5
  have i1 := initA _ X5
  have o1 := objA _ X5
  have md := madeA _ X5
  have b1 : Looks (model PySem.Challenge.rw_in0117_01.prog w) h5 (bindSpecial (.builtin "object.__init__") (.ref x)) (.builtin "object.__init__", [.ref x]) := Looks.of_pure (oi_bind _)
  unfold isInstance callSpecial? specialOf
  repeat (first | with_reducible refine wpAny_call ?_ | lk)
  refine codeAny_call_builtin_at (Code.quiet_builtin _ (by decide +kernel)) entry_oi (check_slot (i := "object.__init__") oi_kind oi_split ?_ (args_oi4 _ _ _ _) ?_)
  · unfold isInstance
    exact t1.andThen o1
  unfold Builtin.«object.__init__»
  repeat (first | simp only [bne_self_eq_false, Bool.false_eq_true, if_false] | lk)
  exact hret _ _ _ _ ⟨_, _, rfl, rfl, fun q hq => o5 q (.tail _ hq)⟩ e3 (news_one e4)
end
section
theorem fold_mono {xs ys : List Str} : ∀ (l : List Str) (acc : List (Int × Int × Str)) (r : Int × Int × Str), r ∈ acc → r ∈ l.foldl (stepC xs ys) acc
  | [], _, _, h => h
  | t :: l, acc, r, h => by
    rw [List.foldl_cons]
    refine fold_mono l _ r ?_
    unfold stepC
    split
    · exact List.mem_append_left _ h
    · exact h
theorem fold_mem {xs ys : List Str} : ∀ (l : List Str) (acc : List (Int × Int × Str)) (r : Int × Int × Str), r ∈ l.foldl (stepC xs ys) acc → r ∈ acc ∨ r.2.2 ∈ l
  | [], _, _, h => .inl h
  | t :: l, acc, r, h => by
    rw [List.foldl_cons] at h
    rcases fold_mem l _ r h with h1 | h1
    · unfold stepC at h1
      split at h1
      · rcases List.mem_append.mp h1 with h2 | h2
        · exact .inl h2
        · right
          rw [List.mem_singleton.mp h2]
          exact .head _
      · exact .inl h1
    · exact .inr (.tail _ h1)
theorem fold_seen {xs ys : List Str} {z : Str} (hne : ((xs.countP (· == z) : Nat) : Int) ≠ ((ys.countP (· == z) : Nat) : Int)) : ∀ (l : List Str) (acc : List (Int × Int × Str)), z ∈ l → (((xs.countP (· == z) : Nat) : Int), ((ys.countP (· == z) : Nat) : Int), z) ∈ l.foldl (stepC xs ys) acc
  | t :: l, acc, h => by
    rw [List.foldl_cons]
    rcases List.mem_cons.mp h with rfl | h
    · refine fold_mono l _ _ ?_
      unfold stepC
      split
      · exact List.mem_append_right _ (.head _)
      · rename_i hn
        by_cases q : (((xs.countP (· == z) : Nat) : Int), ((ys.countP (· == z) : Nat) : Int), z) ∈ acc
        · exact q
        · exact absurd ⟨hne, q⟩ hn
    · exact fold_seen hne l _ h
theorem rowsC_new {xs ys l : List Str} {z : Str} (hz : z ∉ l) (hne : ((xs.countP (· == z) : Nat) : Int) ≠ ((ys.countP (· == z) : Nat) : Int)) : stepC xs ys (rowsC xs ys l) z = rowsC xs ys l ++ [(((xs.countP (· == z) : Nat) : Int), ((ys.countP (· == z) : Nat) : Int), z)] := by
  unfold stepC
  rw [if_pos]
  refine ⟨hne, fun q => ?_⟩
  rcases fold_mem l [] _ q with h1 | h1
  · nomatch h1
  · exact hz h1
theorem rowsC_like {xs ys l : List Str} {z : Str} (he : ((xs.countP (· == z) : Nat) : Int) = ((ys.countP (· == z) : Nat) : Int)) : stepC xs ys (rowsC xs ys l) z = rowsC xs ys l := by
  unfold stepC
  rw [if_neg]
  exact fun q => q.1 he
theorem rowsC_old {xs ys l : List Str} {z : Str} (hz : z ∈ l) : stepC xs ys (rowsC xs ys l) z = rowsC xs ys l := by
  by_cases he : ((xs.countP (· == z) : Nat) : Int) = ((ys.countP (· == z) : Nat) : Int)
  · exact rowsC_like he
  · unfold stepC
    rw [if_neg]
    exact fun q => q.2 (fold_seen he l [] hz)
theorem maskF_same {xs Z W : List Str} (hW : ∀ z, z ∈ W ↔ z ∈ Z) (p : Nat) : maskF xs Z p = maskF xs W p := by
  unfold maskF
  by_cases h : xs.getD p Str.empty ∈ Z
  · rw [if_pos h, if_pos ((hW _).mpr h)]
  · rw [if_neg h, if_neg (fun q => h ((hW _).mp q))]
theorem news_d7 {h₀ h : Heap} {L : Addr} {d e i s t r n : Addr × Obj} {l : List (Addr × Obj)} (N : News h₀ L h (d :: e :: i :: s :: t :: r :: n :: l)) : News h₀ L h (e :: i :: s :: t :: r :: n :: d :: l) := fun q hq => N q (by
  revert q; repeat' (first | with_reducible refine List.forall_mem_cons.mpr ⟨?_, ?_⟩ | (intro _ hS9; (repeat (first | with_reducible exact hS9 | with_reducible refine List.mem_cons_of_mem _ ?_)); done) | with_reducible refine List.forall_mem_append.mpr ⟨?_, ?_⟩ | ((repeat (first | with_reducible exact List.mem_cons_self | with_reducible refine List.mem_cons_of_mem _ ?_)); done) | with_reducible exact fun _ h => absurd h List.not_mem_nil))
end
section
section
theorem wl_24 : True := by
  k_with "unf" => (repeat' (first | (k_unfold; (try dsimp only)) | ((first | (with_reducible show wpAny _ _ (execs _ _) _ _ _) | (with_reducible show wpAny _ _ (call _ _) _ _ _) | (with_reducible show wpAny _ _ (isTrue _ _ _) _ _ _) | (with_reducible show wpAny _ _ (truthy _) _ _ _)); k_fold) | ((fail_if_success first | (with_reducible show KswEnd _ _ _ _ _ _ _ _ _ _ _ _) | (with_reducible show FlEnd _ _ _ _ _ _ _ _ _ _ _ _) | (with_reducible show F1End _ _ _ _ _ _ _ _ _ _ _) | (with_reducible show wpAny _ _ (exec (Stmt.While _ _ _ _) _) _ _ _) | (with_reducible show wpAny _ _ (exec (Stmt.For _ _ _ _ _) _) _ _ _) | (with_reducible show wpAny _ _ (pyIter _) (fun it s₂ => LoopAtV _ _ _ _ _ _ _ _ _ it s₂) _ _) | (with_reducible show wpAny _ _ (eval (PySem.Expr.ListComp _ _ _ _) _) _ _ _) | (with_reducible show wpAny _ _ (exec (Stmt.Assign _ (PySem.Expr.ListComp _ _ _ _) _) _) _ _ _) | (with_reducible show SrcRS _ _ _ _ _ _ _ _ _ _ _ _ _ _ _) | (with_reducible show LCg.CompSrc _ _ _ _ _ _ _ _ _ _ _ _ _ _) | (with_reducible show LCt.CompSrcT _ _ _ _ _ _ _ _ _ _ _ _ _ _ _) | (with_reducible show LCg.CompEnd _ _ _ _ _ _ _ _ _ _ _ _ _ _)); first | ((with_reducible show _ ∧ _); with_reducible (k_extra "own And")) | ((with_reducible show wpAny _ _ (binaryOp Operator.Add (Value.bytes _ _) (Value.bytes _ _)) _ _ _); with_reducible (k_extra "own binaryOp Add bytes bytes")) | ((with_reducible show wpAny _ _ (binaryOp Operator.Add (Value.ref _) (Value.ref _)) _ _ _); with_reducible (k_extra "own binaryOp Add ref ref")) | ((with_reducible show wpAny _ _ (binaryOp Operator.Mod (Value.str _ _) (Value.ref _)) _ _ _); with_reducible (k_extra "own binaryOp Mod str ref")) | ((with_reducible show wpAny _ _ (binaryOp Operator.RShift _ _) _ _ _); with_reducible (k_extra "own binaryOp RShift int int")) | ((with_reducible show wpAny _ _ (eval (PySem.Expr.Name _ _) _) _ _ _); with_reducible (k_extra "own eval Name")) | ((with_reducible show wpAny _ _ (exec (Stmt.Raise _ _ _) _) _ _ _); with_reducible (k_extra "own exec Raise some none")) | ((with_reducible show wpAny _ _ (getMethod (Value.bytes _ _) _ _) _ _ _); with_reducible (k_extra "own getMethod bytes")) | ((with_reducible show wpAny _ _ (getMethod (Value.ref _) _ _) _ _ _); with_reducible (k_extra "own getMethod ref")) | ((with_reducible show wpAny _ _ (getMethod (Value.str _ _) _ _) _ _ _); with_reducible (k_extra "own getMethod str")) | ((with_reducible show wpAny _ _ (leaving _ _) _ _ _); k_extra "own leaving ref") | ((with_reducible show wpAny _ _ (subscriptTail _ (PySem.Expr.Slice _ _ _ _) (Value.ref _) _) _ _ _); with_reducible (k_extra "own subscriptTail Name Slice ref ref")) | ((with_reducible show wpAny _ _ (truthy (Value.ref _)) _ _ _); with_reducible (k_extra "own truthy ref")) | walk1 | (dsimp only; walk1) | (leave1; walk_say "STEP leave1"; try dsimp only) | fail "no step")))
  trivial
open PyProof.Rows.LCg PyProof.Rows.LCt
theorem size_dn (n : Nat) : Builtin.Range.rangeSize ((n : Int) - 1) (-1) (-1) = ((n : Nat) : Int) := by
  unfold Builtin.Range.rangeSize
  rw [if_neg (by decide), show (-(-1) : Int) = 1 by decide, Int.ediv_one]
  split <;> omega
theorem small_dn {n : Nat} (h : n ≤ 1000000) : Builtin.Range.small ((n : Int) - 1) (-1) (-1) = true := by
  unfold Builtin.Range.small
  rw [size_dn]
  simp only [Builtin.Range.rangeFitsLong, Bool.and_eq_true, Bool.or_eq_true, decide_eq_true_eq, beq_iff_eq, show ¬ ((-1 : Int) > 0) by decide, if_false]
  omega
theorem size_up (n : Nat) : Builtin.Range.rangeSize 0 (n : Int) 1 = ((n : Nat) : Int) := by
  unfold Builtin.Range.rangeSize
  rw [if_pos (by decide), Int.ediv_one]
  split <;> omega
/-- what the first comprehension of _law_more has told after i turns (from the last on) -/
noncomputable def tellA (xs ys : List Str) : Nat → List Str
  | 0 => []
  | i + 1 => tellA xs ys i ++ (if ys.countP (· == xs.getD (xs.length - 1 - i) Str.empty) < (xs.drop (xs.length - 1 - i)).countP (· == xs.getD (xs.length - 1 - i) Str.empty) then [xs.getD (xs.length - 1 - i) Str.empty] else [])
/-- and the second one -/
noncomputable def tellB (xs ys : List Str) : Nat → List Str
  | 0 => []
  | i + 1 => tellB xs ys i ++ (if xs.countP (· == ys.getD i Str.empty) < (ys.take (i + 1)).countP (· == ys.getD i Str.empty) then [ys.getD i Str.empty] else [])
theorem news_tum {h₀ h : Heap} {L : Addr} {d u m x y : Addr × Obj} {l : List (Addr × Obj)} (N : News h₀ L h (d :: u :: m :: x :: y :: l)) : News h₀ L h (d :: m :: u :: l) := fun q hq => N q (by
  revert q; repeat' (first | with_reducible refine List.forall_mem_cons.mpr ⟨?_, ?_⟩ | (intro _ hS9; (repeat (first | with_reducible exact hS9 | with_reducible refine List.mem_cons_of_mem _ ?_)); done) | with_reducible refine List.forall_mem_append.mpr ⟨?_, ?_⟩ | ((repeat (first | with_reducible exact List.mem_cons_self | with_reducible refine List.mem_cons_of_mem _ ?_)); done) | with_reducible exact fun _ h => absurd h List.not_mem_nil))
theorem more_ok (w : World) (la lb : Addr) (vs us : List Value) (xs ys : List Str) (n k : Nat) (rest : List (Addr × Obj)) (h1 : StrsAre vs xs) (h2 : StrsAre us ys) (hx : xs.length ≤ 100) (hy : ys.length ≤ 100) (m1 : (la, listOf vs.toArray n) ∈ rest) (m2 : (lb, listOf us.toArray k) ∈ rest) :
    CallOk w 258 [.ref la, .ref lb] rest 6 300 (fun r led => ∃ D M U mv uv n1 n2, r = .ref D ∧ led = (D, ({ cls := .type "tuple", data := .seq #[.ref M, .ref U] } : Obj)) :: (M, listOf (List.toArray mv) n1) :: (U, listOf (List.toArray uv) n2) :: rest ∧ StrsAre mv (tellA xs ys xs.length) ∧ StrsAre uv (tellB xs ys ys.length)) := by
  unfold CallOk
  k_fill
  intro loose mean mg mb p dp un gd cn cs a ccd cl outer A₀ base h₀ L m sh sg sd st so Q E B F X N T hk hd1 hu hret
  refine wpAny_call ?_
  k_dflt (refine' code_defC ?k1 ?k2 ?k3 ?k4 ?k5 ?kA ?kF ?kK ?k6 ?k7 ?k8 ?k9 ?kB ?kD ?_ ?c2 ?c3 ?c4; (case kA => exact rfl); (case kF => exact rfl); (case kK => assumption); (case k1 => k_asm); (case k2 => k_asm); (case k3 => k_asm); (case k4 => k_asm); (case k5 => k_asm); (case k6 => k_is); (case k7 => k_is); (case k8 => ktr_room); (case k9 => exact BindsTo.of_eq rfl); (case kB => exact rfl); (case kD => decide +kernel); (case c2 => exact rfl); (case c3 => exact rfl); (case c4 => exact rfl); k_whole; intro gw7 Lw7 hw7 tkw7 cellsw7 FGw7 Fw7 Nw7 Yw7 Bw7 Xw7 Tw7 l1w7; k_cells Yw7; (try simp only [List.cons_append, List.nil_append] at Nw7); (try dsimp only); (try k_lift Bw7); (try k_fold))
  k_extra "unf"
  k_dflt (refine Assign_LC_S (by k_asm) (by rfl) (by with_unfolding_all rfl) (by with_unfolding_all rfl) (by decide) (by rfl) (by decide) (by rfl) (by rfl) (by rfl) ?_)
  k_extra "unf"
  (rename Fr _ _ _ _ => lF); (rename News _ _ _ _ => lN); (rename IsRange _ _ _ _ _ _ _ _ => lR)
  refine ⟨_, _, _, _, _, _, _, xs.length, _, rfl, rfl, lF, lN, lR, small_dn (by omega), size_dn _, (by unfold sizeLine; omega), ?_⟩
  rintro s₂ ⟨g9, rfl⟩
  refine comp_indT (J := fun i zs news => news = (_, _) :: (_, _) :: rest ∧ StrsAre zs (tellA xs ys i)) ?_ ?_ _ 0 [] _ (Nat.zero_add _) ⟨rfl, .nil⟩
  · intro i zs news v I oI C oC D m₂ h tk E' hi hJ hP hC hx F N o ne
    obtain ⟨rfl, hz⟩ := hJ
    obtain ⟨t, rfl⟩ := hP
    have ek9 : ((xs.length : Int) - 1 + (i : Int) * -1).toNat = xs.length - 1 - i := by omega
    have eq9 : cutS xs (some ((xs.length : Int) - 1 + (i : Int) * -1)) none = xs.drop (xs.length - 1 - i) := by rw [cut_from (by omega) (by omega), ek9]
    (try dsimp only)
    (try k_fold)
    k_extra "unf"
    · (rename ((_ : Int) < _) => c5); (rename Fr _ _ _ _ => e1); (rename News _ _ _ _ => e2)
      rw [eq9, ek9] at c5
      refine CompEnd.intro e1 e2 ((_, _) :: (_, _) :: rest) (fun q hq => .tail _ hq) o trivial ⟨rfl, ?_⟩
      rw [tellA, if_pos (Int.ofNat_lt.mp c5), ek9]
      exact strsAre_append hz (.cons _ _ .nil)
    · (rename (¬ ((_ : Int) < _)) => c5); (rename Fr _ _ _ _ => e1); (rename News _ _ _ _ => e2)
      rw [eq9, ek9] at c5
      refine CompEnd.intro e1 e2 ((_, _) :: (_, _) :: rest) (fun q hq => .tail _ hq) o trivial ⟨rfl, ?_⟩
      rw [tellA, if_neg (fun h9 => c5 (Int.ofNat_lt.mpr h9)), List.append_nil]
      exact hz
  · rintro zs news ⟨rfl, hz⟩
    clear lF lN
    k_extra "unf"
    k_dflt (refine LCt.ListComp_T (F₀ := by k_asm) (by with_unfolding_all rfl) (by decide) (by rfl) (by decide) (by rfl) ?_)
    k_extra "unf"
    (rename Fr _ _ _ _ => lF); (rename News _ _ _ _ => lN); (rename IsRange _ _ _ _ _ _ _ _ => lR)
    refine CompSrcT.range rfl lF lN lR (small_one (by decide) (by decide) (by omega) (by omega)) (size_up ys.length) (by unfold sizeLine; omega) ?_
    intro g9
    refine comp_indT (J := fun i zs2 news => news = (_, _) :: (_, _) :: (_, _) :: rest ∧ StrsAre zs2 (tellB xs ys i)) ?_ ?_ _ 0 [] _ (Nat.zero_add _) ⟨rfl, .nil⟩
    · intro i zs2 news v I oI C oC D m₂ h tk E' hi hJ hP hC hx F N o ne
      obtain ⟨rfl, hz2⟩ := hJ
      obtain ⟨t, rfl⟩ := hP
      have ek9 : ((0 : Int) + (i : Int)).toNat = i := by omega
      have eq9 : cutS ys none (some ((0 : Int) + (i : Int) + 1)) = ys.take (i + 1) := by rw [cut_upto (by omega) (by omega)]; congr 1; omega
      (try dsimp only)
      (try k_fold)
      k_extra "unf"
      · (rename ((_ : Int) < _) => c5); (rename Fr _ _ _ _ => e1); (rename News _ _ _ _ => e2)
        rw [eq9, ek9] at c5
        refine CompEnd.intro e1 e2 ((_, _) :: (_, _) :: (_, _) :: rest) (fun q hq => .tail _ hq) o trivial ⟨rfl, ?_⟩
        rw [tellB, if_pos (Int.ofNat_lt.mp c5), ek9]
        exact strsAre_append hz2 (.cons _ _ .nil)
      · (rename (¬ ((_ : Int) < _)) => c5); (rename Fr _ _ _ _ => e1); (rename News _ _ _ _ => e2)
        rw [eq9, ek9] at c5
        refine CompEnd.intro e1 e2 ((_, _) :: (_, _) :: (_, _) :: rest) (fun q hq => .tail _ hq) o trivial ⟨rfl, ?_⟩
        rw [tellB, if_neg (fun h9 => c5 (Int.ofNat_lt.mpr h9)), List.append_nil]
        exact hz2
    · rintro zs2 news ⟨rfl, hz2⟩
      clear lF lN
      k_extra "unf"
      (rename Fr _ L _ _ => e1); (rename News _ L _ _ => e2)
      exact hret _ _ _ _ ⟨_, _, _, _, _, _, _, rfl, rfl, hz, hz2⟩ e1 (news_tum e2)
end
section
/-- the list without the first (c x) of each x -/
noncomputable def rmC (c : Str → Nat) : List Str → List Str
  | [] => []
  | y :: ys => if c y = 0 then y :: rmC c ys else rmC (fun t => if t = y then c t - 1 else c t) ys
noncomputable abbrev cnt (t : Str) (l : List Str) : Nat := l.countP (· == t)
theorem cnt_cons (t y : Str) (l : List Str) : cnt t (y :: l) = cnt t l + if t = y then 1 else 0 := by
  unfold cnt
  rw [List.countP_cons]
  congr 1
  by_cases e : t = y
  · subst e; simp
  · have e' : ¬ y = t := fun q => e q.symm
    simp [e, e']
theorem rm_mem : ∀ {ys : List Str} {c : Str → Nat} {x : Str}, x ∈ rmC c ys ↔ c x < cnt x ys
  | [], c, x => by simp [rmC]
  | y :: ys, c, x => by
    unfold rmC
    rw [cnt_cons]
    split
    · next h =>
      rw [List.mem_cons, rm_mem]
      by_cases e : x = y
      · subst e; simp [h]
      · simp [e]
    · next h =>
      rw [rm_mem]
      by_cases e : x = y
      · subst e; simp only [if_true]; omega
      · simp [e]
noncomputable def inc (c : Str → Nat) (x : Str) : Str → Nat := fun t => if t = x then c t + 1 else c t
theorem rm_congr {c d : Str → Nat} (ys : List Str) (h : ∀ t, c t = d t) : rmC c ys = rmC d ys := by
  rw [show c = d from funext h]
theorem rm_del : ∀ {ys : List Str} {c : Str → Nat} {x : Str}, c x < cnt x ys → delS x (rmC c ys) = rmC (inc c x) ys
  | [], c, x, h => by simp at h
  | y :: ys, c, x, h => by
    rw [cnt_cons] at h
    by_cases e : x = y
    · subst e
      rw [if_pos rfl] at h
      by_cases h0 : c x = 0
      · rw [rmC, if_pos h0, delS, if_pos (by simp), rmC, if_neg (by simp [inc])]
        refine rm_congr ys fun t => ?_
        by_cases e : t = x
        · subst e; simp [inc]
        · simp [inc, e]
      · rw [rmC, if_neg h0, rm_del (by simp only [if_true]; omega), rmC, if_neg (by simp [inc])]
        refine rm_congr ys fun t => ?_
        by_cases e : t = x
        · subst e; simp only [inc, if_true]; omega
        · simp [inc, e]
    · rw [if_neg e, Nat.add_zero] at h
      by_cases h0 : c y = 0
      · rw [rmC, if_pos h0, delS, if_neg (by simp [Ne.symm e]), rm_del h, rmC, if_pos (by simp only [inc]; rw [if_neg (Ne.symm e)]; exact h0)]
      · rw [rmC, if_neg h0, rm_del (by rw [if_neg e]; exact h), rmC, if_neg (by simp only [inc]; rw [if_neg (Ne.symm e)]; exact h0)]
        refine rm_congr ys fun t => ?_
        simp only [inc]
        by_cases e1 : t = x
        · subst e1; simp [e]
        · simp [e1]
theorem rm_over : ∀ {ys : List Str} {c : Str → Nat} {x : Str}, cnt x ys ≤ c x → rmC c ys = rmC (inc c x) ys
  | [], c, x, h => rfl
  | y :: ys, c, x, h => by
    rw [cnt_cons] at h
    by_cases e : x = y
    · subst e
      rw [if_pos rfl] at h
      rw [rmC, if_neg (by omega), rmC, if_neg (by simp [inc]), rm_over (x := x) (by simp only [if_true]; omega)]
      refine rm_congr ys fun t => ?_
      by_cases e : t = x
      · subst e; simp only [inc, if_true]; omega
      · simp [inc, e]
    · rw [if_neg e, Nat.add_zero] at h
      by_cases h0 : c y = 0
      · rw [rmC, if_pos h0, rm_over h, rmC, if_pos (by simp only [inc]; rw [if_neg (Ne.symm e)]; exact h0)]
      · rw [rmC, if_neg h0, rm_over (x := x) (by rw [if_neg e]; exact h), rmC, if_neg (by simp only [inc]; rw [if_neg (Ne.symm e)]; exact h0)]
        refine rm_congr ys fun t => ?_
        simp only [inc]
        by_cases e1 : t = x
        · subst e1; simp [e]
        · simp [e1]
theorem rm_zero : ∀ ys, rmC (fun _ => 0) ys = ys
  | [] => rfl
  | y :: ys => by
    rw [rmC, if_pos rfl, rm_zero ys]
noncomputable def tA (ys : List Str) : List Str → List Str → List Str
  | [], _ => []
  | x :: r, p => (if cnt x ys < cnt x (x :: p) then [x] else []) ++ tA ys r (x :: p)
theorem cnt_inc (x : Str) (p : List Str) (t : Str) : inc (fun t => cnt t p) x t = cnt t (x :: p) := by
  rw [cnt_cons]
  unfold inc
  by_cases e : t = x
  · rw [if_pos e, if_pos e]
  · rw [if_neg e, if_neg e]; rfl
theorem uldG_eq (ys : List Str) : ∀ (r p ms : List Str), uldG r (rmC (fun t => cnt t p) ys) ms = (ms ++ tA ys r p, rmC (fun t => cnt t (r.reverse ++ p)) ys)
  | [], p, ms => by simp [uldG, tA]
  | x :: r, p, ms => by
    have ih := uldG_eq ys r (x :: p)
    have ec : (rmC (inc (fun t => cnt t p) x) ys) = rmC (fun t => cnt t (x :: p)) ys := rm_congr ys (cnt_inc x p)
    have el : (x :: r).reverse ++ p = r.reverse ++ (x :: p) := by simp
    rw [el]
    unfold uldG tA
    have hc : cnt x (x :: p) = cnt x p + 1 := by rw [cnt_cons, if_pos rfl]
    by_cases h : cnt x p < cnt x ys
    · rw [if_pos (any_mem.mpr (rm_mem.mpr h)), rm_del h, ec, ih, if_neg (by omega), List.nil_append]
    · rw [if_neg (fun q => h (rm_mem.mp (any_mem.mp q))), rm_over (Nat.le_of_not_lt h), ec, ih, if_pos (by omega), List.append_assoc]
theorem tellA_eq (xs ys : List Str) : tellA xs ys xs.length = tA ys xs.reverse [] := by
  suffices h : ∀ i, i ≤ xs.length → tellA xs ys i ++ tA ys (xs.take (xs.length - i)).reverse (xs.drop (xs.length - i)) = tA ys xs.reverse [] by
    have := h xs.length (Nat.le_refl _)
    rw [Nat.sub_self, List.take_zero, List.reverse_nil, tA, List.append_nil] at this
    exact this
  intro i
  induction i with
  | zero => intro _; rw [Nat.sub_zero, List.take_length, List.drop_length]; rfl
  | succ i ih =>
    intro h
    rw [← ih (by omega)]
    have e1 : xs.length - i = xs.length - 1 - i + 1 := by omega
    have e2 : xs.length - (i + 1) = xs.length - 1 - i := by omega
    have hk : xs.length - 1 - i < xs.length := by omega
    rw [e1, e2]
    generalize xs.length - 1 - i = k at *
    have ex : xs.getD k Str.empty = xs[k] := by simp [List.getD_eq_getElem?_getD, hk]
    rw [List.take_succ_eq_append_getElem hk, List.reverse_append]
    show tellA xs ys (i + 1) ++ _ = tellA xs ys i ++ tA ys (xs[k] :: (xs.take k).reverse) (xs.drop (k + 1))
    rw [tA, tellA, List.append_assoc]
    have e3 : xs.length - 1 - i = k := by omega
    rw [e3, ex, List.drop_eq_getElem_cons hk]
theorem rm_snoc (y : Str) : ∀ (l : List Str) (c : Str → Nat), rmC c (l ++ [y]) = rmC c l ++ if c y < cnt y (l ++ [y]) then [y] else []
  | [], c => by
    rw [List.nil_append, cnt_cons, if_pos rfl]
    by_cases h : c y = 0
    · show (if c y = 0 then [y] else []) = [] ++ _
      rw [if_pos h, if_pos (by omega)]; rfl
    · show (if c y = 0 then [y] else []) = [] ++ _
      rw [if_neg h, if_neg (by simp only [cnt, List.countP_nil]; omega)]; rfl
  | z :: l, c => by
    rw [List.cons_append, cnt_cons]
    by_cases h : c z = 0
    · rw [rmC, if_pos h, rmC, if_pos h, rm_snoc y l c]
      by_cases e : y = z
      · subst e
        rw [if_pos rfl]
        have h1 : 0 < cnt y (l ++ [y]) := by
          unfold cnt
          rw [List.countP_append, List.countP_cons]; simp
        rw [if_pos (by omega), if_pos (by omega)]
        rfl
      · rw [if_neg e, Nat.add_zero]; rfl
    · rw [rmC, if_neg h, rmC, if_neg h, rm_snoc y l]
      congr 1
      by_cases e : y = z
      · subst e
        simp only [if_true]
        congr 1
        rw [eq_iff_iff]
        omega
      · simp only [if_neg e, Nat.add_zero]
theorem tellB_eq (xs ys : List Str) : tellB xs ys ys.length = rmC (fun t => cnt t xs) ys := by
  suffices h : ∀ i, i ≤ ys.length → tellB xs ys i = rmC (fun t => cnt t xs) (ys.take i) by
    have := h ys.length (Nat.le_refl _)
    rwa [List.take_length] at this
  intro i
  induction i with
  | zero => intro _; rfl
  | succ i ih =>
    intro h
    have hk : i < ys.length := by omega
    have ex : ys.getD i Str.empty = ys[i] := by simp [List.getD_eq_getElem?_getD, hk]
    rw [tellB, ih (by omega), ex, List.take_succ_eq_append_getElem hk, rm_snoc]
/-- what unorderable_list_difference makes of two lists is what _law_more tells -/
theorem uld_more (xs ys : List Str) : uldG xs.reverse ys [] = (tellA xs ys xs.length, tellB xs ys ys.length) := by
  have h := uldG_eq ys xs.reverse [] []
  rw [show (fun t => cnt t []) = (fun _ => 0) from rfl, rm_zero, List.nil_append, List.reverse_reverse, List.append_nil] at h
  rw [h, tellA_eq, tellB_eq]
end
section
theorem wl_25 : True := by
  k_with "unf" => (repeat' (first | (k_unfold; (try dsimp only)) | ((first | (with_reducible show wpAny _ _ (execs _ _) _ _ _) | (with_reducible show wpAny _ _ (call _ _) _ _ _) | (with_reducible show wpAny _ _ (isTrue _ _ _) _ _ _) | (with_reducible show wpAny _ _ (truthy _) _ _ _)); k_fold) | ((fail_if_success first | (with_reducible show KswEnd _ _ _ _ _ _ _ _ _ _ _ _) | (with_reducible show FlEnd _ _ _ _ _ _ _ _ _ _ _ _) | (with_reducible show F1End _ _ _ _ _ _ _ _ _ _ _) | (with_reducible show wpAny _ _ (exec (Stmt.While _ _ _ _) _) _ _ _) | (with_reducible show wpAny _ _ (exec (Stmt.For _ _ _ _ _) _) _ _ _) | (with_reducible show wpAny _ _ (pyIter _) (fun it s₂ => LoopAtV _ _ _ _ _ _ _ _ _ it s₂) _ _) | (with_reducible show wpAny _ _ (eval (PySem.Expr.ListComp _ _ _ _) _) _ _ _) | (with_reducible show wpAny _ _ (exec (Stmt.Assign _ (PySem.Expr.ListComp _ _ _ _) _) _) _ _ _) | (with_reducible show SrcRS _ _ _ _ _ _ _ _ _ _ _ _ _ _ _) | (with_reducible show LCg.CompSrc _ _ _ _ _ _ _ _ _ _ _ _ _ _) | (with_reducible show LCt.CompSrcT _ _ _ _ _ _ _ _ _ _ _ _ _ _ _) | (with_reducible show LCg.CompEnd _ _ _ _ _ _ _ _ _ _ _ _ _ _)); first | (dsimp only; first | ((with_reducible show _ ∧ _); with_reducible (k_extra "own And")) | ((with_reducible show wpAny _ _ (binaryOp Operator.Add (Value.bytes _ _) (Value.bytes _ _)) _ _ _); with_reducible (k_extra "own binaryOp Add bytes bytes")) | ((with_reducible show wpAny _ _ (binaryOp Operator.Add (Value.ref _) (Value.ref _)) _ _ _); with_reducible (k_extra "own binaryOp Add ref ref")) | ((with_reducible show wpAny _ _ (binaryOp Operator.Mod (Value.str _ _) (Value.ref _)) _ _ _); with_reducible (k_extra "own binaryOp Mod str ref")) | ((with_reducible show wpAny _ _ (binaryOp Operator.RShift _ _) _ _ _); with_reducible (k_extra "own binaryOp RShift int int")) | ((with_reducible show wpAny _ _ (eval (PySem.Expr.Name _ _) _) _ _ _); with_reducible (k_extra "own eval Name")) | ((with_reducible show wpAny _ _ (exec (Stmt.Raise _ _ _) _) _ _ _); with_reducible (k_extra "own exec Raise some none")) | ((with_reducible show wpAny _ _ (getMethod (Value.bytes _ _) _ _) _ _ _); with_reducible (k_extra "own getMethod bytes")) | ((with_reducible show wpAny _ _ (getMethod (Value.ref _) _ _) _ _ _); with_reducible (k_extra "own getMethod ref")) | ((with_reducible show wpAny _ _ (getMethod (Value.str _ _) _ _) _ _ _); with_reducible (k_extra "own getMethod str")) | ((with_reducible show wpAny _ _ (leaving _ _) _ _ _); k_extra "own leaving ref") | ((with_reducible show wpAny _ _ (subscriptTail _ (PySem.Expr.Slice _ _ _ _) (Value.ref _) _) _ _ _); with_reducible (k_extra "own subscriptTail Name Slice ref ref")) | ((with_reducible show wpAny _ _ (truthy (Value.ref _)) _ _ _); with_reducible (k_extra "own truthy ref")) | walk1) | ((with_reducible show _ ∧ _); with_reducible (k_extra "own And")) | ((with_reducible show wpAny _ _ (binaryOp Operator.Add (Value.bytes _ _) (Value.bytes _ _)) _ _ _); with_reducible (k_extra "own binaryOp Add bytes bytes")) | ((with_reducible show wpAny _ _ (binaryOp Operator.Add (Value.ref _) (Value.ref _)) _ _ _); with_reducible (k_extra "own binaryOp Add ref ref")) | ((with_reducible show wpAny _ _ (binaryOp Operator.Mod (Value.str _ _) (Value.ref _)) _ _ _); with_reducible (k_extra "own binaryOp Mod str ref")) | ((with_reducible show wpAny _ _ (binaryOp Operator.RShift _ _) _ _ _); with_reducible (k_extra "own binaryOp RShift int int")) | ((with_reducible show wpAny _ _ (eval (PySem.Expr.Name _ _) _) _ _ _); with_reducible (k_extra "own eval Name")) | ((with_reducible show wpAny _ _ (exec (Stmt.Raise _ _ _) _) _ _ _); with_reducible (k_extra "own exec Raise some none")) | ((with_reducible show wpAny _ _ (getMethod (Value.bytes _ _) _ _) _ _ _); with_reducible (k_extra "own getMethod bytes")) | ((with_reducible show wpAny _ _ (getMethod (Value.ref _) _ _) _ _ _); with_reducible (k_extra "own getMethod ref")) | ((with_reducible show wpAny _ _ (getMethod (Value.str _ _) _ _) _ _ _); with_reducible (k_extra "own getMethod str")) | ((with_reducible show wpAny _ _ (leaving _ _) _ _ _); k_extra "own leaving ref") | ((with_reducible show wpAny _ _ (subscriptTail _ (PySem.Expr.Slice _ _ _ _) (Value.ref _) _) _ _ _); with_reducible (k_extra "own subscriptTail Name Slice ref ref")) | ((with_reducible show wpAny _ _ (truthy (Value.ref _)) _ _ _); with_reducible (k_extra "own truthy ref")) | walk1 | (leave1; walk_say "STEP leave1"; try dsimp only) | fail "no step")))
  trivial
theorem val_or {NL : Addr} {v : Value} {o : Option Str} (h : Val NL v o) : (∃ x t, o = some x ∧ v = .str x t) ∨ (o = none ∧ v = .ref NL) := by
  cases o with
  | none => exact .inr ⟨rfl, h⟩
  | some x => obtain ⟨t, e⟩ := h; exact .inl ⟨x, t, rfl, e⟩
theorem is_strref {prog : Program} {w : World} {A : Around} {E : Value → Shared → Prop} {s : Shared} {x : Str} {t : Tok} {b : Addr} {Q : Value → Shared → Prop} (h : Q (.bool false) s) : wpAny (model prog w) A (compareOp .Is (.str x t) (.ref b)) Q E s := by
  show wpAny _ _ (isSame (.str x t) (.ref b) >>= fun r => pure (Value.bool r)) _ _ _
  exact wpAny_bind (wpAny_of_eq (rfl : isSame (.str x t) (.ref b) = pure false) (wpAny_pure h))
theorem size_from {a b : Nat} (h : a ≤ b) : Builtin.Range.rangeSize (a : Int) (b : Int) 1 = ((b - a : Nat) : Int) := by
  unfold Builtin.Range.rangeSize
  rw [if_pos (by decide), Int.ediv_one]
  split <;> omega
theorem news_5 {h₀ h : Heap} {L : Addr} {r n j2 j1 t s : Addr × Obj} {l : List (Addr × Obj)} (N : News h₀ L h (r :: n :: j2 :: j1 :: t :: s :: l)) : News h₀ L h (s :: t :: r :: n :: l) := fun q hq => N q (by
  revert q; repeat' (first | with_reducible refine List.forall_mem_cons.mpr ⟨?_, ?_⟩ | (intro _ hS9; (repeat (first | with_reducible exact hS9 | with_reducible refine List.mem_cons_of_mem _ ?_)); done) | with_reducible refine List.forall_mem_append.mpr ⟨?_, ?_⟩ | ((repeat (first | with_reducible exact List.mem_cons_self | with_reducible refine List.mem_cons_of_mem _ ?_)); done) | with_reducible exact fun _ h => absurd h List.not_mem_nil))
theorem news_r4 {h₀ h : Heap} {L : Addr} {s t r n : Addr × Obj} {l : List (Addr × Obj)} (N : News h₀ L h (s :: t :: r :: n :: l)) : News h₀ L h (r :: l) := fun q hq => N q (by
  revert q; repeat' (first | with_reducible refine List.forall_mem_cons.mpr ⟨?_, ?_⟩ | (intro _ hS9; (repeat (first | with_reducible exact hS9 | with_reducible refine List.mem_cons_of_mem _ ?_)); done) | with_reducible refine List.forall_mem_append.mpr ⟨?_, ?_⟩ | ((repeat (first | with_reducible exact List.mem_cons_self | with_reducible refine List.mem_cons_of_mem _ ?_)); done) | with_reducible exact fun _ h => absurd h List.not_mem_nil))
/-- the objects that _Mismatch makes, and what they tell -/
noncomputable def MisIn (own : List (Addr × Obj)) (v : Value) (r : Int × Int × Str) : Prop := ∃ D dx t1 t2 t3, v = .ref D ∧ (D, ({ cls := .ref 205, dict := some dx, data := .seq #[.int r.1 t1, .int r.2.1 t2, .str r.2.2 t3] } : Obj)) ∈ own
theorem misIn_head {own : List (Addr × Obj)} {D dx : Addr} {a b a' b' : Int} {x : Str} {t1 t2 t3 : Tok} (ha : a = a') (hb : b = b') : MisIn ((D, ({ cls := .ref 205, dict := some dx, data := .seq #[.int a t1, .int b t2, .str x t3] } : Obj)) :: own) (.ref D) (a', b', x) := by
  subst ha hb
  exact ⟨D, dx, t1, t2, t3, rfl, .head _⟩
inductive Mis (own : List (Addr × Obj)) : List Value → List (Int × Int × Str) → Prop
  | nil : Mis own [] []
  | cons {v vs r rs} : MisIn own v r → Mis own vs rs → Mis own (v :: vs) (r :: rs)
theorem Mis.mono {own own' : List (Addr × Obj)} (k : ∀ q ∈ own, q ∈ own') {vs rs} (h : Mis own vs rs) : Mis own' vs rs := by
  induction h with
  | nil => exact .nil
  | cons a r ih =>
    obtain ⟨D, dx, t1, t2, t3, e, hm⟩ := a
    exact .cons ⟨D, dx, t1, t2, t3, e, k _ hm⟩ ih
theorem Mis.snoc {own : List (Addr × Obj)} {vs rs v r} (a : Mis own vs rs) (h : MisIn own v r) : Mis own (vs ++ [v]) (rs ++ [r]) := by
  induction a with
  | nil => exact .cons h .nil
  | cons a r ih => exact .cons a ih
theorem wl_26 : True := by
  k_with "subscriptTail Name Name ref int" => ((k_here; (try dsimp only); (with_reducible show wpAny _ _ (subscriptTail _ _ (Value.ref _) (Value.int _ _)) _ _ _); (with_reducible rename AtS _ _ _ _ => aS9w8); k_dflt (refine' at_sub ?Nq80 ?mq80 ?iq80 ?h0q80 ?h1q80 ?hfq80 ?_ ?sq80; (case Nq80 => k_asm); (case mq80 => k_mem); (case iq80 => with_reducible assumption); (case h0q80 => omega); (case h1q80 => omega); (case hfq80 => omega); (case sq80 => with_unfolding_all rfl); k_whole); intro _ hv9w8; (rcases val_or hv9w8 with ⟨_, _, e9w8, e8w8⟩ | ⟨e9w8, e8w8⟩ <;> subst e8w8)))
  k_with "setItem ref int ref" => ((k_here; (try dsimp only); (with_reducible show wpAny _ _ (setItem (Value.ref _) (Value.int _ _) (Value.ref _)) _ _ _); k_dflt (refine' at_set ?Fq81 ?Nq81 ?Uq81 ?iq81 ?h0q81 ?h1q81 ?hfq81 ?_; (case Fq81 => k_asm); (case Nq81 => k_asm); (case Uq81 => k_upd); (case iq81 => with_reducible assumption); (case h0q81 => omega); (case h1q81 => omega); (case hfq81 => omega)); intro _ _ _ _; (try k_sweep)))
  k_with "compareOp Eq ref str" => ((k_here; (with_reducible show wpAny _ _ (compareOp CmpOp.Eq (Value.ref _) (Value.str _ _)) _ _ _); k_dflt (refine' cmp_ofEq (rc_obj_str (News.get ?Nq82 ?mq82) ?uq82 ?_); (case Nq82 => k_asm); (case mq82 => k_mem); (case uq82 => ke_room); k_whole)))
  k_with "EnPost cons cont" => ((dsimp only [EnPost]))
  k_with "EnPost cons next" => ((dsimp only [EnPost]))
  k_with "RnPost cons next" => ((dsimp only [RnPost]))
  k_with "compareOp Is str ref" => ((k_here; (with_reducible show wpAny _ _ (compareOp CmpOp.Is (Value.str _ _) (Value.ref _)) _ _ _); refine is_strref ?_))
  k_with "call ref cons nil" => ((k_here; (with_reducible show wpAny _ _ (call (Value.ref 205) _) _ _ _); (refine' call_use (mis_ok _ _ _ _ _ _ _ _) ?Bq87 ?Fq87 ?Xq87 ?Nq87 ?Tq87 ?hkkq87 ?hdq87 ?huq87 ?_; (case Bq87 => k_asm); (case Fq87 => k_asm); (case Xq87 => k_asm); (case Nq87 => k_asm); (case Tq87 => k_asm); (case hkkq87 => first | exact rfl | assumption); (case hdq87 => ktr_room); (case huq87 => ktr_units)); (rintro _ _ _ _ ⟨_, _, e8w8, e9w8, _⟩ _ _; subst e8w8; subst e9w8); (try dsimp only); (try k_sweep); (try k_fold)))
  trivial
theorem cdap_ok (w : World) (la lb : Addr) (vs us : List Value) (xs ys : List Str) (n k : Nat) (rest : List (Addr × Obj)) (h1 : StrsAre vs xs) (h2 : StrsAre us ys) (hx : xs.length ≤ 100) (hy : ys.length ≤ 100) (m1 : (la, listOf vs.toArray n) ∈ rest) (m2 : (lb, listOf us.toArray k) ∈ rest) :
    CallOk w 215 [.ref la, .ref lb] rest 16 700 (fun r led => ∃ D rv k own, r = .ref D ∧ Mis own rv (rowsC xs ys (xs ++ ys)) ∧ led = (D, listOf (List.toArray rv) k) :: (own ++ rest)) := by
  unfold CallOk
  k_fill
  intro loose mean mg mb p dp un gd cn cs a ccd cl outer A₀ base h₀ L m sh sg sd st so Q E B F X N T hk hd1 hu hret
  refine wpAny_call ?_
  k_dflt (refine' code_defL (bs := [(Str.ofString "expected", .ref lb), (Str.ofString "actual", .ref la)]) ?k1 ?k2 ?k3 ?k4 ?k5 ?kA ?kF ?kK ?k6 ?k7 ?k8 ?k9 ?kB ?kL ?_ ?c2 ?c3 ?c4 ?c5; (case kA => exact rfl); (case kF => exact rfl); (case kK => assumption); (case k1 => k_asm); (case k2 => k_asm); (case k3 => k_asm); (case k4 => k_asm); (case k5 => k_asm); (case k6 => k_is); (case k7 => k_is); (case k8 => ktr_room); (case k9 => exact BindsTo.of_eq rfl); (case c5 => decide); (case kB => exact locs rfl); (case kL => exact rfl); (case c2 => exact rfl); (case c3 => exact rfl); (case c4 => exact rfl); k_whole; intro _ _ _ _ _ _ _ BE _ _; (try dsimp only); (try k_lift BE); (try k_fold))
  k_extra "unf"
  refine For_enS ?_
  k_extra "unf"
  (repeat (first | (rename (Value → Shared → Prop) => qz; clear qz) | (rename (Flow → Shared → Prop) => qz; clear qz) | (rename (Bool → Shared → Prop) => qz; clear qz)))
  have l1w8 : True := trivial
  first | (rename_i S cS q13 a5 _ _ T9 cT q12 a4 J1 q11 a3 q10 q9 q8 k1 _ _ _ _ J2 q7 a2 q6 q5 q4 k0 _ _ NL q3 a1 q2 _ R9 q1 a0 q0 F0 N0; have ck9 : ∀ q ∈ rest, q.1 < S := a5; clear ck9) | (rename_i S cS q13 a5 _ _ T9 cT q12 a4 J1 q11 a3 q10 q9 q8 k1 _ _ _ _ J2 q7 a2 q6 q5 q4 k0 _ _ NL q3 a1 q2 R9 q1 a0 q0 F0 N0; have ck9 : ∀ q ∈ rest, q.1 < S := a5; clear ck9)
  replace N0 := news_5 N0
  obtain ⟨s1, s2⟩ := a4
  obtain ⟨-, -, n1, n2, n3⟩ := a1
  obtain ⟨r1, -, -, r2, r3, r4⟩ := a0
  have oS : ∀ q ∈ rest, q.1 ≠ S := allNe a5 (Nat.le_refl _)
  have oT : ∀ q ∈ rest, q.1 ≠ T9 := fun q hq => Nat.ne_of_lt (ktn_ltOf s2 q hq)
  have oN : ∀ q ∈ rest, q.1 ≠ NL := fun q hq => Nat.ne_of_lt (ktn_ltOf n3 q hq)
  have oR : ∀ q ∈ rest, q.1 ≠ R9 := fun q hq => Nat.ne_of_lt (ktn_ltOf r4 q hq)
  have b1 : @LT.lt Nat _ S T9 := s1
  have b2 : @LT.lt Nat _ T9 NL := n1
  have b3 : @LT.lt Nat _ S NL := n2
  have b4 : @LT.lt Nat _ NL R9 := r1
  have b5 : @LT.lt Nat _ T9 R9 := r2
  have b6 : @LT.lt Nat _ S R9 := r3
  clear a5 s1 s2 a3 a2 n1 n2 n3 r1 r2 r3 r4
  refine for_enum (l := S) (n := xs.length) (σ := (List Value × Nat) × (List Value × Nat) × (List Value × Nat) × List (Addr × Obj)) (fun c => (S, listOf c.1.1.toArray c.1.2) :: (T9, listOf c.2.1.1.toArray c.2.1.2) :: (R9, listOf c.2.2.1.1.toArray c.2.2.1.2) :: (NL, ({ cls := .type "object", data := .plain } : Obj)) :: (c.2.2.2 ++ rest))
    (fun c => []) [Str.ofString "i", Str.ofString "elem", Str.ofString "cnt_s", Str.ofString "cnt_t", Str.ofString "j", Str.ofString "other_elem", Str.ofString "diff"]
    (fun i c => AtS NL c.1.1 (maskF xs (xs.take i)) xs.length ∧ AtS NL c.2.1.1 (maskF ys (xs.take i)) ys.length ∧ Mis c.2.2.2 c.2.2.1.1 (rowsC xs ys (xs.take i)) ∧ c.2.2.1.1.length ≤ i ∧ (∀ q ∈ c.2.2.2, q.1 ≠ S ∧ q.1 ≠ T9 ∧ q.1 ≠ R9 ∧ q.1 ≠ NL))
    (fun c => c.1.1) (fun c => c.1.2) ((_, _), (_, _), (_, _), []) rfl (by rfl) (by rfl) (by rfl) (fun _ => .head _) (fun i c h9 => h9.1.1) F0 N0 (fun _ h9 => nomatch h9) ?hp ?_ ?_
  case hp =>
    refine ⟨atS_congr (atS_of h1) fun p _ => ?_, atS_congr (atS_of h2) fun p _ => ?_, .nil, Nat.le_refl _, (fun _ h9 => nomatch h9)⟩
    · rw [List.take_zero, maskF, if_neg (fun h9 => nomatch h9)]
    · rw [List.take_zero, maskF, if_neg (fun h9 => nomatch h9)]
  · refine all_ooxxeoxxeoxxexe ?_
    intro sv sk tv tk1 rv rk own i v t u h tk e it oe oi hv hi pk2 F1 N1 off
    (try dsimp only); (try k_fold); show (let G9 : Prop := _; G9); intro G9
    obtain ⟨p1, p2, p3, p4, p5⟩ := pk2
    k_unfold; clear G9
    clear F0 N0
    dsimp only at hv p1 p2 p3 p4 p5 F1 N1 off
    have oeS : @Ne Nat e S := fun q => (off _ (.head _)).1 q.symm
    have oiS : @Ne Nat it S := fun q => (off _ (.head _)).2 q.symm
    have oeT : @Ne Nat e T9 := fun q => (off _ (.tail _ (.head _))).1 q.symm
    have oiT : @Ne Nat it T9 := fun q => (off _ (.tail _ (.head _))).2 q.symm
    have oeR : @Ne Nat e R9 := fun q => (off _ (.tail _ (.tail _ (.head _)))).1 q.symm
    have oiR : @Ne Nat it R9 := fun q => (off _ (.tail _ (.tail _ (.head _)))).2 q.symm
    have oAS : ∀ q ∈ own ++ rest, q.1 ≠ S := fun q hq => (List.mem_append.mp hq).elim (fun h9 => (p5 q h9).1) (oS q)
    have oAT : ∀ q ∈ own ++ rest, q.1 ≠ T9 := fun q hq => (List.mem_append.mp hq).elim (fun h9 => (p5 q h9).2.1) (oT q)
    have oAR : ∀ q ∈ own ++ rest, q.1 ≠ R9 := fun q hq => (List.mem_append.mp hq).elim (fun h9 => (p5 q h9).2.2.1) (oR q)
    rcases val_or (p1.2 i v hv) with ⟨x, tx, hx9, rfl⟩ | ⟨hx9, rfl⟩
    · (try k_fold)
      k_extra "unf"
      refine For_enS ?_
      k_extra "unf"
      obtain ⟨hxv, hxn⟩ := maskF_some hx9
      (rename Fr _ _ _ _ => lF); (rename News _ _ _ ((e, _) :: (it, _) :: _) => lN); (rename IsRange _ _ _ _ _ _ _ _ => lR)
      refine' for_rng (n := xs.length - i) (σ := List Value × Nat × Tok) (fun c => (e, oe) :: (it, oi) :: (S, listOf c.1.toArray sk) :: (T9, listOf tv.toArray tk1) :: (R9, listOf rv.toArray rk) :: (NL, ({ cls := .type "object", data := .plain } : Obj)) :: (own ++ rest)) (fun c => [(Str.ofString "cnt_s", .int (c.2.1 : Int) c.2.2)]) [Str.ofString "j"]
        (fun j c => AtS NL c.1 (maskJ xs (xs.take i) x (i + j)) xs.length ∧ c.2.1 = (xs.take (i + j)).countP (· == x)) (sv, 0, _) rfl (by rfl) (by rfl) lR (small_one (by omega) (by omega) (by omega) (by omega)) (size_from (by omega)) lF lN ?kk ?hp ?_ ?_
      case kk => (intro p hp; rcases List.mem_cons.mp hp with rfl | hp; exact rfl; nomatch hp)
      case hp => exact ⟨atS_congr p1 fun p _ => maskJ_start (take_ne (Nat.le_of_lt hi) hxn) p, (cnt_zero hxn).symm⟩
      · refine all_oxxxe ?_
        intro sv' cnt tc j tj u2 h2 tk2 I oI hj pk2 F2 N2 off2
        (try dsimp only); (try k_fold); show (let G9 : Prop := _; G9); intro G9
        obtain ⟨y1, y2⟩ := pk2
        k_unfold; clear G9
        clear lF lN lR F1 N1
        dsimp only at y1 y2 F2 N2 off2
        have ej : ((i : Int) + (j : Int)).toNat = i + j := by omega
        have oIS : @Ne Nat I S := fun q => off2 _ (.tail _ (.tail _ (.head _))) q.symm
        (try k_fold)
        k_extra "unf"
        · (rename (_ == x) = true => c5); (rename maskJ _ _ _ _ _ = some _ => e9); (rename AtS NL (List.set _ _ _) _ _ => y9); (rename Fr _ _ _ _ => e1); (rename News _ _ _ ((I, _) :: _) => e2)
          rw [ej] at e9 y9
          have g9 : xs.getD (i + j) Str.empty = x := (maskJ_some e9).trans (eq_of_beq c5)
          refine rn_end (_, cnt + 1, _) e1 e2 (fun _ h9 => h9) (List.forall_mem_cons.mpr ⟨off2 _ (.head _), List.forall_mem_cons.mpr ⟨off2 _ (.tail _ (.head _)), List.forall_mem_cons.mpr ⟨fun q : S = I => oIS q.symm, fun q hq => off2 q (.tail _ (.tail _ (.tail _ hq)))⟩⟩⟩) (by intro p hp; rcases List.mem_cons.mp hp with rfl | hp; exact rfl; nomatch hp) ?hr1 ⟨?_, ?_⟩
          case hr1 =>
            intro z h3 h4
            have b1 : z ≠ Str.ofString "cnt_s" := h3 _ (.head _)
            have c0 : z ≠ Str.ofString "j" := fun e9 => by subst e9; exact absurd h4 (by decide)
            simp only [kstB, b1, c0, h4, if_false, Bool.false_eq_true, List.contains_nil]
          · exact atS_congr y9 fun p _ => maskJ_hit g9 p
          · show cnt + 1 = _
            rw [y2]
            exact (cnt_hit (by omega) g9).symm
        · (rename (_ == x) = false => c5); (rename maskJ _ _ _ _ _ = some _ => e9); (rename AtS NL sv' _ _ => y1); (rename Fr _ _ _ _ => e1); (rename News _ _ _ ((I, _) :: _) => e2)
          rw [ej] at e9
          have g9 : xs.getD (i + j) Str.empty ≠ x := fun q => by rw [← maskJ_some e9, q, beq_self_eq_true] at c5; cases c5
          refine rn_end (sv', cnt, tc) e1 e2 (fun _ h9 => h9) off2 (by intro p hp; rcases List.mem_cons.mp hp with rfl | hp; exact rfl; nomatch hp) ?hr2 ⟨?_, ?_⟩
          case hr2 =>
            intro z h3 h4
            have b1 : z ≠ Str.ofString "cnt_s" := h3 _ (.head _)
            have c0 : z ≠ Str.ofString "j" := fun e9 => by subst e9; exact absurd h4 (by decide)
            simp only [kstB, b1, c0, h4, if_false, Bool.false_eq_true, List.contains_nil]
          · exact atS_congr y1 fun p _ => maskJ_miss g9 p
          · show cnt = _
            rw [y2]
            exact (cnt_miss (by omega) g9).symm
        · (rename maskJ _ _ _ _ _ = none => e9); (rename AtS NL sv' _ _ => y1); (rename Fr _ _ _ _ => e1); (rename News _ _ _ ((I, _) :: _) => e2)
          rw [ej] at e9
          have g9 : xs.getD (i + j) Str.empty ≠ x := maskJ_none hxn e9
          refine rn_end (sv', cnt, tc) e1 e2 (fun _ h9 => h9) off2 (by intro p hp; rcases List.mem_cons.mp hp with rfl | hp; exact rfl; nomatch hp) ?hr3 ⟨?_, ?_⟩
          case hr3 =>
            intro z h3 h4
            have b1 : z ≠ Str.ofString "cnt_s" := h3 _ (.head _)
            have c0 : z ≠ Str.ofString "j" := fun e9 => by subst e9; exact absurd h4 (by decide)
            simp only [kstB, b1, c0, h4, if_false, Bool.false_eq_true, List.contains_nil]
          · exact atS_congr y1 fun p _ => maskJ_miss g9 p
          · show cnt = _
            rw [y2]
            exact (cnt_miss (by omega) g9).symm
      · refine all_oxxxe ?_
        intro sv' cnt tc u2 h2 tk2 pk2 F2 N2
        (try dsimp only); (try k_fold); show (let G9 : Prop := _; G9); intro G9
        obtain ⟨y1, y2⟩ := pk2
        k_unfold; clear G9
        clear lF lN lR F1 N1
        dsimp only at y1 y2 F2 N2
        rw [show i + (xs.length - i) = xs.length by omega] at y1 y2
        rw [List.take_length] at y2
        have hW : ∀ z, z ∈ xs.take (i + 1) ↔ z ∈ xs.take i ∨ z = x := fun z => by rw [take_snoc hi, hxv, List.mem_append, List.mem_singleton]
        replace y1 := atS_congr y1 fun p hp => maskJ_end hW p hp
        (try k_fold)
        k_extra "unf"
        refine For_enS ?_
        k_extra "unf"
        (rename Fr _ _ _ _ => lF); (rename News _ _ _ ((e, _) :: (it, _) :: _) => lN)
        refine' for_enum (l := T9) (n := ys.length) (σ := List Value × Nat × Tok) (fun c => (e, oe) :: (it, oi) :: (S, listOf sv'.toArray sk) :: (T9, listOf c.1.toArray tk1) :: (R9, listOf rv.toArray rk) :: (NL, ({ cls := .type "object", data := .plain } : Obj)) :: (own ++ rest)) (fun c => [(Str.ofString "cnt_t", .int (c.2.1 : Int) c.2.2)]) [Str.ofString "j", Str.ofString "other_elem"]
          (fun j c => AtS NL c.1 (maskJ ys (xs.take i) x j) ys.length ∧ c.2.1 = (ys.take j).countP (· == x)) (fun c => c.1) (fun _ => tk1) (tv, 0, _) rfl (by rfl) (by rfl) (by rfl) (fun _ => .tail _ (.tail _ (.tail _ (.head _)))) (fun j c h9 => h9.1.1) lF lN ?kk2 ?hp2 ?_ ?_ ?hE2
        case hE2 => passes_own
        case kk2 => (intro p hp; rcases List.mem_cons.mp hp with rfl | hp; exact rfl; nomatch hp)
        case hp2 => exact ⟨atS_congr p2 fun p _ => maskJ_start (fun p h9 => absurd h9 (Nat.not_lt_zero p)) p, by simp⟩
        · refine all_oxxxe ?_
          intro c1 cn2 tc2 j v2 tj u3 h3 tk3 e2 it2 oe2 oi2 hv2 hj pk2 F3 N3 off2
          (try dsimp only); (try k_fold); show (let G9 : Prop := _; G9); intro G9
          obtain ⟨w1, w2⟩ := pk2
          k_unfold; clear G9
          clear lF lN
          dsimp only at hv2 w1 w2 F3 N3 off2
          have oeT2 : @Ne Nat e2 T9 := fun q => (off2 _ (.tail _ (.tail _ (.tail _ (.head _))))).1 q.symm
          have oiT2 : @Ne Nat it2 T9 := fun q => (off2 _ (.tail _ (.tail _ (.tail _ (.head _))))).2 q.symm
          rcases val_or (w1.2 j v2 hv2) with ⟨y, ty, hy9, rfl⟩ | ⟨hy9, rfl⟩
          · have g0 := maskJ_some hy9
            (try k_fold)
            k_extra "unf"
            · (rename (_ == x) = true => c5); (rename AtS NL (List.set _ _ _) _ _ => y9); (rename Fr _ _ _ _ => e1); (rename News _ _ _ ((e2, _) :: _) => f1)
              rw [Int.toNat_natCast] at y9
              have g9 : ys.getD j Str.empty = x := g0.trans (eq_of_beq c5)
              refine en_end (_, cn2 + 1, _) e1 f1 (fun _ h9 => h9) (List.forall_mem_cons.mpr ⟨off2 _ (.head _), List.forall_mem_cons.mpr ⟨off2 _ (.tail _ (.head _)), List.forall_mem_cons.mpr ⟨off2 _ (.tail _ (.tail _ (.head _))), List.forall_mem_cons.mpr ⟨off2 (T9, listOf c1.toArray tk1) (.tail _ (.tail _ (.tail _ (.head _)))), fun q hq => off2 q (.tail _ (.tail _ (.tail _ (.tail _ hq))))⟩⟩⟩⟩) (by intro p hp; rcases List.mem_cons.mp hp with rfl | hp; exact rfl; nomatch hp) ?hr4 ⟨?_, ?_⟩
              case hr4 =>
                intro z h3 h4
                have b1 : z ≠ Str.ofString "cnt_t" := h3 _ (.head _)
                have c0 : z ≠ Str.ofString "j" := fun e9 => by subst e9; exact absurd h4 (by decide)
                have c1 : z ≠ Str.ofString "other_elem" := fun e9 => by subst e9; exact absurd h4 (by decide)
                simp only [kstB, b1, c0, c1, h4, if_false, Bool.false_eq_true, List.contains_nil]
              · exact atS_congr y9 fun p _ => maskJ_hit g9 p
              · show cn2 + 1 = _
                rw [w2]
                exact (cnt_hit hj g9).symm
            · (rename (_ == x) = false => c5); (rename Fr _ _ _ _ => e1); (rename News _ _ _ ((e2, _) :: _) => f1)
              have g9 : ys.getD j Str.empty ≠ x := fun q => by rw [← g0, q, beq_self_eq_true] at c5; cases c5
              refine en_end (c1, cn2, tc2) e1 f1 (fun _ h9 => h9) off2 (by intro p hp; rcases List.mem_cons.mp hp with rfl | hp; exact rfl; nomatch hp) ?hr5 ⟨?_, ?_⟩
              case hr5 =>
                intro z h3 h4
                have b1 : z ≠ Str.ofString "cnt_t" := h3 _ (.head _)
                have c0 : z ≠ Str.ofString "j" := fun e9 => by subst e9; exact absurd h4 (by decide)
                have c1 : z ≠ Str.ofString "other_elem" := fun e9 => by subst e9; exact absurd h4 (by decide)
                simp only [kstB, b1, c0, c1, h4, if_false, Bool.false_eq_true, List.contains_nil]
              · exact atS_congr w1 fun p _ => maskJ_miss g9 p
              · show cn2 = _
                rw [w2]
                exact (cnt_miss hj g9).symm
          · have g9 : ys.getD j Str.empty ≠ x := maskJ_none hxn hy9
            (try k_fold)
            k_extra "unf"
            (rename Fr _ _ _ _ => e1); (rename News _ _ _ ((e2, _) :: _) => f1)
            refine en_end (c1, cn2, tc2) e1 f1 (fun _ h9 => h9) off2 (by intro p hp; rcases List.mem_cons.mp hp with rfl | hp; exact rfl; nomatch hp) ?hr6 ⟨?_, ?_⟩
            case hr6 =>
              intro z h3 h4
              have b1 : z ≠ Str.ofString "cnt_t" := h3 _ (.head _)
              have c0 : z ≠ Str.ofString "j" := fun e9 => by subst e9; exact absurd h4 (by decide)
              have c1 : z ≠ Str.ofString "other_elem" := fun e9 => by subst e9; exact absurd h4 (by decide)
              simp only [kstB, b1, c0, c1, h4, if_false, Bool.false_eq_true, List.contains_nil]
            · exact atS_congr w1 fun p _ => maskJ_miss g9 p
            · show cn2 = _
              rw [w2]
              exact (cnt_miss hj g9).symm
        · refine all_oxxxe ?_
          intro c1 cn2 tc2 u3 h3 tk3 pk2 F3 N3
          (try dsimp only); (try k_fold); show (let G9 : Prop := _; G9); intro G9
          obtain ⟨w1, w2⟩ := pk2
          k_unfold; clear G9
          clear lF lN
          dsimp only at w1 w2 F3 N3
          rw [List.take_length] at w2
          replace w1 := atS_congr w1 fun p hp => maskJ_end hW p hp
          (try k_fold)
          k_extra "unf"
          · (rename ((cnt : Int) ≠ (cn2 : Int)) => c5); (rename (∀ q : Addr × Obj, q ∈ (e, _) :: _ → q.1 ≠ _) => o9)
            have oDR : @Ne Nat _ R9 := fun q => o9 (R9, listOf rv.toArray rk) (.tail _ (.tail _ (.tail _ (.tail _ (.head _))))) q.symm
            k_extra "unf"
            (rename Fr _ _ _ _ => e1); (rename News _ _ _ ((_, _) :: (e, _) :: _) => f1)
            rw [y2, w2] at c5
            refine en_end ((sv', sk), (c1, tk1), (_, rk + 1), (_, _) :: own) e1 (news_d7 f1) (fun _ h9 => h9) (List.forall_mem_cons.mpr ⟨off (S, listOf sv.toArray sk) (.head _), List.forall_mem_cons.mpr ⟨off (T9, listOf tv.toArray tk1) (.tail _ (.head _)), List.forall_mem_cons.mpr ⟨off (R9, listOf rv.toArray rk) (.tail _ (.tail _ (.head _))), List.forall_mem_cons.mpr ⟨off _ (.tail _ (.tail _ (.tail _ (.head _)))), List.forall_mem_cons.mpr ⟨⟨fun q => o9 (e, oe) (.head _) q.symm, fun q => o9 (it, oi) (.tail _ (.head _)) q.symm⟩, fun q hq => off q (.tail _ (.tail _ (.tail _ (.tail _ hq))))⟩⟩⟩⟩⟩) (fun _ h9 => nomatch h9) ?hr7 ⟨y1, w1, ?_, ?_, ?_⟩
            case hr7 =>
              intro z h3 h4
              have c0 : z ≠ Str.ofString "i" := fun e9 => by subst e9; exact absurd h4 (by decide)
              have c1 : z ≠ Str.ofString "elem" := fun e9 => by subst e9; exact absurd h4 (by decide)
              have c2 : z ≠ Str.ofString "cnt_s" := fun e9 => by subst e9; exact absurd h4 (by decide)
              have c3 : z ≠ Str.ofString "cnt_t" := fun e9 => by subst e9; exact absurd h4 (by decide)
              have c4 : z ≠ Str.ofString "j" := fun e9 => by subst e9; exact absurd h4 (by decide)
              have c5 : z ≠ Str.ofString "other_elem" := fun e9 => by subst e9; exact absurd h4 (by decide)
              have c6 : z ≠ Str.ofString "diff" := fun e9 => by subst e9; exact absurd h4 (by decide)
              have d1 : [Str.ofString "j", Str.ofString "other_elem"].contains z = false := by simp [c4, c5]
              have d2 : [Str.ofString "j"].contains z = false := by simp [c4]
              simp only [kstB, c0, c1, c2, c3, c4, c5, c6, d1, d2, h4, if_false, Bool.false_eq_true, List.contains_nil]
            · dsimp only
              rw [take_snoc hi, rowsC_snoc, hxv, rowsC_new hxn c5]
              exact Mis.snoc (p3.mono fun _ h9 => .tail _ h9) (misIn_head (by rw [y2]) (by rw [w2]))
            · dsimp only
              rw [List.length_append, List.length_singleton]
              omega
            · intro q hq
              rcases List.mem_cons.mp hq with rfl | hq
              · exact ⟨fun q => o9 (S, listOf sv'.toArray sk) (.tail _ (.tail _ (.head _))) q.symm, fun q => o9 (T9, listOf c1.toArray tk1) (.tail _ (.tail _ (.tail _ (.head _)))) q.symm, oDR, fun q => o9 (NL, _) (.tail _ (.tail _ (.tail _ (.tail _ (.tail _ (.head _)))))) q.symm⟩
              · exact p5 q hq
          · (rename ((cnt : Int) = (cn2 : Int)) => c5); (rename Fr _ _ _ _ => e1); (rename News _ _ _ ((e, _) :: _) => f1)
            rw [y2, w2] at c5
            refine en_end ((sv', sk), (c1, tk1), (rv, rk), own) e1 f1 (fun _ h9 => h9) (List.forall_mem_cons.mpr ⟨off (S, listOf sv.toArray sk) (.head _), List.forall_mem_cons.mpr ⟨off (T9, listOf tv.toArray tk1) (.tail _ (.head _)), List.forall_mem_cons.mpr ⟨off (R9, listOf rv.toArray rk) (.tail _ (.tail _ (.head _))), List.forall_mem_cons.mpr ⟨off _ (.tail _ (.tail _ (.tail _ (.head _)))), fun q hq => off q (.tail _ (.tail _ (.tail _ (.tail _ hq))))⟩⟩⟩⟩) (fun _ h9 => nomatch h9) ?hr8 ⟨y1, w1, ?_, Nat.le_succ_of_le p4, p5⟩
            case hr8 =>
              intro z h3 h4
              have c0 : z ≠ Str.ofString "i" := fun e9 => by subst e9; exact absurd h4 (by decide)
              have c1 : z ≠ Str.ofString "elem" := fun e9 => by subst e9; exact absurd h4 (by decide)
              have c2 : z ≠ Str.ofString "cnt_s" := fun e9 => by subst e9; exact absurd h4 (by decide)
              have c3 : z ≠ Str.ofString "cnt_t" := fun e9 => by subst e9; exact absurd h4 (by decide)
              have c4 : z ≠ Str.ofString "j" := fun e9 => by subst e9; exact absurd h4 (by decide)
              have c5 : z ≠ Str.ofString "other_elem" := fun e9 => by subst e9; exact absurd h4 (by decide)
              have c6 : z ≠ Str.ofString "diff" := fun e9 => by subst e9; exact absurd h4 (by decide)
              have d1 : [Str.ofString "j", Str.ofString "other_elem"].contains z = false := by simp [c4, c5]
              have d2 : [Str.ofString "j"].contains z = false := by simp [c4]
              simp only [kstB, c0, c1, c2, c3, c4, c5, c6, d1, d2, h4, if_false, Bool.false_eq_true, List.contains_nil]
            dsimp only
            rw [take_snoc hi, rowsC_snoc, hxv, rowsC_like c5]
            exact p3
    · have hin := maskF_none hx9
      have hW : ∀ z, z ∈ xs.take (i + 1) ↔ z ∈ xs.take i := fun z => by
        rw [take_snoc hi, List.mem_append, List.mem_singleton]
        exact ⟨fun q => q.elim id fun q => q ▸ hin, .inl⟩
      (try k_fold)
      k_extra "unf"
      (rename Fr _ _ _ _ => e1); (rename News _ _ _ ((e, _) :: _) => f1)
      refine en_end ((sv, sk), (tv, tk1), (rv, rk), own) e1 f1 (fun _ h9 => h9) off (fun _ h9 => nomatch h9) ?hr9 ⟨atS_congr p1 fun p _ => maskF_same hW p, atS_congr p2 fun p _ => maskF_same hW p, ?_, Nat.le_succ_of_le p4, p5⟩
      case hr9 =>
        intro z h3 h4
        have c0 : z ≠ Str.ofString "i" := fun e9 => by subst e9; exact absurd h4 (by decide)
        have c1 : z ≠ Str.ofString "elem" := fun e9 => by subst e9; exact absurd h4 (by decide)
        have c2 : z ≠ Str.ofString "cnt_s" := fun e9 => by subst e9; exact absurd h4 (by decide)
        have c3 : z ≠ Str.ofString "cnt_t" := fun e9 => by subst e9; exact absurd h4 (by decide)
        have c4 : z ≠ Str.ofString "j" := fun e9 => by subst e9; exact absurd h4 (by decide)
        have c5 : z ≠ Str.ofString "other_elem" := fun e9 => by subst e9; exact absurd h4 (by decide)
        have c6 : z ≠ Str.ofString "diff" := fun e9 => by subst e9; exact absurd h4 (by decide)
        have d1 : [Str.ofString "j", Str.ofString "other_elem"].contains z = false := by simp [c4, c5]
        have d2 : [Str.ofString "j"].contains z = false := by simp [c4]
        simp only [kstB, c0, c1, c2, c3, c4, c5, c6, d1, d2, h4, if_false, Bool.false_eq_true, List.contains_nil]
      dsimp only
      rw [take_snoc hi, rowsC_snoc, rowsC_old hin]
      exact p3
  · refine all_ooxxeoxxeoxxexe ?_
    intro sv sk tv tk1 rv rk own u h tk pk2 F1 N1
    (try dsimp only); (try k_fold); show (let G9 : Prop := _; G9); intro G9
    obtain ⟨p1, p2, p3, p4, p5⟩ := pk2
    k_unfold; clear G9
    clear F0 N0
    dsimp only at p1 p2 p3 p4 p5 F1 N1
    rw [List.take_length] at p1 p2 p3
    (try k_fold)
    k_extra "unf"
    refine For_enS ?_
    k_extra "unf"
    (rename Fr _ _ _ _ => F0); (rename News _ _ _ ((S, _) :: _) => N0)
    refine for_enum (l := T9) (n := ys.length) (σ := (List Value × Nat) × (List Value × Nat) × List (Addr × Obj)) (fun c => (S, listOf sv.toArray sk) :: (T9, listOf c.1.1.toArray c.1.2) :: (R9, listOf c.2.1.1.toArray c.2.1.2) :: (NL, ({ cls := .type "object", data := .plain } : Obj)) :: (c.2.2 ++ rest))
      (fun c => []) [Str.ofString "i", Str.ofString "elem", Str.ofString "cnt_t", Str.ofString "j", Str.ofString "diff"]
      (fun i c => AtS NL c.1.1 (maskF ys (xs ++ ys.take i)) ys.length ∧ Mis c.2.2 c.2.1.1 (rowsC xs ys (xs ++ ys.take i)) ∧ c.2.1.1.length ≤ xs.length + i ∧ (∀ q ∈ c.2.2, q.1 ≠ S ∧ q.1 ≠ T9 ∧ q.1 ≠ R9 ∧ q.1 ≠ NL))
      (fun c => c.1.1) (fun c => c.1.2) ((tv, tk1), (rv, rk), own) rfl (by rfl) (by rfl) (by rfl) (fun _ => .tail _ (.head _)) (fun i c h9 => h9.1.1) F0 N0 (fun _ h9 => nomatch h9) ?hpc ?_ ?_
    case hpc => exact ⟨by rw [List.take_zero, List.append_nil]; exact p2, by rw [List.take_zero, List.append_nil]; exact p3, p4, p5⟩
    · clear p1 p2 p3 p4 p5
      refine all_ooxxeoxxexe ?_
      intro tv tk1 rv rk own i v t u h tk e it oe oi hv hi pk2 F1 N1 off
      (try dsimp only); (try k_fold); show (let G9 : Prop := _; G9); intro G9
      obtain ⟨p1, p3, p4, p5⟩ := pk2
      k_unfold; clear G9
      clear F0 N0
      dsimp only at hv p1 p3 p4 p5 F1 N1 off
      have oeS : @Ne Nat e S := fun q => (off _ (.head _)).1 q.symm
      have oiS : @Ne Nat it S := fun q => (off _ (.head _)).2 q.symm
      have oeT : @Ne Nat e T9 := fun q => (off _ (.tail _ (.head _))).1 q.symm
      have oiT : @Ne Nat it T9 := fun q => (off _ (.tail _ (.head _))).2 q.symm
      have oeR : @Ne Nat e R9 := fun q => (off _ (.tail _ (.tail _ (.head _)))).1 q.symm
      have oiR : @Ne Nat it R9 := fun q => (off _ (.tail _ (.tail _ (.head _)))).2 q.symm
      have oAS : ∀ q ∈ own ++ rest, q.1 ≠ S := fun q hq => (List.mem_append.mp hq).elim (fun h9 => (p5 q h9).1) (oS q)
      have oAT : ∀ q ∈ own ++ rest, q.1 ≠ T9 := fun q hq => (List.mem_append.mp hq).elim (fun h9 => (p5 q h9).2.1) (oT q)
      have oAR : ∀ q ∈ own ++ rest, q.1 ≠ R9 := fun q hq => (List.mem_append.mp hq).elim (fun h9 => (p5 q h9).2.2.1) (oR q)
      rcases val_or (p1.2 i v hv) with ⟨x, tx, hx9, rfl⟩ | ⟨hx9, rfl⟩
      · (try k_fold)
        k_extra "unf"
        refine For_enS ?_
        k_extra "unf"
        obtain ⟨hxv, hxn⟩ := maskF_some hx9
        have hxn1 : x ∉ xs := fun q => hxn (List.mem_append_left _ q)
        have hxn2 : x ∉ ys.take i := fun q => hxn (List.mem_append_right _ q)
        (rename Fr _ _ _ _ => lF); (rename News _ _ _ ((e, _) :: (it, _) :: _) => lN); (rename IsRange _ _ _ _ _ _ _ _ => lR)
        refine' for_rng (n := ys.length - i) (σ := List Value × Nat × Tok) (fun c => (e, oe) :: (it, oi) :: (S, listOf sv.toArray sk) :: (T9, listOf c.1.toArray tk1) :: (R9, listOf rv.toArray rk) :: (NL, ({ cls := .type "object", data := .plain } : Obj)) :: (own ++ rest)) (fun c => [(Str.ofString "cnt_t", .int (c.2.1 : Int) c.2.2)]) [Str.ofString "j"]
          (fun j c => AtS NL c.1 (maskJ ys (xs ++ ys.take i) x (i + j)) ys.length ∧ c.2.1 = (ys.take (i + j)).countP (· == x)) (tv, 0, _) rfl (by rfl) (by rfl) lR (small_one (by omega) (by omega) (by omega) (by omega)) (size_from (by omega)) lF lN ?kkb ?hpb ?_ ?_
        case kkb => (intro p hp; rcases List.mem_cons.mp hp with rfl | hp; exact rfl; nomatch hp)
        case hpb => exact ⟨atS_congr p1 fun p _ => maskJ_start (take_ne (Nat.le_of_lt hi) hxn2) p, (cnt_zero hxn2).symm⟩
        · refine all_oxxxe ?_
          intro sv' cnt tc j tj u2 h2 tk2 I oI hj pk2 F2 N2 off2
          (try dsimp only); (try k_fold); show (let G9 : Prop := _; G9); intro G9
          obtain ⟨y1, y2⟩ := pk2
          k_unfold; clear G9
          clear lF lN lR F1 N1
          dsimp only at y1 y2 F2 N2 off2
          have ej : ((i : Int) + (j : Int)).toNat = i + j := by omega
          have oIS : @Ne Nat I T9 := fun q => off2 _ (.tail _ (.tail _ (.tail _ (.head _)))) q.symm
          (try k_fold)
          k_extra "unf"
          · (rename (_ == x) = true => c5); (rename maskJ _ _ _ _ _ = some _ => e9); (rename AtS NL (List.set _ _ _) _ _ => y9); (rename Fr _ _ _ _ => e1); (rename News _ _ _ ((I, _) :: _) => e2)
            rw [ej] at e9 y9
            have g9 : ys.getD (i + j) Str.empty = x := (maskJ_some e9).trans (eq_of_beq c5)
            refine rn_end (_, cnt + 1, _) e1 e2 (fun _ h9 => h9) (List.forall_mem_cons.mpr ⟨off2 _ (.head _), List.forall_mem_cons.mpr ⟨off2 _ (.tail _ (.head _)), List.forall_mem_cons.mpr ⟨off2 _ (.tail _ (.tail _ (.head _))), List.forall_mem_cons.mpr ⟨fun q : T9 = I => oIS q.symm, fun q hq => off2 q (.tail _ (.tail _ (.tail _ (.tail _ hq))))⟩⟩⟩⟩) (by intro p hp; rcases List.mem_cons.mp hp with rfl | hp; exact rfl; nomatch hp) ?hrA ⟨?_, ?_⟩
            case hrA =>
              intro z h3 h4
              have b1 : z ≠ Str.ofString "cnt_t" := h3 _ (.head _)
              have c0 : z ≠ Str.ofString "j" := fun e9 => by subst e9; exact absurd h4 (by decide)
              simp only [kstB, b1, c0, h4, if_false, Bool.false_eq_true, List.contains_nil]
            · exact atS_congr y9 fun p _ => maskJ_hit g9 p
            · show cnt + 1 = _
              rw [y2]
              exact (cnt_hit (by omega) g9).symm
          · (rename (_ == x) = false => c5); (rename maskJ _ _ _ _ _ = some _ => e9); (rename AtS NL sv' _ _ => y1); (rename Fr _ _ _ _ => e1); (rename News _ _ _ ((I, _) :: _) => e2)
            rw [ej] at e9
            have g9 : ys.getD (i + j) Str.empty ≠ x := fun q => by rw [← maskJ_some e9, q, beq_self_eq_true] at c5; cases c5
            refine rn_end (sv', cnt, tc) e1 e2 (fun _ h9 => h9) off2 (by intro p hp; rcases List.mem_cons.mp hp with rfl | hp; exact rfl; nomatch hp) ?hrB ⟨?_, ?_⟩
            case hrB =>
              intro z h3 h4
              have b1 : z ≠ Str.ofString "cnt_t" := h3 _ (.head _)
              have c0 : z ≠ Str.ofString "j" := fun e9 => by subst e9; exact absurd h4 (by decide)
              simp only [kstB, b1, c0, h4, if_false, Bool.false_eq_true, List.contains_nil]
            · exact atS_congr y1 fun p _ => maskJ_miss g9 p
            · show cnt = _
              rw [y2]
              exact (cnt_miss (by omega) g9).symm
          · (rename maskJ _ _ _ _ _ = none => e9); (rename AtS NL sv' _ _ => y1); (rename Fr _ _ _ _ => e1); (rename News _ _ _ ((I, _) :: _) => e2)
            rw [ej] at e9
            have g9 : ys.getD (i + j) Str.empty ≠ x := maskJ_none hxn e9
            refine rn_end (sv', cnt, tc) e1 e2 (fun _ h9 => h9) off2 (by intro p hp; rcases List.mem_cons.mp hp with rfl | hp; exact rfl; nomatch hp) ?hrC ⟨?_, ?_⟩
            case hrC =>
              intro z h3 h4
              have b1 : z ≠ Str.ofString "cnt_t" := h3 _ (.head _)
              have c0 : z ≠ Str.ofString "j" := fun e9 => by subst e9; exact absurd h4 (by decide)
              simp only [kstB, b1, c0, h4, if_false, Bool.false_eq_true, List.contains_nil]
            · exact atS_congr y1 fun p _ => maskJ_miss g9 p
            · show cnt = _
              rw [y2]
              exact (cnt_miss (by omega) g9).symm
        · refine all_oxxxe ?_
          intro sv' cnt tc u2 h2 tk2 pk2 F2 N2
          (try dsimp only); (try k_fold); show (let G9 : Prop := _; G9); intro G9
          obtain ⟨y1, y2⟩ := pk2
          k_unfold; clear G9
          clear lF lN lR F1 N1
          dsimp only at y1 y2 F2 N2
          rw [show i + (ys.length - i) = ys.length by omega] at y1 y2
          rw [List.take_length] at y2
          have hW : ∀ z, z ∈ xs ++ ys.take (i + 1) ↔ z ∈ xs ++ ys.take i ∨ z = x := fun z => by rw [take_snoc hi, hxv, ← List.append_assoc, List.mem_append, List.mem_singleton]
          replace y1 := atS_congr y1 fun p hp => maskJ_end hW p hp
          have z0 : xs.countP (· == x) = 0 := by
            rw [List.countP_eq_zero]
            exact fun y hy q => hxn1 (eq_of_beq q ▸ hy)
          have z1 : ((xs.countP (· == x) : Nat) : Int) ≠ ((ys.countP (· == x) : Nat) : Int) := by
            rw [z0]
            intro q
            have z2 : ys.countP (· == x) = 0 := (Int.ofNat.inj q).symm
            rw [List.countP_eq_zero] at z2
            refine z2 x ?_ (beq_self_eq_true x)
            rw [← hxv]
            simp only [List.getD, List.getElem?_eq_getElem hi, Option.getD_some]
            exact List.getElem_mem hi
          (try k_fold)
          k_extra "unf"
          (rename (∀ q : Addr × Obj, q ∈ (e, _) :: _ → q.1 ≠ _) => o9)
          have oDR : @Ne Nat _ R9 := fun q => o9 (R9, listOf rv.toArray rk) (.tail _ (.tail _ (.tail _ (.tail _ (.head _))))) q.symm
          k_extra "unf"
          (rename Fr _ _ _ _ => e1); (rename News _ _ _ ((_, _) :: (e, _) :: _) => f1)
          refine en_end ((sv', tk1), (_, rk + 1), (_, _) :: own) e1 (news_d7 f1) (fun _ h9 => h9) (List.forall_mem_cons.mpr ⟨off (S, listOf sv.toArray sk) (.head _), List.forall_mem_cons.mpr ⟨off (T9, listOf tv.toArray tk1) (.tail _ (.head _)), List.forall_mem_cons.mpr ⟨off (R9, listOf rv.toArray rk) (.tail _ (.tail _ (.head _))), List.forall_mem_cons.mpr ⟨off _ (.tail _ (.tail _ (.tail _ (.head _)))), List.forall_mem_cons.mpr ⟨⟨fun q => o9 (e, oe) (.head _) q.symm, fun q => o9 (it, oi) (.tail _ (.head _)) q.symm⟩, fun q hq => off q (.tail _ (.tail _ (.tail _ (.tail _ hq))))⟩⟩⟩⟩⟩) (fun _ h9 => nomatch h9) ?hrD ⟨y1, ?_, ?_, ?_⟩
          case hrD =>
            intro z h3 h4
            have c0 : z ≠ Str.ofString "i" := fun e9 => by subst e9; exact absurd h4 (by decide)
            have c1 : z ≠ Str.ofString "elem" := fun e9 => by subst e9; exact absurd h4 (by decide)
            have c2 : z ≠ Str.ofString "cnt_t" := fun e9 => by subst e9; exact absurd h4 (by decide)
            have c3 : z ≠ Str.ofString "j" := fun e9 => by subst e9; exact absurd h4 (by decide)
            have c4 : z ≠ Str.ofString "diff" := fun e9 => by subst e9; exact absurd h4 (by decide)
            have d2 : [Str.ofString "j"].contains z = false := by simp [c3]
            simp only [kstB, c0, c1, c2, c3, c4, d2, h4, if_false, Bool.false_eq_true, List.contains_nil]
          · dsimp only
            rw [take_snoc hi, ← List.append_assoc, rowsC_snoc, hxv, rowsC_new hxn z1]
            exact Mis.snoc (p3.mono fun _ h9 => .tail _ h9) (misIn_head (by rw [z0]; rfl) (by rw [y2]))
          · dsimp only
            rw [List.length_append, List.length_singleton]
            omega
          · intro q hq
            rcases List.mem_cons.mp hq with rfl | hq
            · exact ⟨fun q => o9 (S, listOf sv.toArray sk) (.tail _ (.tail _ (.head _))) q.symm, fun q => o9 (T9, listOf sv'.toArray tk1) (.tail _ (.tail _ (.tail _ (.head _)))) q.symm, oDR, fun q => o9 (NL, _) (.tail _ (.tail _ (.tail _ (.tail _ (.tail _ (.head _)))))) q.symm⟩
            · exact p5 q hq
      · have hin := maskF_none hx9
        have hW : ∀ z, z ∈ xs ++ ys.take (i + 1) ↔ z ∈ xs ++ ys.take i := fun z => by
          rw [take_snoc hi, ← List.append_assoc, List.mem_append (s := xs ++ _), List.mem_singleton]
          exact ⟨fun q => q.elim id fun q => q ▸ hin, .inl⟩
        (try k_fold)
        k_extra "unf"
        (rename Fr _ _ _ _ => e1); (rename News _ _ _ ((e, _) :: _) => f1)
        refine en_end ((tv, tk1), (rv, rk), own) e1 f1 (fun _ h9 => h9) off (fun _ h9 => nomatch h9) ?hrE ⟨atS_congr p1 fun p _ => maskF_same hW p, ?_, Nat.le_succ_of_le p4, p5⟩
        case hrE =>
          intro z h3 h4
          have c0 : z ≠ Str.ofString "i" := fun e9 => by subst e9; exact absurd h4 (by decide)
          have c1 : z ≠ Str.ofString "elem" := fun e9 => by subst e9; exact absurd h4 (by decide)
          have c2 : z ≠ Str.ofString "cnt_t" := fun e9 => by subst e9; exact absurd h4 (by decide)
          have c3 : z ≠ Str.ofString "j" := fun e9 => by subst e9; exact absurd h4 (by decide)
          have c4 : z ≠ Str.ofString "diff" := fun e9 => by subst e9; exact absurd h4 (by decide)
          have d2 : [Str.ofString "j"].contains z = false := by simp [c3]
          simp only [kstB, c0, c1, c2, c3, c4, d2, h4, if_false, Bool.false_eq_true, List.contains_nil]
        dsimp only
        rw [take_snoc hi, ← List.append_assoc, rowsC_snoc, rowsC_old hin]
        exact p3
    · refine all_ooxxeoxxexe ?_
      intro tv tk1 rv rk own u h tk pk2 F1 N1
      (try dsimp only); (try k_fold); show (let G9 : Prop := _; G9); intro G9
      obtain ⟨q1, q3, q4, q5⟩ := pk2
      k_unfold; clear G9
      clear F0 N0
      dsimp only at q1 q3 q4 q5 F1 N1
      rw [List.take_length] at q3
      (try k_fold)
      k_extra "unf"
      (rename Fr _ L _ _ => e1); (rename News _ L _ _ => f1)
      exact hret _ _ _ _ ⟨_, _, _, _, rfl, q3, rfl⟩ e1 (news_r4 f1)
end
end
end
end
section
local macro_rules | `(tactic| k_updF) => `(tactic| first | exact UpdF.head (by k_all) | (refine' UpdF.tail ?ua9 ?ub9; (case ua9 => k_ne); (case ub9 => k_updF)))
theorem wl_27 : True := by
  k_with "own eval Name" => ((k_here; (with_reducible show wpAny _ _ (eval (Expr.Name _ _) (envX _ _ _ _ _ _)) _ _ _); k_dflt (refine' nameX_F ?Nq88 ?cq88 ?mq88 ?dq88 ?_ ?aq88 ?bq88; (case aq88 => rfl); (case bq88 => rfl); (case cq88 => exact rfl); (case Nq88 => k_asm); (case mq88 => first | (refine List.mem_cons_of_mem _ ?_; with_reducible assumption) | k_mem); (case dq88 => with_reducible assumption); k_whole)))
  trivial
theorem wl_0 : True := by k_with_none; trivial
theorem wl_28 : True := by
  k_with "setItem ref int str" => ((k_here; (with_reducible show wpAny _ _ (setItem (Value.ref _) (Value.int _ _) (Value.str _ _)) _ _ _); k_dflt (refine' sa_set ?k1q89 ?k2q89 ?k3q89 ?k4q89 ?k5q89 ?k6q89 ?k7q89 ?_; (case k1q89 => k_asm); (case k2q89 => k_asm); (case k3q89 => k_upd); (case k4q89 => with_reducible assumption); (case k5q89 => omega); (case k6q89 => omega); (case k7q89 => omega); k_whole); intro _ _ _ _ _; (try k_sweep)))
  k_with "call builtin:len cons nil" => ((k_here; (with_reducible show wpAny _ _ (call (Value.builtin "len") [Value.ref _]) _ _ _); k_dflt (refine' sa_len ?k1q90 ?k2q90 ?k3q90 ?k4q90 ?_; (case k1q90 => k_asm); (case k2q90 => k_mem); (case k3q90 => with_reducible assumption); (case k4q90 => omega); k_whole)))
  k_with "own binaryOp RShift int int" => ((k_here; (refine rsh1 ?_)))
  k_with "compareOp Lt str str" => ((k_here; (refine lt_s ?_)))
  k_with "compareOp Gt str str" => ((k_here; (refine gt_s ?_)))
  k_with "unf" => (repeat' (first | (k_unfold; (try dsimp only)) | ((first | (with_reducible show wpAny _ _ (execs _ _) _ _ _) | (with_reducible show wpAny _ _ (call _ _) _ _ _) | (with_reducible show wpAny _ _ (isTrue _ _ _) _ _ _) | (with_reducible show wpAny _ _ (truthy _) _ _ _)); k_fold) | ((fail_if_success first | (with_reducible show KswEnd _ _ _ _ _ _ _ _ _ _ _ _) | (with_reducible show FlEnd _ _ _ _ _ _ _ _ _ _ _ _) | (with_reducible show F1End _ _ _ _ _ _ _ _ _ _ _) | (with_reducible show wpAny _ _ (exec (Stmt.While _ _ _ _) _) _ _ _) | (with_reducible show wpAny _ _ (exec (Stmt.For _ _ _ _ _) _) _ _ _) | (with_reducible show wpAny _ _ (pyIter _) (fun it s₂ => LoopAtV _ _ _ _ _ _ _ _ _ it s₂) _ _) | (with_reducible show wpAny _ _ (eval (PySem.Expr.ListComp _ _ _ _) _) _ _ _) | (with_reducible show LCg.CompSrc _ _ _ _ _ _ _ _ _ _ _ _ _ _) | (with_reducible show LCt.CompSrcT _ _ _ _ _ _ _ _ _ _ _ _ _ _ _) | (with_reducible show LCg.CompEnd _ _ _ _ _ _ _ _ _ _ _ _ _ _)); first | (dsimp only; first | ((with_reducible show _ ∧ _); with_reducible (k_extra "own And")) | ((with_reducible show wpAny _ _ (binaryOp Operator.Add (Value.bytes _ _) (Value.bytes _ _)) _ _ _); with_reducible (k_extra "own binaryOp Add bytes bytes")) | ((with_reducible show wpAny _ _ (binaryOp Operator.Add (Value.ref _) (Value.ref _)) _ _ _); with_reducible (k_extra "own binaryOp Add ref ref")) | ((with_reducible show wpAny _ _ (binaryOp Operator.Mod (Value.str _ _) (Value.ref _)) _ _ _); with_reducible (k_extra "own binaryOp Mod str ref")) | ((with_reducible show wpAny _ _ (binaryOp Operator.RShift _ _) _ _ _); with_reducible (k_extra "own binaryOp RShift int int")) | ((with_reducible show wpAny _ _ (eval (PySem.Expr.Name _ _) _) _ _ _); with_reducible (k_extra "own eval Name")) | ((with_reducible show wpAny _ _ (exec (Stmt.Raise _ _ _) _) _ _ _); with_reducible (k_extra "own exec Raise some none")) | ((with_reducible show wpAny _ _ (getMethod (Value.bytes _ _) _ _) _ _ _); with_reducible (k_extra "own getMethod bytes")) | ((with_reducible show wpAny _ _ (getMethod (Value.ref _) _ _) _ _ _); with_reducible (k_extra "own getMethod ref")) | ((with_reducible show wpAny _ _ (getMethod (Value.str _ _) _ _) _ _ _); with_reducible (k_extra "own getMethod str")) | ((with_reducible show wpAny _ _ (leaving _ _) _ _ _); k_extra "own leaving ref") | ((with_reducible show wpAny _ _ (subscriptTail _ (PySem.Expr.Slice _ _ _ _) (Value.ref _) _) _ _ _); with_reducible (k_extra "own subscriptTail Name Slice ref ref")) | ((with_reducible show wpAny _ _ (truthy (Value.ref _)) _ _ _); with_reducible (k_extra "own truthy ref")) | walk1) | ((with_reducible show _ ∧ _); with_reducible (k_extra "own And")) | ((with_reducible show wpAny _ _ (binaryOp Operator.Add (Value.bytes _ _) (Value.bytes _ _)) _ _ _); with_reducible (k_extra "own binaryOp Add bytes bytes")) | ((with_reducible show wpAny _ _ (binaryOp Operator.Add (Value.ref _) (Value.ref _)) _ _ _); with_reducible (k_extra "own binaryOp Add ref ref")) | ((with_reducible show wpAny _ _ (binaryOp Operator.Mod (Value.str _ _) (Value.ref _)) _ _ _); with_reducible (k_extra "own binaryOp Mod str ref")) | ((with_reducible show wpAny _ _ (binaryOp Operator.RShift _ _) _ _ _); with_reducible (k_extra "own binaryOp RShift int int")) | ((with_reducible show wpAny _ _ (eval (PySem.Expr.Name _ _) _) _ _ _); with_reducible (k_extra "own eval Name")) | ((with_reducible show wpAny _ _ (exec (Stmt.Raise _ _ _) _) _ _ _); with_reducible (k_extra "own exec Raise some none")) | ((with_reducible show wpAny _ _ (getMethod (Value.bytes _ _) _ _) _ _ _); with_reducible (k_extra "own getMethod bytes")) | ((with_reducible show wpAny _ _ (getMethod (Value.ref _) _ _) _ _ _); with_reducible (k_extra "own getMethod ref")) | ((with_reducible show wpAny _ _ (getMethod (Value.str _ _) _ _) _ _ _); with_reducible (k_extra "own getMethod str")) | ((with_reducible show wpAny _ _ (leaving _ _) _ _ _); k_extra "own leaving ref") | ((with_reducible show wpAny _ _ (subscriptTail _ (PySem.Expr.Slice _ _ _ _) (Value.ref _) _) _ _ _); with_reducible (k_extra "own subscriptTail Name Slice ref ref")) | ((with_reducible show wpAny _ _ (truthy (Value.ref _)) _ _ _); with_reducible (k_extra "own truthy ref")) | walk1 | (leave1; walk_say "STEP leave1"; try dsimp only) | fail "no step")))
  k_with "call builtin:list.append cons nil" => ((k_here; (with_reducible show wpAny _ _ (call (Value.builtin _) [Value.ref _, Value.str _ _]) _ _ _); k_dflt (refine' sa_append ?k1q94 ?k2q94 ?k3q94 ?k4q94 ?k5q94 ?_; (case k1q94 => k_asm); (case k2q94 => k_asm); (case k3q94 => k_upd); (case k4q94 => with_reducible assumption); (case k5q94 => omega); k_whole); intro _ _ _ _ _; (try k_sweep)))
  k_with "call builtin:list.pop cons nil" => ((k_here; (with_reducible show wpAny _ _ (call (Value.builtin _) [Value.ref _]) _ _ _); k_dflt (refine' sa_pop ?k1q95 ?k2q95 ?k3q95 ?k4q95 ?k5q95 ?k6q95 ?_; (case k1q95 => k_asm); (case k2q95 => k_asm); (case k3q95 => k_upd); (case k4q95 => with_reducible assumption); (case k5q95 => omega); (case k6q95 => omega); k_whole); intro _ _ _ _ _ _; (try k_sweep)))
  k_with "own truthy ref" => ((k_here; (with_reducible show wpAny _ _ (truthy (Value.ref _)) _ _ _); k_dflt (refine' sa_truthy ?k1q96 ?k2q96 ?k3q96 ?k4q96 ?_; (case k1q96 => k_asm); (case k2q96 => k_mem); (case k3q96 => with_reducible assumption); (case k4q96 => omega); k_whole)))
  k_with "F1Post nil next" => ((dsimp only [F1Post]))
  k_with "FlPost cons next" => ((dsimp only [FlPost]))
  k_with "own eval Name" => ((k_here; (with_reducible show wpAny _ _ (eval (Expr.Name _ _) (envOfC _ _ _ _ _)) _ _ _); k_dflt (refine' nameX_C ?Nq99 ?cq99 ?mq99 ?dq99 ?_ ?aq99 ?bq99; (case aq99 => rfl); (case bq99 => rfl); (case cq99 => exact rfl); (case Nq99 => k_asm); (case mq99 => first | (refine List.mem_cons_of_mem _ ?_; with_reducible assumption) | k_mem); (case dq99 => with_reducible assumption); k_whole)))
  trivial
section
/-- the law's own body and scope -/
noncomputable def lawSt : Option (List Stmt × Scope) := match PySem.Challenge.rw_in0117_01.prog.main.body.getLast? with
  | some (.FunctionDef _ _ body _ _ _ scope _ _ _) => some (body, scope)
  | _ => none
noncomputable abbrev lawC (L : Addr) : List (Str × Addr) := [(Str.ofString "two", L + 1 + 1 + 1), (Str.ofString "one", L + 1 + 1), (Str.ofString "names", L + 1)]
noncomputable abbrev lawA (L a : Addr) (ccd : Value) (scope : Scope) : Around := callerA.deeper (envX (Str.ofString "law") scope L a ccd (lawC L))
noncomputable def forBody (body : List Stmt) : Option (List Stmt) := match body.drop 2 with
  | .For _ _ fb _ _ :: _ => some fb
  | _ => none
theorem turn_fr {g g' h : Heap} {L : Addr} {m : Str → Option Value} (T : KtsTurn [] g g') (F : Fr g' L h m) : Fr g L h m := ⟨F.ns, fun b o e => F.keep b o (T.other b o e (fun h => nomatch h)), by rw [← T.size]; exact F.above⟩
theorem turn_news {g g' h : Heap} {L : Addr} {led : List (Addr × Obj)} (T : KtsTurn [] g g') (N : News g' L h led) : News g L h led := fun q hq => ⟨(N q hq).1, (N q hq).2.1, by
  cases e : g.get? q.1 with
  | none => rfl
  | some o =>
    have := (N q hq).2.2
    rw [T.other _ _ e (fun h => nomatch h)] at this
    cases this⟩
theorem call_useT0 {w : World} {f : Addr} {args : List Value} {led : List (Addr × Obj)} {d u : Nat} {post : Value → List (Addr × Obj) → Prop} (h : CallOkT w f args led d u post)
    {loose : List Str} {mean : ExcName → Option Value} {mg mb : Str → Option Value} {p : Program} {dp un : Nat} {gd : Option (List Code)} {cn : Str} {cs : Scope} {a : Addr} {ccd : Value} {cl : List (Str × Addr)} {A₀ : Around} {base : Heap} {L : Addr} {m : Str → Option Value} {s : Shared} {Q E : Value → Shared → Prop}
    (B : Below A₀ base [] base) (F : Fr base L s.heap m) (X : (frag w.params).In base) (N : News base L s.heap led) (T : Top p loose mean mg mb base) (C : CodeHd base 228 224) (hk : cs.kind = .function) (hd : dp + d < recursionLimit) (hu : un + u < cLine)
    (ret : ∀ r led' h' tk', post r led' → Fr base L h' m → News base L h' led' → Q r { s with heap := h', toks := tk' }) :
    wpAny (model PySem.Challenge.rw_in0117_01.prog w) (ktrTop dp un gd cn cs L a ccd cl []) (call (.ref f) args) Q E s :=
  h _ _ _ _ _ _ _ _ _ _ _ _ _ _ _ _ _ _ _ _ _ _ _ _ _ _ B F X N T X T ktsDicts_nil C hk hd hu (fun r led' h' tk' h₁ p TT F' N' _ _ _ _ => ret r led' h' tk' p (turn_fr TT F') (turn_news TT N'))
theorem mset {m : Str → Option Value} {x : Str} {v : Value} (h : m x = some v) : m = fun y => if y = x then some v else m y := by
  funext y
  by_cases e : y = x
  · subst e; rw [if_pos rfl]; exact h
  · rw [if_neg e]
theorem nameG_B {M : Model} {A : Around} {E : Value → Shared → Prop} {s : Shared} {h₀ : Heap} {L : Addr} {m : Str → Option Value} {env : Env} {K : Frag} {mg mb : Str → Option Value} {p : Program} {loose : List Str} {x : Str} {pos : Pos} {v : Value} {Q : Value → Shared → Prop} (F : Fr h₀ L s.heap m) (X : K.In h₀) (T : TopRead p loose mg mb h₀)
    (e : nsIn K mainGlobals x = some none) (hv : bootBuiltins x = some v) (hn : x ≠ "__name__") (h : Q v s) (hg : env.globals = mainGlobals) (hb : env.builtins = builtinsNs) (hk : env.scope.kind = .function) (hx : env.kindOf x = some .globalImplicit) (hd : (x == ("__debug__" : Str)) = false) :
    wpAny M A (eval (.Name x pos) env) Q E s :=
  Name_function_global hk hx (loadGlobal_builtin (env := env) (by rw [hg]; exact T.g.keeps F.keep) (mg_none_of X T.g e) (by rw [hb]; exact T.b.keeps F.keep) ((T.builtins x hn).trans hv) h) hd
theorem enc_slotty : typeOf (.builtin "str.encode") = pure (.type "method_descriptor") := by show builtinType _ = _; rw [builtinType_eq_fast]; kernel_rfl
theorem enc_method {M : Model} {A : Around} {E : Value → Shared → Prop} {s : Shared} {x : Str} {t : Tok} {pl : Sem Bool} {Q : Value × List Value → Shared → Prop} (h : Q (.builtin "str.encode", [.str x t]) s) : wpAny M A (getMethod (.str x t) "encode" pl) Q E s :=
  getMethod_builtin (typeIs_str _ _ _) F.plainAttrs_str F.slot_str_encode enc_slotty (fun _ e => nomatch e) h
end
theorem wl_29 : True := by
  k_with "compareOp Gt ref ref" => ((k_here; (with_reducible show wpAny _ _ (compareOp CmpOp.Gt (Value.ref _) (Value.ref _)) _ _ _); k_dflt (refine' gt_lists ?Nq100 ?aq100 ?bq100 ?cq100 ?dq100 ?eq100 ?_; (case Nq100 => k_asm); (case aq100 => first | (with_reducible assumption) | k_mem); (case bq100 => first | (with_reducible assumption) | k_mem); (case cq100 => with_reducible assumption); (case dq100 => with_reducible assumption); (case eq100 => ke_room); k_whole)))
  k_with "compareOp Lt ref ref" => ((k_here; (with_reducible show wpAny _ _ (compareOp CmpOp.Lt (Value.ref _) (Value.ref _)) _ _ _); k_dflt (refine' lt_lists ?Nq101 ?aq101 ?bq101 ?cq101 ?dq101 ?eq101 ?_; (case Nq101 => k_asm); (case aq101 => first | (with_reducible assumption) | k_mem); (case bq101 => first | (with_reducible assumption) | k_mem); (case cq101 => with_reducible assumption); (case dq101 => with_reducible assumption); (case eq101 => ke_room); k_whole)))
  k_with "subscriptTail Name BinOp ref int" => ((k_here; (try dsimp only); (with_reducible show wpAny _ _ (subscriptTail _ _ (Value.ref _) (Value.int _ _)) _ _ _); k_dflt (refine' sa_sub ?k1q102 ?k2q102 ?k3q102 ?k4q102 ?k5q102 ?k6q102 ?_ ?k7q102; (case k1q102 => k_asm); (case k2q102 => with_reducible (first | assumption | (refine List.mem_cons_of_mem _ ?_; first | assumption | (refine List.mem_cons_of_mem _ ?_; first | assumption | (refine List.mem_cons_of_mem _ ?_; first | assumption | (refine List.mem_cons_of_mem _ ?_; first | assumption | (refine List.mem_cons_of_mem _ ?_; first | assumption | (refine List.mem_cons_of_mem _ ?_; first | assumption | (refine List.mem_cons_of_mem _ ?_; first | assumption | (refine List.mem_cons_of_mem _ ?_; first | assumption | (refine List.mem_cons_of_mem _ ?_; assumption))))))))))); (case k3q102 => with_reducible assumption); (case k4q102 => omega); (case k5q102 => omega); (case k6q102 => omega); (case k7q102 => with_unfolding_all rfl); k_whole); intro _))
  k_with "subscriptTail Name Name ref int" => ((k_here; (try dsimp only); (with_reducible show wpAny _ _ (subscriptTail _ _ (Value.ref _) (Value.int _ _)) _ _ _); k_dflt (refine' sa_sub ?k1q103 ?k2q103 ?k3q103 ?k4q103 ?k5q103 ?k6q103 ?_ ?k7q103; (case k1q103 => k_asm); (case k2q103 => with_reducible (first | assumption | (refine List.mem_cons_of_mem _ ?_; first | assumption | (refine List.mem_cons_of_mem _ ?_; first | assumption | (refine List.mem_cons_of_mem _ ?_; first | assumption | (refine List.mem_cons_of_mem _ ?_; first | assumption | (refine List.mem_cons_of_mem _ ?_; first | assumption | (refine List.mem_cons_of_mem _ ?_; first | assumption | (refine List.mem_cons_of_mem _ ?_; first | assumption | (refine List.mem_cons_of_mem _ ?_; first | assumption | (refine List.mem_cons_of_mem _ ?_; assumption))))))))))); (case k3q103 => with_reducible assumption); (case k4q103 => omega); (case k5q103 => omega); (case k6q103 => omega); (case k7q103 => with_unfolding_all rfl); k_whole); intro _))
  k_with "own subscriptTail Name Slice ref ref" => ((k_here; (with_reducible show wpAny _ _ (subscriptTail _ (PySem.Expr.Slice _ _ none _) (Value.ref _) (Value.ref _)) _ _ _); k_dflt (refine' sa_slice ?Fq104 ?Nq104 ?lq104 ?iq104 ?zq104 ?pq104 ?qq104 ?_ ?sq104 ?tq104; (case Fq104 => k_asm); (case Nq104 => k_asm); (case lq104 => with_reducible (first | assumption | (refine List.mem_cons_of_mem _ ?_; first | assumption | (refine List.mem_cons_of_mem _ ?_; first | assumption | (refine List.mem_cons_of_mem _ ?_; first | assumption | (refine List.mem_cons_of_mem _ ?_; first | assumption | (refine List.mem_cons_of_mem _ ?_; first | assumption | (refine List.mem_cons_of_mem _ ?_; first | assumption | (refine List.mem_cons_of_mem _ ?_; first | assumption | (refine List.mem_cons_of_mem _ ?_; first | assumption | (refine List.mem_cons_of_mem _ ?_; assumption))))))))))); (case iq104 => with_reducible assumption); (case zq104 => omega); (case pq104 => kmk_part); (case qq104 => kmk_part); (case sq104 => with_unfolding_all rfl); (case tq104 => kmk_pure); k_whole); intro _ _ _ _ _ l1w8 _ _; (try k_lt l1w8); (try k_sweep)))
  k_with "call builtin:list.extend cons nil" => ((k_here; (with_reducible show wpAny _ _ (call (Value.builtin _) [Value.ref _, Value.ref _]) _ _ _); k_dflt (refine' sa_extend0 ?Fq105 ?Nq105 ?bq105 ?uq105 ?eq105 ?Uq105 ?iq105 ?zq105 ?_; (case Fq105 => k_asm); (case Nq105 => k_asm); (case bq105 => k_mem); (case uq105 => with_reducible assumption); (case eq105 => omega); (case Uq105 => k_upd); (case iq105 => with_reducible assumption); (case zq105 => omega); k_whole); intro _ _ N'w8; (try dsimp only at N'w8); (try k_sweep)))
  trivial
theorem wl_30 : True := by
  k_with "call builtin:list.remove cons nil" => ((k_here; (with_reducible show wpAny _ _ (call (Value.builtin _) [Value.ref _, Value.str _ _]) _ _ _); k_dflt (refine' sa_remove ?Fq106 (Del.news ?Dq106 ?Nq106) ?hrq106 ?hiq106 ?hlq106 ?hAq106 ?h1 ?h2; (case Fq106 => k_asm); (case Nq106 => k_asm); (case Dq106 => k_upd); (case hrq106 => first | assumption | k_all); (case hiq106 => with_reducible assumption); (case hlq106 => omega); (case hAq106 => rfl)); (case' h1 => (intro hx9w8 _ _ _ _ _ _; (try dsimp only); (try k_sweep))); (case' h2 => intro hx9w8 _ _ _ _)))
  k_with "GswPost cons next" => ((dsimp only [GswPost]))
  k_with "own getMethod ref" => ((k_here; (with_reducible show wpAny _ _ (getMethod (Value.ref _) (PySem.Str.ofString "count") _) _ _ _); k_dflt (refine' kf_method ?Nq108 ?mq108 PySem.F.slot_list_count PySem.F.type_list_count ?_; (case Nq108 => k_asm); (case mq108 => first | (with_reducible (first | assumption | (refine List.mem_cons_of_mem _ ?_; first | assumption | (refine List.mem_cons_of_mem _ ?_; first | assumption | (refine List.mem_cons_of_mem _ ?_; first | assumption | (refine List.mem_cons_of_mem _ ?_; first | assumption | (refine List.mem_cons_of_mem _ ?_; first | assumption | (refine List.mem_cons_of_mem _ ?_; first | assumption | (refine List.mem_cons_of_mem _ ?_; first | assumption | (refine List.mem_cons_of_mem _ ?_; first | assumption | (refine List.mem_cons_of_mem _ ?_; assumption))))))))))) | k_mem))))
  k_with "call builtin:list.count cons nil" => ((k_here; (with_reducible show wpAny _ _ (call (Value.builtin _) [Value.ref _, Value.str _ _]) _ _ _); k_dflt (refine' sa_count ?Nq109 ?mq109 ?iq109 ?_; (case Nq109 => k_asm); (case mq109 => first | (with_reducible (first | assumption | (refine List.mem_cons_of_mem _ ?_; first | assumption | (refine List.mem_cons_of_mem _ ?_; first | assumption | (refine List.mem_cons_of_mem _ ?_; first | assumption | (refine List.mem_cons_of_mem _ ?_; first | assumption | (refine List.mem_cons_of_mem _ ?_; first | assumption | (refine List.mem_cons_of_mem _ ?_; first | assumption | (refine List.mem_cons_of_mem _ ?_; first | assumption | (refine List.mem_cons_of_mem _ ?_; first | assumption | (refine List.mem_cons_of_mem _ ?_; assumption))))))))))) | k_mem); (case iq109 => with_reducible assumption); k_whole)))
  k_with "own binaryOp Add ref ref" => ((k_here; (with_reducible show wpAny _ _ (binaryOp _ (Value.ref _) (Value.ref _)) _ _ _); k_dflt (refine' sa_concat ?Fq110 ?Nq110 ?aq110 ?bq110 ?iq110 ?jq110 ?xq110 ?yq110 ?_; (case Fq110 => k_asm); (case Nq110 => k_asm); (case aq110 => first | (with_reducible (first | assumption | (refine List.mem_cons_of_mem _ ?_; first | assumption | (refine List.mem_cons_of_mem _ ?_; first | assumption | (refine List.mem_cons_of_mem _ ?_; first | assumption | (refine List.mem_cons_of_mem _ ?_; first | assumption | (refine List.mem_cons_of_mem _ ?_; first | assumption | (refine List.mem_cons_of_mem _ ?_; first | assumption | (refine List.mem_cons_of_mem _ ?_; first | assumption | (refine List.mem_cons_of_mem _ ?_; first | assumption | (refine List.mem_cons_of_mem _ ?_; assumption))))))))))) | k_mem); (case bq110 => first | (with_reducible (first | assumption | (refine List.mem_cons_of_mem _ ?_; first | assumption | (refine List.mem_cons_of_mem _ ?_; first | assumption | (refine List.mem_cons_of_mem _ ?_; first | assumption | (refine List.mem_cons_of_mem _ ?_; first | assumption | (refine List.mem_cons_of_mem _ ?_; first | assumption | (refine List.mem_cons_of_mem _ ?_; first | assumption | (refine List.mem_cons_of_mem _ ?_; first | assumption | (refine List.mem_cons_of_mem _ ?_; first | assumption | (refine List.mem_cons_of_mem _ ?_; assumption))))))))))) | k_mem); (case iq110 => with_reducible assumption); (case jq110 => with_reducible assumption); (case xq110 => omega); (case yq110 => omega); k_whole); intro _ _ _ _ _ l1w8 _ _; (try k_lt l1w8); (try k_sweep)))
  k_with "call builtin:list.append cons nil" => ((k_here; (with_reducible show wpAny _ _ (call (Value.builtin _) [Value.ref _, Value.ref _]) _ _ _); k_dflt (refine' va_append ?k1q111 ?k2q111 ?k3q111 ?k4q111 ?_; (case k1q111 => k_asm); (case k2q111 => k_asm); (case k3q111 => k_upd); (case k4q111 => omega); k_whole); intro _ _ _ _; (try k_sweep)))
  k_with "compareOp NotIn ref ref" => ((k_here; (with_reducible show wpAny _ _ (compareOp CmpOp.NotIn (Value.ref _) (Value.ref _)) _ _ _); k_dflt (refine' notIn_rows ?Nq112 ?aq112 ?bq112 ?cq112 ?dq112 ?eq112 ?fq112 ?gq112 ?_; (case Nq112 => k_asm); (case aq112 => k_mem); (case bq112 => with_reducible assumption); (case cq112 => intro _ h9w8; simp only [List.mem_cons, List.mem_append, h9w8, true_or, or_true]); (case dq112 => k_mem); (case eq112 => with_reducible assumption); (case fq112 => with_reducible assumption); (case gq112 => ke_room); k_whole)))
  k_with "call builtin:len cons nil" => ((k_here; (with_reducible show wpAny _ _ (call (Value.builtin "len") [Value.ref _]) _ _ _); k_dflt (refine' sa_len ?k1q113 ?k2q113 ?k3q113 ?k4q113 ?_; (case k1q113 => k_asm); (case k2q113 => with_reducible (first | assumption | (refine List.mem_cons_of_mem _ ?_; first | assumption | (refine List.mem_cons_of_mem _ ?_; first | assumption | (refine List.mem_cons_of_mem _ ?_; first | assumption | (refine List.mem_cons_of_mem _ ?_; first | assumption | (refine List.mem_cons_of_mem _ ?_; first | assumption | (refine List.mem_cons_of_mem _ ?_; first | assumption | (refine List.mem_cons_of_mem _ ?_; first | assumption | (refine List.mem_cons_of_mem _ ?_; first | assumption | (refine List.mem_cons_of_mem _ ?_; assumption))))))))))); (case k3q113 => with_reducible assumption); (case k4q113 => omega); k_whole)))
  k_with "call type:list cons nil" => ((k_here; (with_reducible show wpAny _ _ (call (Value.type "list") [Value.ref _]) _ _ _); k_dflt (refine' sa_copy ?Fq114 ?Nq114 ?bq114 ?iq114 ?zq114 ?_; (case Fq114 => k_asm); (case Nq114 => k_asm); (case bq114 => with_reducible (first | assumption | (refine List.mem_cons_of_mem _ ?_; first | assumption | (refine List.mem_cons_of_mem _ ?_; first | assumption | (refine List.mem_cons_of_mem _ ?_; first | assumption | (refine List.mem_cons_of_mem _ ?_; first | assumption | (refine List.mem_cons_of_mem _ ?_; first | assumption | (refine List.mem_cons_of_mem _ ?_; first | assumption | (refine List.mem_cons_of_mem _ ?_; first | assumption | (refine List.mem_cons_of_mem _ ?_; first | assumption | (refine List.mem_cons_of_mem _ ?_; assumption))))))))))); (case iq114 => with_reducible assumption); (case zq114 => omega); k_whole); intro _ _ _ _ _ l1w8; (try k_lt l1w8); (try k_sweep)))
  k_with "call type:object nil nil" => ((k_here; k_dflt (refine' object_call ?Fq115 ?Nq115 ?_; (case Fq115 => k_asm); (case Nq115 => k_asm); k_whole); intro _ _ _ _ l1w8; (try k_lt l1w8); (try k_sweep)))
  trivial
local macro_rules | `(tactic| k_updF) => `(tactic| first | (refine' UpdF.head ?uh9; (case uh9 => k_all)) | (refine' UpdF.tail ?ua9 ?ub9; (case ua9 => k_ne); (case ub9 => k_updF)))
local macro_rules | `(tactic| k_upd) => `(tactic| first | (refine' Del.head ?uh8; (case uh8 => k_all)) | (refine' Del.tail ?ua8 ?ub8; (case ua8 => k_ne); (case ub8 => k_upd)))
theorem wl_31 : True := by
  k_with "storeName ref" => ((k_here; (with_reducible show wpAny _ _ (storeName (envX _ _ _ _ _ _) _ _) _ _ _); k_dflt (refine' storeX_C ?Fq116 ?Nq116 ?cq116 ?Uq116 ?dq116 ?_ ?aq116 ?bq116; (case aq116 => rfl); (case bq116 => exact rfl); (case Fq116 => k_asm); (case Nq116 => k_asm); (case cq116 => exact rfl); (case Uq116 => k_updF); (case dq116 => with_reducible assumption); k_whole); intro _ _ _ N'w8 _; (try dsimp only at N'w8); (try k_sweep)))
  k_with "unf" => (repeat' (first | (k_unfold; (try dsimp only)) | ((first | (with_reducible show wpAny _ _ (execs _ _) _ _ _) | (with_reducible show wpAny _ _ (call _ _) _ _ _) | (with_reducible show wpAny _ _ (isTrue _ _ _) _ _ _) | (with_reducible show wpAny _ _ (truthy _) _ _ _)); k_fold) | ((fail_if_success first | (with_reducible show wpAny _ _ (execs (Stmt.For _ _ _ _ _ :: _) _) _ _ _) | (with_reducible show KswEnd _ _ _ _ _ _ _ _ _ _ _ _) | (with_reducible show FlEnd _ _ _ _ _ _ _ _ _ _ _ _) | (with_reducible show F1End _ _ _ _ _ _ _ _ _ _ _) | (with_reducible show wpAny _ _ (exec (Stmt.While _ _ _ _) _) _ _ _) | (with_reducible show wpAny _ _ (exec (Stmt.For _ _ _ _ _) _) _ _ _) | (with_reducible show wpAny _ _ (pyIter _) (fun it s₂ => LoopAtV _ _ _ _ _ _ _ _ _ it s₂) _ _) | (with_reducible show wpAny _ _ (eval (PySem.Expr.ListComp _ _ _ _) _) _ _ _) | (with_reducible show wpAny _ _ (exec (Stmt.Assign _ (PySem.Expr.ListComp _ _ _ _) _) _) _ _ _) | (with_reducible show SrcRS _ _ _ _ _ _ _ _ _ _ _ _ _ _ _) | (with_reducible show LCg.CompSrc _ _ _ _ _ _ _ _ _ _ _ _ _ _) | (with_reducible show LCt.CompSrcT _ _ _ _ _ _ _ _ _ _ _ _ _ _ _) | (with_reducible show LCg.CompEnd _ _ _ _ _ _ _ _ _ _ _ _ _ _)); first | ((with_reducible show _ ∧ _); with_reducible (k_extra "own And")) | ((with_reducible show wpAny _ _ (binaryOp Operator.Add (Value.bytes _ _) (Value.bytes _ _)) _ _ _); with_reducible (k_extra "own binaryOp Add bytes bytes")) | ((with_reducible show wpAny _ _ (binaryOp Operator.Add (Value.ref _) (Value.ref _)) _ _ _); with_reducible (k_extra "own binaryOp Add ref ref")) | ((with_reducible show wpAny _ _ (binaryOp Operator.Mod (Value.str _ _) (Value.ref _)) _ _ _); with_reducible (k_extra "own binaryOp Mod str ref")) | ((with_reducible show wpAny _ _ (binaryOp Operator.RShift _ _) _ _ _); with_reducible (k_extra "own binaryOp RShift int int")) | ((with_reducible show wpAny _ _ (eval (PySem.Expr.Name _ _) _) _ _ _); with_reducible (k_extra "own eval Name")) | ((with_reducible show wpAny _ _ (exec (Stmt.Raise _ _ _) _) _ _ _); with_reducible (k_extra "own exec Raise some none")) | ((with_reducible show wpAny _ _ (getMethod (Value.bytes _ _) _ _) _ _ _); with_reducible (k_extra "own getMethod bytes")) | ((with_reducible show wpAny _ _ (getMethod (Value.ref _) _ _) _ _ _); with_reducible (k_extra "own getMethod ref")) | ((with_reducible show wpAny _ _ (getMethod (Value.str _ _) _ _) _ _ _); with_reducible (k_extra "own getMethod str")) | ((with_reducible show wpAny _ _ (leaving _ _) _ _ _); k_extra "own leaving ref") | ((with_reducible show wpAny _ _ (subscriptTail _ (PySem.Expr.Slice _ _ _ _) (Value.ref _) _) _ _ _); with_reducible (k_extra "own subscriptTail Name Slice ref ref")) | ((with_reducible show wpAny _ _ (truthy (Value.ref _)) _ _ _); with_reducible (k_extra "own truthy ref")) | walk1 | (dsimp only; walk1) | (leave1; walk_say "STEP leave1"; try dsimp only) | fail "no step")))
  trivial
section
open PyProof.Rows.LCg PyProof.Rows.LCt
/-- the names of the law -/
noncomputable def nm5 : List Str := [Str.ofString "", Str.ofString "a", Str.ofString "ÿ", Str.ofString "b c", Str.ofString "ab"]
noncomputable def nmAt (x : Int) : Str := nm5.getD (x % 5).toNat Str.empty
noncomputable def rowA (xs : List Int) : List Str := (xs.take 4 ++ [1, 3, 0, 1, 4]).map nmAt
noncomputable def rowB (xs : List Int) : List Str := ((xs.drop 4).take (min 8 xs.length - 4) ++ [4, 2, 1, 4, 3]).map nmAt
theorem strsAre_nm {a b c d e : Tok} : StrsAre [.str (Str.ofString "") a, .str (Str.ofString "a") b, .str (Str.ofString "ÿ") c, .str (Str.ofString "b c") d, .str (Str.ofString "ab") e] nm5 := .cons _ _ (.cons _ _ (.cons _ _ (.cons _ _ (.cons _ _ .nil))))
theorem strsAre_step {ys : List Value} {zs : List Int} {i : Nat} {z : Int} {t : Tok} (h : StrsAre ys ((zs.take i).map nmAt)) (hz : zs[i]? = some z) : StrsAre (ys ++ [.str (nmAt z) t]) ((zs.take (i + 1)).map nmAt) := by
  have hi := (List.getElem?_eq_some_iff.mp hz)
  obtain ⟨h1, h2⟩ := hi
  rw [List.take_succ_eq_append_getElem h1, List.map_append, h2]
  exact strsAre_append h (.cons _ _ .nil)
theorem nmAt_of {z k : Int} (h : z.fmod 5 = k) : nmAt z = nm5.getD k.toNat Str.empty := by
  rw [← h, Int.fmod_eq_emod_of_nonneg z (by decide)]; rfl
theorem strsAre_stepK {ys : List Value} {zs : List Int} {i : Nat} {z k : Int} {t : Tok} {x : Str} (h : StrsAre ys ((zs.take i).map nmAt)) (hz : zs[i]? = some z) (hk : z.fmod 5 = k) (hx : nm5.getD k.toNat Str.empty = x) : StrsAre (ys ++ [.str x t]) ((zs.take (i + 1)).map nmAt) := by
  rw [← hx, ← nmAt_of hk]
  exact strsAre_step h hz
theorem news_d4 {h₀ h : Heap} {L : Addr} {a b c d e : Addr × Obj} {l : List (Addr × Obj)} (N : News h₀ L h (a :: b :: c :: d :: e :: l)) : News h₀ L h (a :: l) := fun q hq => N q (by
  revert q; repeat' (first | with_reducible refine List.forall_mem_cons.mpr ⟨?_, ?_⟩ | (intro _ hS9; (repeat (first | with_reducible exact hS9 | with_reducible refine List.mem_cons_of_mem _ ?_)); done) | with_reducible refine List.forall_mem_append.mpr ⟨?_, ?_⟩ | ((repeat (first | with_reducible exact List.mem_cons_self | with_reducible refine List.mem_cons_of_mem _ ?_)); done) | with_reducible exact fun _ h => absurd h List.not_mem_nil))
theorem news_d3 {h₀ h : Heap} {L : Addr} {a b c d : Addr × Obj} {l : List (Addr × Obj)} (N : News h₀ L h (a :: b :: c :: d :: l)) : News h₀ L h (a :: l) := fun q hq => N q (by
  revert q; repeat' (first | with_reducible refine List.forall_mem_cons.mpr ⟨?_, ?_⟩ | (intro _ hS9; (repeat (first | with_reducible exact hS9 | with_reducible refine List.mem_cons_of_mem _ ?_)); done) | with_reducible refine List.forall_mem_append.mpr ⟨?_, ?_⟩ | ((repeat (first | with_reducible exact List.mem_cons_self | with_reducible refine List.mem_cons_of_mem _ ?_)); done) | with_reducible exact fun _ h => absurd h List.not_mem_nil))
theorem news_l1 {h₀ h : Heap} {L : Addr} {r d2 d1 p n c3 c2 c1 t : Addr × Obj} (N : News h₀ L h [r, d2, d1, p, n, c3, c2, c1, t]) : News h₀ L h [r, p, d1, d2, c3, c2, t] := fun q hq => N q (by
  revert q; repeat' (first | with_reducible refine List.forall_mem_cons.mpr ⟨?_, ?_⟩ | (intro _ hS9; (repeat (first | with_reducible exact hS9 | with_reducible refine List.mem_cons_of_mem _ ?_)); done) | with_reducible refine List.forall_mem_append.mpr ⟨?_, ?_⟩ | ((repeat (first | with_reducible exact List.mem_cons_self | with_reducible refine List.mem_cons_of_mem _ ?_)); done) | with_reducible exact fun _ h => absurd h List.not_mem_nil))
theorem law1 {body : List Stmt} {scope : Scope} (hdef : lawSt = some (body, scope)) (w : World) (xs : List Int) (vs : List Value) (sa : Addr) (hI : IntsAre vs xs) (hx : xs.length ≤ 63) (lo : List Str) (mean : ExcName → Option Value) (mg mb : Str → Option Value) (base : Heap) (L a : Addr) (ccd : Value) (s : Shared)
    (o1 o2 o3 : Obj) (hsa : base.IsList sa vs.toArray) (B : Below callerA base [] base) (X : (frag w.params).In base) (T : Top topProg lo mean mg mb base) (C : CodeHd base 228 224) (F : Fr base L s.heap (fun y => if y = Str.ofString "script" then some (.ref sa) else none))
    (N : News base L s.heap [(L + 1 + 1 + 1, o3), (L + 1 + 1, o2), (L + 1, o1), (224, tabObj #[])]) (h1 : o1.data = .cell none) (h2 : o2.data = .cell none) (h3 : o3.data = .cell none) (l0 : @LT.lt Nat _ 224 L) (Q : Flow → Shared → Prop) (E : Value → Shared → Prop)
    (hret : ∀ (R D1 D2 P : Addr) (d1 d2 : List Value) (tk : Nat) (h' : Heap), (@Ne Nat P D1 ∧ @Ne Nat P D2 ∧ @Ne Nat P R ∧ @LT.lt Nat _ (L + 1 + 1 + 1) P ∧ @LT.lt Nat _ 224 P ∧ @LT.lt Nat _ (L + 1 + 1 + 1) R ∧ (@Ne Nat D1 (L + 1 + 1 + 1) ∧ @Ne Nat D1 (L + 1 + 1) ∧ @Ne Nat D1 224) ∧ (@Ne Nat D2 (L + 1 + 1 + 1) ∧ @Ne Nat D2 (L + 1 + 1) ∧ @Ne Nat D2 224)) → StrsAre d1 (rowA xs) → StrsAre d2 (rowB xs) →
      Fr base L h' (fun y => if y = Str.ofString "rows" then some (.ref R) else if y = Str.ofString "popped" then some (.ref P) else if y = Str.ofString "script" then some (.ref sa) else none) →
      News base L h' [(R, listOf #[.ref D1, .ref D2] 0), (P, listOf #[] 0), (D1, lst d1), (D2, lst d2), (L + 1 + 1 + 1, o3), (L + 1 + 1, o2), (224, tabObj #[])] →
      wpAny (model PySem.Challenge.rw_in0117_01.prog w) (lawA L a ccd scope) (execs (body.drop 2) (envX (Str.ofString "law") scope L a ccd (lawC L))) Q E { s with heap := h', toks := tk }) :
    wpAny (model PySem.Challenge.rw_in0117_01.prog w) (lawA L a ccd scope) (execs body (envX (Str.ofString "law") scope L a ccd (lawC L))) Q E s := by
  cases hdef
  k_fill
  k_extra "unf"
  k_dflt (refine LCg.ListComp_U (F₀ := by k_asm) (by rfl) (by decide) (by rfl) (by decide) (by rfl) ?_)
  k_extra "unf"
  (rename Fr _ _ _ _ => lF); (rename News _ _ _ _ => lN); (rename IntsAre _ (List.take 4 xs ++ _) => hZ)
  refine LCg.CompSrc.ledger (by rfl) lF lN (by k_mem) (by have := hZ.length; simp only [List.size_toArray, this, List.length_append, List.length_take, List.length_drop]; unfold sizeLine; simp; omega) ?_
  intro g9
  refine comp_ind (J := fun i ys news => news = (_, _) :: (_, _) :: (_, _) :: (_, _) :: (_, _) :: (_, _) :: (_, _) :: (_, _) :: (_, _) :: (_, _) :: [] ∧ StrsAre ys (((xs.take 4 ++ [1, 3, 0, 1, 4]).take i).map nmAt)) ?_ ?_ _ 0 [] _ (Nat.zero_add _) ⟨rfl, .nil⟩
  · intro i ys news v I oI C oC D m₂ h tk E' hi hJ hP hC hx9 F N o ne
    obtain ⟨rfl, hy⟩ := hJ
    obtain ⟨z, tz, rfl, hz⟩ := hZ.at i v (by simpa using hP)
    clear lF lN
    (try dsimp only)
    (try k_fold)
    k_extra "unf"
    all_goals ((rename Fr _ _ _ _ => e1); (rename News _ _ _ _ => e2); (rename z.fmod 5 = _ => kE); (refine CompEnd.intro e1 e2 ((_, _) :: (_, _) :: (_, _) :: (_, _) :: (_, _) :: (_, _) :: (_, _) :: (_, _) :: (_, _) :: (_, _) :: []) (fun q hq => hq) o (.inr ⟨_, by k_mem, rfl, _, rfl⟩) ⟨rfl, ?_⟩); exact strsAre_stepK hy hz kE rfl)
  rintro zs1 news ⟨rfl, hz1⟩
  rw [List.take_of_length_le (by have := hZ.length; simp only [List.size_toArray, this]; omega)] at hz1
  clear lF lN hZ
  k_dflt (with_reducible walk_at "FinE")
  (rename News _ _ _ _ => N1)
  have N2 := news_d4 N1
  clear N1
  k_extra "unf"
  k_dflt (refine LCg.ListComp_U (F₀ := by k_asm) (by rfl) (by decide) (by rfl) (by decide) (by rfl) ?_)
  k_extra "unf"
  (rename Fr _ _ _ _ => lF); (rename News _ _ _ _ => lN); (rename IntsAre _ (List.take _ (List.drop _ _) ++ _) => hZ)
  refine LCg.CompSrc.ledger (by rfl) lF lN (by k_mem) (by have := hZ.length; simp only [List.size_toArray, this, List.length_append, List.length_take, List.length_drop]; unfold sizeLine; simp; omega) ?_
  intro g9
  refine comp_ind (J := fun i ys news => news = (_, _) :: (_, _) :: (_, _) :: (_, _) :: (_, _) :: (_, _) :: (_, _) :: (_, _) :: (_, _) :: (_, _) :: [] ∧ StrsAre ys ((((xs.drop 4).take (min 8 xs.length - 4) ++ [4, 2, 1, 4, 3]).take i).map nmAt)) ?_ ?_ _ 0 [] _ (Nat.zero_add _) ⟨rfl, .nil⟩
  · intro i ys news v I oI C oC D m₂ h tk E' hi hJ hP hC hx9 F N o ne
    obtain ⟨rfl, hy⟩ := hJ
    obtain ⟨z, tz, rfl, hz⟩ := hZ.at i v (by simpa using hP)
    clear lF lN
    (try dsimp only)
    (try k_fold)
    k_extra "unf"
    all_goals ((rename Fr _ _ _ _ => e1); (rename News _ _ _ _ => e2); (rename z.fmod 5 = _ => kE); (refine CompEnd.intro e1 e2 ((_, _) :: (_, _) :: (_, _) :: (_, _) :: (_, _) :: (_, _) :: (_, _) :: (_, _) :: (_, _) :: (_, _) :: []) (fun q hq => hq) o (.inr ⟨_, by k_mem, rfl, _, rfl⟩) ⟨rfl, ?_⟩); exact strsAre_stepK hy hz kE rfl)
  rintro zs2 news ⟨rfl, hz2⟩
  rw [List.take_of_length_le (by have := hZ.length; simp only [List.size_toArray, this]; omega)] at hz2
  clear lF lN hZ
  k_dflt (with_reducible walk_at "FinE")
  (rename News _ _ _ _ => N1)
  have N2 := news_d3 N1
  clear N1
  k_extra "unf"
  (rename Fr _ _ _ _ => e1); (rename News _ _ _ _ => e2)
  refine hret _ _ _ _ _ _ _ _ ⟨?_, ?_, ?_, ?_, ?_, ?_, ⟨?_, ?_, ?_⟩, ⟨?_, ?_, ?_⟩⟩ hz1 hz2 e1 (news_l1 e2)
  all_goals omega
end
section
theorem nmAt_five (x : Int) : nmAt x ∈ five := by
  unfold nmAt
  have h1 : 0 ≤ x % 5 := Int.emod_nonneg _ (by decide)
  have h2 : x % 5 < 5 := Int.emod_lt_of_pos _ (by decide)
  have h : (x % 5).toNat = 0 ∨ (x % 5).toNat = 1 ∨ (x % 5).toNat = 2 ∨ (x % 5).toNat = 3 ∨ (x % 5).toNat = 4 := by omega
  rcases h with h | h | h | h | h <;> rw [h] <;> simp [nm5, five]
theorem row_five {l : List Int} : ∀ y ∈ l.map nmAt, y ∈ five := fun y hy => by
  obtain ⟨x, _, rfl⟩ := List.mem_map.mp hy
  exact nmAt_five x
noncomputable def rowA' (xs : List Int) : List Str := (xs.take 4 ++ [1, 3, 0, 1]).map nmAt
noncomputable def rowB' (xs : List Int) : List Str := ((xs.drop 4).take (min 8 xs.length - 4) ++ [4, 2, 1, 4]).map nmAt
theorem rowA_last (xs : List Int) : rowA xs = rowA' xs ++ [Str.ofString "ab"] := by
  unfold rowA rowA'
  rw [show ([1, 3, 0, 1, 4] : List Int) = [1, 3, 0, 1] ++ [4] from rfl, ← List.append_assoc, List.map_append]
  rfl
theorem rowB_last (xs : List Int) : rowB xs = rowB' xs ++ [Str.ofString "b c"] := by
  unfold rowB rowB'
  rw [show ([4, 2, 1, 4, 3] : List Int) = [4, 2, 1, 4] ++ [3] from rfl, ← List.append_assoc, List.map_append]
  rfl
theorem rowA_len (xs : List Int) : 5 ≤ (rowA xs).length ∧ (rowA xs).length ≤ 9 := by
  unfold rowA
  rw [List.length_map, List.length_append, List.length_take]
  simp only [List.length_cons, List.length_nil]
  omega
theorem rowB_len (xs : List Int) : 5 ≤ (rowB xs).length ∧ (rowB xs).length ≤ 9 := by
  unfold rowB
  rw [List.length_map, List.length_append, List.length_take, List.length_drop]
  simp only [List.length_cons, List.length_nil]
  omega
end
section
open PyProof.Rows.LCg PyProof.Rows.LCt
theorem wl_32 : True := by
  k_with "own eval Name" => ((k_here; (with_reducible show wpAny _ _ (eval (Expr.Name _ _) (compEnvC _ _ _ _)) _ _ _); (with_reducible rename Fr _ _ _ _ => kFw8); k_dflt (refine' nameG_B kFw8 ?k1q117 ?k2q117 ?k3q117 ?k8q117 ?k9q117 ?_ ?k4q117 ?kbq117 ?k5q117 ?k6q117 ?k7q117; (case k4q117 => rfl); (case kbq117 => rfl); (case k5q117 => rfl); (case k6q117 => rfl); (case k7q117 => decide); (case k1q117 => k_asm); (case k2q117 => k_asm); (case k3q117 => k_is); (case k8q117 => boot_fast); (case k9q117 => decide); k_whole)))
  k_with "own getMethod bytes" => ((k_here; (with_reducible show wpAny _ _ (getMethod (Value.bytes _ _) _ _) _ _ _); k_dflt (refine bjoin_method ?_)))
  k_with "own getMethod str" => ((k_here; (with_reducible show wpAny _ _ (getMethod (Value.str _ _) _ _) _ _ _); k_dflt (refine enc_method ?_)))
  k_with "call builtin:str.encode cons nil" => ((k_here; k_dflt (refine latEnc (by first | assumption | decide +kernel) ?_); intro _ _ _ _; (try k_sweep)))
  trivial
theorem badd1 {prog : Program} {w : World} {A : Around} {E : Value → Shared → Prop} {s : Shared} {c : UInt8} {b : Array UInt8} {y : Str} {t u : Tok} {Q : Value → Shared → Prop} (hB : KBw.bInts b = codes y) (hy : y ∈ five) (h : ∀ t' k, KBw.bInts (#[c] ++ b) = (c.toNat : Int) :: codes y → Q (.bytes (#[c] ++ b) t') { s with toks := k }) :
    wpAny (model prog w) A (binaryOp .Add (.bytes #[c] t) (.bytes b u)) Q E s :=
  KBa.add_K (ks := [(c.toNat : Int)]) rfl hB (by have := five_len hy; rw [codes_len]; simp only [List.length_cons, List.length_nil]; omega (splitDisjunctions := true)) h
theorem wl_33 : True := by
  k_with "own binaryOp Add bytes bytes" => ((k_here; (with_reducible show wpAny _ _ (binaryOp Operator.Add (Value.bytes _ _) (Value.bytes _ _)) _ _ _); (rename KBw.bInts _ = codes _ => hB9); k_dflt (refine badd1 hB9 (by assumption) ?_); intro _ _ _; (try k_sweep)))
  trivial
theorem oct_step {ys : List Str} {i : Nat} {x : Str} {l9 : List (Array UInt8 × Tok)} {b : Array UInt8} {t : Tok} (hi : i < ys.length) (h : ys.getD i Str.empty = x) (e8 : l9.length = i) (e9 : (l9.flatMap fun p => KBw.bInts p.1) = octK (ys.take i)) (hB : KBw.bInts b = (x.length : Int) :: codes x) :
    ∃ l, bvals l9 ++ [.bytes b t] = bvals l ∧ l.length = i + 1 ∧ (l.flatMap fun p => KBw.bInts p.1) = octK (ys.take (i + 1)) :=
  ⟨l9 ++ [(b, t)], by rw [bvals, bvals, List.map_append]; rfl, by rw [List.length_append, e8]; rfl, by rw [List.flatMap_append, e9, octK_succ hi h, List.flatMap_cons, List.flatMap_nil, List.append_nil, hB]⟩
theorem row1 {body fb : List Stmt} {scope : Scope} (hdef : lawSt = some (body, scope)) (hfb : forBody body = some fb) (w : World) (ys : List Str) (vs : List Value) (ri : Addr) (nn : Nat) (lo : List Str) (mean : ExcName → Option Value) (mg mb : Str → Option Value) (base : Heap) (L a : Addr) (ccd : Value) (s : Shared) (m : Str → Option Value)
    (P : Addr) (pv : List Value) (pn : Nat) (tab : Obj) (rest : List (Addr × Obj)) (hr : StrsAre vs ys) (mem : (ri, listOf vs.toArray nn) ∈ rest) (hy : ∀ y ∈ ys, y ∈ five) (hn : 2 ≤ ys.length) (hn9 : ys.length ≤ 9) 
    (B : Below callerA base [] base) (X : (frag w.params).In base) (T : Top topProg lo mean mg mb base) (C : CodeHd base 228 224) (F : Fr base L s.heap m) (hmr : m (Str.ofString "row") = some (.ref ri)) (hmp : m (Str.ofString "popped") = some (.ref P))
    (N : News base L s.heap ((P, listOf pv.toArray pn) :: (224, tab) :: rest)) (Q : Flow → Shared → Prop) (E : Value → Shared → Prop)
    (hret : ∀ (b : Array UInt8) (t : Tok) (tk : Nat) (h' : Heap), KBw.bInts b = octK ys → Fr base L h' (fun y => if y = Str.ofString "octets" then some (.bytes b t) else if y = Str.ofString "popped" then some (.ref P) else if y = Str.ofString "row" then some (.ref ri) else m y) →
      News base L h' ((P, listOf pv.toArray pn) :: (224, tab) :: rest) → wpAny (model PySem.Challenge.rw_in0117_01.prog w) (lawA L a ccd scope) (execs (fb.drop 1) (envX (Str.ofString "law") scope L a ccd (lawC L))) Q E { s with heap := h', toks := tk }) :
    wpAny (model PySem.Challenge.rw_in0117_01.prog w) (lawA L a ccd scope) (execs fb (envX (Str.ofString "law") scope L a ccd (lawC L))) Q E s := by
  rw [mset hmp] at hmr
  rw [mset hmp, mset hmr] at F
  dsimp only at F
  clear hmr hmp
  cases hdef
  cases hfb
  (revert X; k_fill; intro X)
  k_extra "unf"
  k_dflt (refine LCg.ListComp_U (F₀ := by k_asm) (by rfl) (by decide) (by rfl) (by decide) (by rfl) ?_)
  k_extra "unf"
  (rename Fr _ _ _ _ => lF); (rename News _ _ _ _ => lN)
  refine LCg.CompSrc.ledger (by rfl) lF lN (by exact .tail _ (.tail _ mem)) (by rw [List.size_toArray, hr.length]; unfold sizeLine; omega (splitDisjunctions := true)) ?_
  intro g9
  refine comp_ind (J := fun i ys9 news => news = (_, _) :: (_, _) :: rest ∧ ∃ l, ys9 = bvals l ∧ l.length = i ∧ (l.flatMap fun p => KBw.bInts p.1) = octK (ys.take i)) ?_ ?_ _ 0 [] _ (Nat.zero_add _) ⟨rfl, [], rfl, rfl, rfl⟩
  · intro i ys9 news v I oI C9 oC D m₂ h tk E9 hi hJ hP hC hx9 F N o ne
    obtain ⟨rfl, l9, rfl, e8, e9⟩ := hJ
    obtain ⟨hi9, tv, rfl⟩ := sa_item hr (by simpa using hP)
    have hm9 : ys.getD i Str.empty ∈ five := hy _ (by rw [List.getD_eq_getElem?_getD, List.getElem?_eq_getElem hi9]; exact List.getElem_mem hi9)
    generalize hy9 : ys.getD i Str.empty = y9 at *
    clear lF lN
    have hz9 : y9.length ≤ 3 := five_len hm9
    have hz8 : (0 : Int) ≤ (y9.length : Int) := by omega (splitDisjunctions := true)
    (try dsimp only)
    (try k_fold)
    k_extra "unf"
    (rename Fr _ _ _ _ => e1); (rename News _ _ _ _ => e2); (rename KBw.bInts (_ ++ _) = _ => hB9); (rename ((_ : Nat) : Int) = ((Str.length y9 : Nat) : Int) => hB8)
    refine CompEnd.intro e1 e2 ((_, _) :: (_, _) :: rest) (fun q hq => .tail _ hq) o (.inr ⟨_, .tail _ (.tail _ mem), rfl, _, rfl⟩) ⟨rfl, oct_step hi9 hy9 e8 e9 (hB9.trans ?_)⟩
    rw [hB8]
  rintro ys9 news ⟨rfl, l9, rfl, e8, e9⟩
  rw [List.size_toArray, hr.length] at e8 e9
  rw [List.take_length] at e9
  clear lF lN
  k_extra "unf"
  (rename News _ _ _ _ => kN)
  refine bjoin_call kN (by k_mem) (by omega (splitDisjunctions := true)) (by rw [e9]; have := octK_length ys (fun y h => five_len (hy y h)); omega (splitDisjunctions := true)) ?_
  intro b9 t9 k9 hb9
  rw [e9] at hb9
  repeat' ((fail_if_success (with_reducible show wpAny _ _ (execs _ _) _ _ _)); (first | (k_unfold; (try dsimp only)) | walk1 | (dsimp only; walk1) | (leave1; (try dsimp only))))
  (rename Fr _ _ _ _ => e1); (rename News _ _ _ (_ :: _ :: _ :: _) => e2)
  exact hret _ _ _ _ hb9 e1 (fun q hq => e2 q (.tail _ hq))
end
theorem wl_34 : True := by
  k_with "own eval Name" => ((k_here; (with_reducible show wpAny _ _ (eval (Expr.Name _ _) (compEnvC _ _ _ _)) _ _ _); (with_reducible rename Fr _ _ _ _ => kFw8); k_dflt (refine' nameG_B kFw8 ?k1q122 ?k2q122 ?k3q122 ?k8q122 ?k9q122 ?_ ?k4q122 ?kbq122 ?k5q122 ?k6q122 ?k7q122; (case k4q122 => rfl); (case kbq122 => rfl); (case k5q122 => rfl); (case k6q122 => rfl); (case k7q122 => decide); (case k1q122 => k_asm); (case k2q122 => k_asm); (case k3q122 => k_is); (case k8q122 => boot_fast); (case k9q122 => decide); k_whole)))
  k_with "own getMethod bytes" => ((k_here; (with_reducible show wpAny _ _ (getMethod (Value.bytes _ _) _ _) _ _ _); k_dflt (refine bjoin_method ?_)))
  k_with "own getMethod str" => ((k_here; (with_reducible show wpAny _ _ (getMethod (Value.str _ _) _ _) _ _ _); k_dflt (refine enc_method ?_)))
  k_with "call builtin:str.encode cons nil" => ((k_here; k_dflt (refine latEnc (by first | assumption | decide +kernel) ?_); intro _ _ _ _; (try k_sweep)))
  k_with "own binaryOp Add bytes bytes" => ((k_here; (with_reducible show wpAny _ _ (binaryOp Operator.Add (Value.bytes _ _) (Value.bytes _ _)) _ _ _); (rename KBw.bInts _ = codes _ => hB9); k_dflt (refine badd1 hB9 (by assumption) ?_); intro _ _ _; (try k_sweep)))
  trivial
theorem wl_35 : True := by
  k_with "unf" => (repeat' (first | (k_unfold; (try dsimp only)) | ((first | (with_reducible show wpAny _ _ (execs _ _) _ _ _) | (with_reducible show wpAny _ _ (call _ _) _ _ _) | (with_reducible show wpAny _ _ (isTrue _ _ _) _ _ _) | (with_reducible show wpAny _ _ (truthy _) _ _ _)); k_fold) | ((fail_if_success first | (with_reducible show wpAny _ _ (subscriptTail _ (PySem.Expr.UnaryOp _ _ _) (Value.ref _) _) _ _ _) | (with_reducible show wpAny _ _ (subscriptTail _ (PySem.Expr.Constant _ _ _) (Value.ref _) _) _ _ _) | (with_reducible show wpAny _ _ (binaryOp Operator.Add (Value.ref _) (Value.ref _)) _ _ _) | (with_reducible show wpAny _ _ (call (Value.ref _) _) _ _ _) | (with_reducible show wpAny _ _ (compareOp _ (Value.ref _) (Value.ref _)) _ _ _) | (with_reducible show wpAny _ _ (execs (Stmt.For _ _ _ _ _ :: _) _) _ _ _) | (with_reducible show KswEnd _ _ _ _ _ _ _ _ _ _ _ _) | (with_reducible show FlEnd _ _ _ _ _ _ _ _ _ _ _ _) | (with_reducible show F1End _ _ _ _ _ _ _ _ _ _ _) | (with_reducible show wpAny _ _ (exec (Stmt.While _ _ _ _) _) _ _ _) | (with_reducible show wpAny _ _ (exec (Stmt.For _ _ _ _ _) _) _ _ _) | (with_reducible show wpAny _ _ (pyIter _) (fun it s₂ => LoopAtV _ _ _ _ _ _ _ _ _ it s₂) _ _) | (with_reducible show wpAny _ _ (eval (PySem.Expr.ListComp _ _ _ _) _) _ _ _) | (with_reducible show wpAny _ _ (exec (Stmt.Assign _ (PySem.Expr.ListComp _ _ _ _) _) _) _ _ _) | (with_reducible show SrcRS _ _ _ _ _ _ _ _ _ _ _ _ _ _ _) | (with_reducible show LCg.CompSrc _ _ _ _ _ _ _ _ _ _ _ _ _ _) | (with_reducible show LCt.CompSrcT _ _ _ _ _ _ _ _ _ _ _ _ _ _ _) | (with_reducible show LCg.CompEnd _ _ _ _ _ _ _ _ _ _ _ _ _ _)); first | ((with_reducible show _ ∧ _); with_reducible (k_extra "own And")) | ((with_reducible show wpAny _ _ (binaryOp Operator.Add (Value.bytes _ _) (Value.bytes _ _)) _ _ _); with_reducible (k_extra "own binaryOp Add bytes bytes")) | ((with_reducible show wpAny _ _ (binaryOp Operator.Add (Value.ref _) (Value.ref _)) _ _ _); with_reducible (k_extra "own binaryOp Add ref ref")) | ((with_reducible show wpAny _ _ (binaryOp Operator.Mod (Value.str _ _) (Value.ref _)) _ _ _); with_reducible (k_extra "own binaryOp Mod str ref")) | ((with_reducible show wpAny _ _ (binaryOp Operator.RShift _ _) _ _ _); with_reducible (k_extra "own binaryOp RShift int int")) | ((with_reducible show wpAny _ _ (eval (PySem.Expr.Name _ _) _) _ _ _); with_reducible (k_extra "own eval Name")) | ((with_reducible show wpAny _ _ (exec (Stmt.Raise _ _ _) _) _ _ _); with_reducible (k_extra "own exec Raise some none")) | ((with_reducible show wpAny _ _ (getMethod (Value.bytes _ _) _ _) _ _ _); with_reducible (k_extra "own getMethod bytes")) | ((with_reducible show wpAny _ _ (getMethod (Value.ref _) _ _) _ _ _); with_reducible (k_extra "own getMethod ref")) | ((with_reducible show wpAny _ _ (getMethod (Value.str _ _) _ _) _ _ _); with_reducible (k_extra "own getMethod str")) | ((with_reducible show wpAny _ _ (leaving _ _) _ _ _); k_extra "own leaving ref") | ((with_reducible show wpAny _ _ (subscriptTail _ (PySem.Expr.Slice _ _ _ _) (Value.ref _) _) _ _ _); with_reducible (k_extra "own subscriptTail Name Slice ref ref")) | ((with_reducible show wpAny _ _ (truthy (Value.ref _)) _ _ _); with_reducible (k_extra "own truthy ref")) | walk1 | (dsimp only; walk1) | (leave1; walk_say "STEP leave1"; try dsimp only) | fail "no step")))
  trivial
section
open PyProof.Rows.LCg PyProof.Rows.LCt
theorem off_lt_r {l : Addr} : ∀ {rest : List (Addr × Obj)}, AllLt l rest → ∀ q ∈ rest, @LT.lt Nat _ q.1 l
  | [], _, _, h => nomatch h
  | _ :: _, h, _, hq => by
    rcases List.mem_cons.mp hq with e | e
    · rw [e]; exact h.1
    · exact off_lt_r h.2 _ e
theorem news_tw {h₀ h : Heap} {L : Addr} {a p t : Addr × Obj} {l : List (Addr × Obj)} (N : News h₀ L h (a :: p :: t :: l)) : News h₀ L h (t :: a :: p :: l) := fun q hq => N q (by
  revert q; repeat' (first | with_reducible refine List.forall_mem_cons.mpr ⟨?_, ?_⟩ | (intro _ hS9; (repeat (first | with_reducible exact hS9 | with_reducible refine List.mem_cons_of_mem _ ?_)); done) | with_reducible refine List.forall_mem_append.mpr ⟨?_, ?_⟩ | ((repeat (first | with_reducible exact List.mem_cons_self | with_reducible refine List.mem_cons_of_mem _ ?_)); done) | with_reducible exact fun _ h => absurd h List.not_mem_nil))
theorem name_it {a : Addr} {p : Addr → Prop} (h : p a) : ∃ x, x = a ∧ p x := ⟨a, rfl, h⟩
theorem pack2 {h₀ h : Heap} {L D Nn P ri : Addr} {o po od ot ro : Obj} {rest own : List (Addr × Obj)} (N : News h₀ L h ((D, od) :: (224, ot) :: ((Nn, o) :: (P, po) :: rest ++ own))) (mem : (ri, ro) ∈ rest) :
    ∃ R, News h₀ L h ((D, od) :: (224, ot) :: R) ∧ (Nn, o) ∈ R ∧ (P, po) ∈ R ∧ (ri, ro) ∈ R ∧ (∀ q ∈ own, q ∈ R) ∧ (∀ q ∈ rest, q ∈ R) :=
  ⟨_, N, .head _, .tail _ (.head _), .tail _ (.tail _ (List.mem_append_left _ mem)), fun q hq => .tail _ (.tail _ (List.mem_append_right _ hq)), fun q hq => .tail _ (.tail _ (List.mem_append_left _ hq))⟩
theorem row2 {body fb : List Stmt} {scope : Scope} (hdef : lawSt = some (body, scope)) (hfb : forBody body = some fb) (w : World) (ys : List Str) (vs : List Value) (ri : Addr) (nn : Nat) (lo : List Str) (mean : ExcName → Option Value) (mg mb : Str → Option Value) (base : Heap) (L a : Addr) (ccd : Value) (s : Shared) (m : Str → Option Value)
    (P : Addr) (pv : List Value) (pn : Nat) (tab : Obj) (rest cds : List (Addr × Obj)) (b : Array UInt8) (t : Tok) (hb : KBw.bInts b = octK ys) (hr : StrsAre vs ys) (mem : (ri, listOf vs.toArray nn) ∈ rest) (hy : ∀ y ∈ ys, y ∈ five) (hn : 2 ≤ ys.length) (hn9 : ys.length ≤ 9) (hT : TabAny w tab cds) (hc : ∀ q ∈ cds, q ∈ rest) (o1 : ∀ q ∈ rest, q.1 ≠ 224) (o2 : ∀ q ∈ rest, q.1 ≠ P) (o3 : @Ne Nat P 224) (l0 : @LT.lt Nat _ 224 L)
    (B : Below callerA base [] base) (X : (frag w.params).In base) (T : Top topProg lo mean mg mb base) (C : CodeHd base 228 224) (F : Fr base L s.heap (fun y => if y = Str.ofString "octets" then some (.bytes b t) else if y = Str.ofString "popped" then some (.ref P) else if y = Str.ofString "row" then some (.ref ri) else m y))
    (N : News base L s.heap ((P, listOf pv.toArray pn) :: (224, tab) :: rest)) (Q : Flow → Shared → Prop) (E : Value → Shared → Prop)
    (hret : ∀ (Nn : Addr) (tn : Tok) (tab' : Obj) (cds' rest' : List (Addr × Obj)) (tk : Nat) (h' : Heap), (Nn, listOf #[.str (Str.ofString "not enough data in stream to read uint1") tn] 0) ∈ rest' → TabAny w tab' cds' → (∀ q ∈ cds', q ∈ rest') → (∃ new, rest' = rest ++ new ∧ (∀ q ∈ new, ∀ p ∈ rest, q.1 ≠ p.1) ∧ ∀ q ∈ cds', q ∈ cds ++ new) → (∀ q ∈ rest', q.1 ≠ 224) → (∀ q ∈ rest', q.1 ≠ P) →
      Fr base L h' (fun y => if y = Str.ofString "none" then some (.ref Nn) else if y = Str.ofString "octets" then some (.bytes b t) else if y = Str.ofString "popped" then some (.ref P) else if y = Str.ofString "row" then some (.ref ri) else m y) →
      News base L h' ((P, listOf pv.toArray pn) :: (224, tab') :: rest') → wpAny (model PySem.Challenge.rw_in0117_01.prog w) (lawA L a ccd scope) (execs (fb.drop 3) (envX (Str.ofString "law") scope L a ccd (lawC L))) Q E { s with heap := h', toks := tk }) :
    wpAny (model PySem.Challenge.rw_in0117_01.prog w) (lawA L a ccd scope) (execs (fb.drop 1) (envX (Str.ofString "law") scope L a ccd (lawC L))) Q E s := by
  cases hdef
  cases hfb
  (show wpAny _ _ (execs (_ :: _) _) _ _ _)
  (revert X; k_fill; intro X)
  k_extra "unf"
  (rename Fr _ _ _ _ => e1); (rename News _ _ _ _ => e2); (rename P < _ ∧ _ => z1)
  obtain ⟨Nn, hE, z2, z3, z4⟩ := name_it (p := fun x => @LT.lt Nat _ P x ∧ @LT.lt Nat _ 224 x ∧ AllLt x rest) z1
  subst hE
  have z5 := off_lt_r z4
  have N2 := news_tw e2
  have hl : (octK ys ++ []).length ≤ 16777216 := by
    have := octK_length ys (fun y h => five_len (hy y h))
    rw [List.append_nil]
    omega (splitDisjunctions := true)
  refine call_useT0 (allS_ok w b t (octK ys ++ []) (fun i => ys.getD i Str.empty) (by rw [List.append_nil]; exact hb) hl (fun i h => oct_hX rfl hy i h) ys.length _ tab _ cds hT (fun q hq => .tail _ (.tail _ (hc q hq))) ?hr hn9) B e1 X N2 T C rfl ?hd ?hu ?_
  case hr =>
    refine List.forall_mem_cons.mpr ⟨?_, List.forall_mem_cons.mpr ⟨o3, o1⟩⟩
    show @Ne Nat _ 224
    omega (splitDisjunctions := true)
  case hd => ktr_room
  case hu => ktr_units
  rintro r9 led9 h9 tk9 ⟨tab', cds', D, ys9, own, rfl, hl9, hI, hT', rfl, hc', p1, p2, p3, p4⟩ F9 N9
  obtain ⟨R2, N9, mN, mP, mr, m5, m6⟩ := pack2 N9 mem
  clear e1 e2 N2
  (try dsimp only)
  (try k_fold)
  k_extra "unf"
  (rename Fr _ _ _ _ => e1); (rename News _ _ _ _ => e2)
  refine kmk_add_lit e1 e2 (e2.isList (.tail _ (.tail _ (.tail _ mr)))) (e2.isList (.head _)) rfl ?_ ?_
  · intro D' h' F' N' l1
    clear e1 e2
    k_extra "unf"
    refine ne_sameL N' (.tail _ (.tail _ (.head _))) (.head _) (ds := ys.map Dat.str ++ [Dat.list [Dat.str (Str.ofString "not enough data in stream to read uint1")]]) ((itemsS_dat (T := []) rfl hI hl9).mono fun q hq => .tail _ (.tail _ (.tail _ (.tail _ (m5 q hq))))) ((strsAre_dat hr).append (.one (.list (.tail _ (.tail _ (.tail _ (.tail _ mN)))) (.cons (.str _ _) .nil)))) ?_ ?_
    · rw [depL_msg (fun _ => rfl)]
      ktr_units
    · repeat' ((fail_if_success (with_reducible show wpAny _ _ (execs (_ :: _) _) _ _ _)); (first | (k_unfold; (try dsimp only)) | walk1 | (dsimp only; walk1) | (leave1; (try dsimp only))))
      refine hret Nn s.toks tab' cds' (rest ++ ((Nn, listOf #[.str (Str.ofString "not enough data in stream to read uint1") s.toks] 0) :: own)) _ _ (List.mem_append_right _ (.head _)) (tabS_any hT') ?_ ⟨_, rfl, List.forall_mem_cons.mpr ⟨fun p hp => ?_, fun q hq p hp => p4 q hq p (.tail _ (.tail _ hp))⟩, fun q hq => ?_⟩ ?_ ?_ F' (fun q hq => N' q ?_)
      · intro q hq
        rcases List.mem_append.mp (hc' q hq) with h9 | h9
        · exact List.mem_append_left _ (hc q h9)
        · exact List.mem_append_right _ (.tail _ h9)
      · have := z5 p hp
        show @Ne Nat Nn p.1
        omega (splitDisjunctions := true)
      · rcases List.mem_append.mp (hc' q hq) with h9 | h9
        · exact List.mem_append_left _ h9
        · exact List.mem_append_right _ (.tail _ h9)
      · refine List.forall_mem_append.mpr ⟨o1, List.forall_mem_cons.mpr ⟨p1 _ (.head _), fun q hq => p1 q (List.mem_append_right _ hq)⟩⟩
      · refine List.forall_mem_append.mpr ⟨o2, List.forall_mem_cons.mpr ⟨?_, fun q hq => p4 q hq (P, _) (.tail _ (.head _))⟩⟩
        show @Ne Nat _ P
        omega (splitDisjunctions := true)
      · rcases List.mem_cons.mp hq with h9 | hq
        · rw [h9]; exact .tail _ (.tail _ (.tail _ (.tail _ mP)))
        rcases List.mem_cons.mp hq with h9 | hq
        · rw [h9]; exact .tail _ (.tail _ (.tail _ (.head _)))
        rcases List.mem_append.mp hq with hq | hq
        · exact .tail _ (.tail _ (.tail _ (.tail _ (m6 q hq))))
        rcases List.mem_cons.mp hq with h9 | hq
        · rw [h9]; exact .tail _ (.tail _ (.tail _ (.tail _ mN)))
        · exact .tail _ (.tail _ (.tail _ (.tail _ (m5 q hq))))
  · show vs.length + 1 ≤ _
    rw [hr.length]
    unfold sizeLine
    omega (splitDisjunctions := true)
end
section
open PyProof.Rows.LCg PyProof.Rows.LCt
theorem pack3 {h₀ h : Heap} {L D P ri Nn : Addr} {po od ot ro no : Obj} {rest own : List (Addr × Obj)} (N : News h₀ L h ((D, od) :: (224, ot) :: ((P, po) :: rest ++ own))) (mem : (ri, ro) ∈ rest) (memN : (Nn, no) ∈ rest) :
    ∃ R, News h₀ L h ((D, od) :: (224, ot) :: R) ∧ (P, po) ∈ R ∧ (ri, ro) ∈ R ∧ (Nn, no) ∈ R ∧ (∀ q ∈ own, q ∈ R) ∧ (∀ q ∈ rest, q ∈ R) ∧ (∀ x, AllLt x R → ∀ q ∈ R, @LT.lt Nat _ q.1 x) :=
  ⟨_, N, .head _, .tail _ (List.mem_append_left _ mem), .tail _ (List.mem_append_left _ memN), fun q hq => .tail _ (List.mem_append_right _ hq), fun q hq => .tail _ (List.mem_append_left _ hq), fun x h => off_lt_r h⟩
theorem dat_step {ys : List Str} {i : Nat} {x : Str} {vs : List Value} {b : Array UInt8} {t : Tok} {own : List (Addr × Obj)} (hi : i < ys.length) (h : ys.getD i Str.empty = x) (hx : x ∈ five) (hB : KBw.bInts b = codes x) (D : DatAll own vs ((ys.take i).map fun z => Dat.bytes (encB z))) :
    DatAll own (vs ++ [.bytes b t]) ((ys.take (i + 1)).map fun z => Dat.bytes (encB z)) := by
  rw [List.take_succ_eq_append_getElem hi, List.map_append]
  have : ys[i] = x := by rw [← h, List.getD_eq_getElem?_getD, List.getElem?_eq_getElem hi]; rfl
  rw [this, encB_of hx hB]
  exact D.append (.one (.bytes _ _))
theorem row3 {body fb : List Stmt} {scope : Scope} (hdef : lawSt = some (body, scope)) (hfb : forBody body = some fb) (w : World) (ys : List Str) (vs : List Value) (ri : Addr) (nn : Nat) (lo : List Str) (mean : ExcName → Option Value) (mg mb : Str → Option Value) (base : Heap) (L a : Addr) (ccd : Value) (s : Shared) (m : Str → Option Value)
    (P : Addr) (pv : List Value) (pn : Nat) (tab : Obj) (rest cds : List (Addr × Obj)) (b : Array UInt8) (t : Tok) (Nn : Addr) (tn : Tok) (memN : (Nn, listOf #[.str (Str.ofString "not enough data in stream to read uint1") tn] 0) ∈ rest) (hb : KBw.bInts b = octK ys) (hr : StrsAre vs ys) (mem : (ri, listOf vs.toArray nn) ∈ rest) (hy : ∀ y ∈ ys, y ∈ five) (hn : 2 ≤ ys.length) (hn9 : ys.length ≤ 9) (hT : TabAny w tab cds) (hc : ∀ q ∈ cds, q ∈ rest) (o1 : ∀ q ∈ rest, q.1 ≠ 224) (o2 : ∀ q ∈ rest, q.1 ≠ P) (o3 : @Ne Nat P 224) (l0 : @LT.lt Nat _ 224 L)
    (B : Below callerA base [] base) (X : (frag w.params).In base) (T : Top topProg lo mean mg mb base) (C : CodeHd base 228 224) (F : Fr base L s.heap (fun y => if y = Str.ofString "none" then some (.ref Nn) else if y = Str.ofString "octets" then some (.bytes b t) else if y = Str.ofString "popped" then some (.ref P) else if y = Str.ofString "row" then some (.ref ri) else m y))
    (N : News base L s.heap ((P, listOf pv.toArray pn) :: (224, tab) :: rest)) (Q : Flow → Shared → Prop) (E : Value → Shared → Prop)
    (hret : ∀ (tab' : Obj) (cds' rest' : List (Addr × Obj)) (tk : Nat) (h' : Heap), TabAny w tab' cds' → (∀ q ∈ cds', q ∈ rest') → (∃ new, rest' = rest ++ new ∧ (∀ q ∈ new, ∀ p ∈ rest, q.1 ≠ p.1) ∧ ∀ q ∈ cds', q ∈ cds ++ new) → (∀ q ∈ rest', q.1 ≠ 224) → (∀ q ∈ rest', q.1 ≠ P) →
      Fr base L h' (fun y => if y = Str.ofString "none" then some (.ref Nn) else if y = Str.ofString "octets" then some (.bytes b t) else if y = Str.ofString "popped" then some (.ref P) else if y = Str.ofString "row" then some (.ref ri) else m y) →
      News base L h' ((P, listOf pv.toArray pn) :: (224, tab') :: rest') → wpAny (model PySem.Challenge.rw_in0117_01.prog w) (lawA L a ccd scope) (execs (fb.drop 4) (envX (Str.ofString "law") scope L a ccd (lawC L))) Q E { s with heap := h', toks := tk }) :
    wpAny (model PySem.Challenge.rw_in0117_01.prog w) (lawA L a ccd scope) (execs (fb.drop 3) (envX (Str.ofString "law") scope L a ccd (lawC L))) Q E s := by
  cases hdef
  cases hfb
  (show wpAny _ _ (execs (_ :: _) _) _ _ _)
  (revert X; k_fill; intro X)
  k_extra "unf"
  (rename Fr _ _ _ _ => e1); (rename News _ _ _ _ => e2)
  have N2 := news_swap e2
  have hl : (octK ys).length ≤ 16777216 := by
    have := octK_length ys (fun y h => five_len (hy y h))
    omega (splitDisjunctions := true)
  refine call_useT0 (allB_ok w b t (octK ys) hb hl (fun i h => oct_hB i h) ys.length _ tab _ cds hT (fun q hq => .tail _ (hc q hq)) ?hr hn9) B e1 X N2 T C rfl ?hd ?hu ?_
  case hr => exact List.forall_mem_cons.mpr ⟨o3, o1⟩
  case hd => ktr_room
  case hu => ktr_units
  rintro r9 led9 h9 tk9 ⟨tab', cds', D, ys9, own, rfl, hl9, hI, hT', rfl, hc', p1, p2, p3, p4⟩ F9 N9
  obtain ⟨R2, N9, mP, mr, mN, m5, m6, m7⟩ := pack3 N9 mem memN
  clear e1 e2 N2
  (try dsimp only)
  (try k_fold)
  k_extra "unf"
  k_dflt (refine LCg.ListComp_U (F₀ := by k_asm) (by rfl) (by decide) (by rfl) (by decide) (by rfl) ?_)
  k_extra "unf"
  (rename Fr _ _ _ _ => lF); (rename News _ _ _ _ => lN)
  refine LCg.CompSrc.ledger (by rfl) lF lN (by exact .tail _ (.tail _ mr)) (by rw [List.size_toArray, hr.length]; unfold sizeLine; omega (splitDisjunctions := true)) ?_
  intro g9
  refine comp_ind (J := fun i ys9 news => news = (_, _) :: (_, _) :: R2 ∧ DatAll [] ys9 ((ys.take i).map fun z => Dat.bytes (encB z))) ?_ ?_ _ 0 [] _ (Nat.zero_add _) ⟨rfl, .nil⟩
  · intro i ys9 news v I oI C9 oC D m₂ h tk E9 hi hJ hP hC hx9 F N o ne
    obtain ⟨rfl, e9⟩ := hJ
    obtain ⟨hi9, tv, rfl⟩ := sa_item hr (by simpa using hP)
    have hm9 : ys.getD i Str.empty ∈ five := hy _ (by rw [List.getD_eq_getElem?_getD, List.getElem?_eq_getElem hi9]; exact List.getElem_mem hi9)
    generalize hy9 : ys.getD i Str.empty = y9 at *
    clear lF lN
    (try dsimp only)
    (try k_fold)
    k_extra "unf"
    (rename Fr _ _ _ _ => e1); (rename News _ _ _ _ => e2); (rename KBw.bInts _ = codes _ => hB9)
    exact CompEnd.intro e1 e2 ((_, _) :: (_, _) :: R2) (fun q hq => hq) o (.inr ⟨_, .tail _ (.tail _ mr), rfl, _, rfl⟩) ⟨rfl, dat_step hi9 hy9 hm9 hB9 e9⟩
  rintro ys8 news ⟨rfl, e8⟩
  rw [List.size_toArray, hr.length, List.take_length] at e8
  clear lF lN
  k_extra "unf"
  (rename Fr _ _ _ _ => e1); (rename News _ _ _ _ => e2)
  refine kmk_add_lit e1 e2 (e2.isList (.tail _ (.head _))) (e2.isList (.head _)) rfl ?_ ?_
  · intro D' h' F' N' l1
    clear e1 e2
    k_extra "unf"
    refine ne_sameL N' (.tail _ (.tail _ (.tail _ (.head _)))) (.head _) (ds := ys.map (fun z => Dat.bytes (encB z)) ++ [Dat.list [Dat.str (Str.ofString "not enough data in stream to read uint1")]]) ((itemsB_dat hy hI hl9).mono fun q hq => .tail _ (.tail _ (.tail _ (.tail _ (.tail _ (m5 q hq)))))) ((e8.mono fun _ h => absurd h List.not_mem_nil).append (.one (.list (.tail _ (.tail _ (.tail _ (.tail _ (.tail _ mN))))) (.cons (.str _ _) .nil)))) ?_ ?_
    · rw [depL_msg (fun _ => rfl)]
      ktr_units
    · repeat' ((fail_if_success (with_reducible show wpAny _ _ (execs (_ :: _) _) _ _ _)); (first | (k_unfold; (try dsimp only)) | walk1 | (dsimp only; walk1) | (leave1; (try dsimp only))))
      refine hret tab' cds' (rest ++ own) _ _ (tabS_any hT') ?_ ⟨own, rfl, fun q hq p hp => p4 q hq p (.tail _ hp), hc'⟩ ?_ ?_ F' (fun q hq => N' q ?_)
      · intro q hq
        rcases List.mem_append.mp (hc' q hq) with h9 | h9
        · exact List.mem_append_left _ (hc q h9)
        · exact List.mem_append_right _ h9
      · exact List.forall_mem_append.mpr ⟨o1, fun q hq => p1 q (List.mem_append_right _ hq)⟩
      · exact List.forall_mem_append.mpr ⟨o2, fun q hq => p4 q hq (P, _) (.head _)⟩
      · rcases List.mem_cons.mp hq with h9 | hq
        · rw [h9]; exact .tail _ (.tail _ (.tail _ (.tail _ (.tail _ mP))))
        rcases List.mem_cons.mp hq with h9 | hq
        · rw [h9]; exact .tail _ (.tail _ (.tail _ (.tail _ (.head _))))
        rcases List.mem_append.mp hq with hq | hq
        · exact .tail _ (.tail _ (.tail _ (.tail _ (.tail _ (m6 q hq)))))
        · exact .tail _ (.tail _ (.tail _ (.tail _ (.tail _ (m5 q hq)))))
  · have := e8.length
    rw [List.length_map] at this
    show ys8.length + 1 ≤ _
    rw [this]
    unfold sizeLine
    omega (splitDisjunctions := true)
end
section
open PyProof.Rows.LCg PyProof.Rows.LCt
theorem seq_last (n : Nat) : seqIndex? (-1) (n + 1) = some n := by
  simp only [seqIndex?, show ((-1 : Int) < 0) = True from eq_true (by decide), if_true]
  rw [if_pos (by rw [Bool.and_eq_true, decide_eq_true_eq, decide_eq_true_eq]; omega (splitDisjunctions := true))]
  congr 1
  omega (splitDisjunctions := true)
theorem sa_last {vs : List Value} {zs : List Str} {z : Str} (h : StrsAre vs (zs ++ [z])) : ∃ t, seqIndex? (-1) vs.length = some zs.length ∧ vs[zs.length]? = some (.str z t) := by
  obtain ⟨t, e⟩ := sa_getD h (j := zs.length) (by simp)
  refine ⟨t, ?_, ?_⟩
  · rw [h.length, List.length_append, List.length_singleton, seq_last]
  · rw [e]
    simp [List.getD_eq_getElem?_getD]
theorem clip_last (n : Nat) : clipAt n (-1) = n - 1 := by
  unfold clipAt
  omega (splitDisjunctions := true)
theorem dat_last {own : List (Addr × Obj)} {vs : List Value} {zs : List Str} {d : Str} (h : DatAll own vs (zs.map Dat.str ++ [Dat.list [Dat.str d]])) : ∃ D us n, seqIndex? (-1) vs.length = some zs.length ∧ vs[zs.length]? = some (.ref D) ∧ (D, listOf (List.toArray us) n) ∈ own ∧ DatAll own us [Dat.str d] := by
  obtain ⟨v, e, hv⟩ := h.get (k := zs.length) (by simp)
  have el : (zs.map Dat.str ++ [Dat.list [Dat.str d]])[zs.length]'(by simp) = Dat.list [Dat.str d] := by simp
  rw [el] at hv
  cases hv with
  | list m a =>
    refine ⟨_, _, _, ?_, e, m, a⟩
    rw [h.length, List.length_append, List.length_map, List.length_singleton, seq_last]
theorem row4 {body fb : List Stmt} {scope : Scope} (hdef : lawSt = some (body, scope)) (hfb : forBody body = some fb) (w : World) (ys : List Str) (vs : List Value) (ri : Addr) (nn : Nat) (lo : List Str) (mean : ExcName → Option Value) (mg mb : Str → Option Value) (base : Heap) (L a : Addr) (ccd : Value) (s : Shared) (m : Str → Option Value)
    (P : Addr) (pv : List Value) (pn : Nat) (tab : Obj) (rest cds : List (Addr × Obj)) (b : Array UInt8) (t : Tok) (Nn : Addr) (tn : Tok) (memN : (Nn, listOf #[.str (Str.ofString "not enough data in stream to read uint1") tn] 0) ∈ rest) (hb : KBw.bInts b = octK ys) (zs : List Str) (z : Str) (hyz : ys = zs ++ [z]) (hz : 0 < z.length) (hr : StrsAre vs ys) (mem : (ri, listOf vs.toArray nn) ∈ rest) (hy : ∀ y ∈ ys, y ∈ five) (hn : 2 ≤ ys.length) (hn9 : ys.length ≤ 9) (hT : TabAny w tab cds) (hc : ∀ q ∈ cds, q ∈ rest) (o1 : ∀ q ∈ rest, q.1 ≠ 224) (o2 : ∀ q ∈ rest, q.1 ≠ P) (o3 : @Ne Nat P 224) (l0 : @LT.lt Nat _ 224 L)
    (B : Below callerA base [] base) (X : (frag w.params).In base) (T : Top topProg lo mean mg mb base) (C : CodeHd base 228 224) (F : Fr base L s.heap (fun y => if y = Str.ofString "none" then some (.ref Nn) else if y = Str.ofString "octets" then some (.bytes b t) else if y = Str.ofString "popped" then some (.ref P) else if y = Str.ofString "row" then some (.ref ri) else m y))
    (N : News base L s.heap ((P, listOf pv.toArray pn) :: (224, tab) :: rest)) (Q : Flow → Shared → Prop) (E : Value → Shared → Prop)
    (hret : ∀ (tab' : Obj) (cds' rest' : List (Addr × Obj)) (tk : Nat) (h' : Heap), TabAny w tab' cds' → (∀ q ∈ cds', q ∈ rest') → (∃ new, rest' = rest ++ new ∧ (∀ q ∈ new, ∀ p ∈ rest, q.1 ≠ p.1) ∧ ∀ q ∈ cds', q ∈ cds ++ new) → (∀ q ∈ rest', q.1 ≠ 224) → (∀ q ∈ rest', q.1 ≠ P) →
      ∀ m' : Str → Option Value, Fr base L h' m' → m' (Str.ofString "popped") = some (.ref P) → m' (Str.ofString "row") = some (.ref ri) → (∀ y, y ∉ [Str.ofString "words", Str.ofString "last", Str.ofString "none", Str.ofString "octets", Str.ofString "popped", Str.ofString "row"] → m' y = m y) →
      News base L h' ((P, listOf pv.toArray pn) :: (224, tab') :: rest') → wpAny (model PySem.Challenge.rw_in0117_01.prog w) (lawA L a ccd scope) (execs (fb.drop 7) (envX (Str.ofString "law") scope L a ccd (lawC L))) Q E { s with heap := h', toks := tk }) :
    wpAny (model PySem.Challenge.rw_in0117_01.prog w) (lawA L a ccd scope) (execs (fb.drop 4) (envX (Str.ofString "law") scope L a ccd (lawC L))) Q E s := by
  cases hdef
  cases hfb
  (show wpAny _ _ (execs (_ :: _) _) _ _ _)
  (revert X; k_fill; intro X)
  subst hyz
  obtain ⟨tz, q1, q2⟩ := sa_last hr
  k_extra "unf"
  (rename News _ _ _ _ => e2)
  have hz9 : z.length ≤ 3 := five_len (hy z (List.mem_append_right _ (.head _)))
  have hl : (octK (zs ++ [z])).length ≤ 16777216 := by
    have := octK_length (zs ++ [z]) (fun y h => five_len (hy y h))
    omega (splitDisjunctions := true)
  have hz8 : (0 : Int) ≤ (z.length : Int) := by omega (splitDisjunctions := true)
  refine kde_neg (e2.isList (.tail _ (.tail _ mem))) (by decide) (by decide) q1 q2 ?_
  k_extra "unf"
  (rename Fr _ _ _ _ => e1); (rename News _ _ _ _ => e2); (rename KBw.bInts (KBy.picked _ _ _) = _ => e3)
  rw [clip_last, ← List.dropLast_eq_take, oct_cut zs hz] at e3
  have N2 := news_swap e2
  have e5 : (((zs ++ [z]).length : Nat) : Int) - 1 = ((zs.length : Nat) : Int) := by
    rw [List.length_append, List.length_singleton]
    omega (splitDisjunctions := true)
  rw [e5]
  have hl2 : (octK zs ++ ((z.length : Int) :: (codes z).dropLast)).length ≤ 16777216 := by
    rw [← oct_cut zs hz, List.length_dropLast]
    omega (splitDisjunctions := true)
  have hn8 : zs.length ≤ 9 := by
    rw [List.length_append, List.length_singleton] at hn9
    omega (splitDisjunctions := true)
  refine call_useT0 (allS_ok w _ _ (octK zs ++ ((z.length : Int) :: (codes z).dropLast)) (fun i => zs.getD i Str.empty) e3 hl2 (fun i h => oct_hX (cut_ok hz) (fun y h9 => hy y (List.mem_append_left _ h9)) i h) zs.length _ tab _ cds hT (fun q hq => .tail _ (hc q hq)) ?hr hn8) B e1 X N2 T C rfl ?hd ?hu ?_
  case hr => exact List.forall_mem_cons.mpr ⟨o3, o1⟩
  case hd => ktr_room
  case hu => ktr_units
  rintro r9 led9 h9 tk9 ⟨tab', cds', D, ys9, own, rfl, hl9, hI, hT', rfl, hc', p1, p2, p3, p4⟩ F9 N9
  have hD := itemsS_dat (cut_ok hz) hI hl9
  have e7 : ((z.length - 1 : Nat) : Int) = (z.length : Int) - 1 := by omega (splitDisjunctions := true)
  rw [cut_msg, e7] at hD
  obtain ⟨Dm, us, um, k1, k2, k3, k4⟩ := dat_last hD
  obtain ⟨R2, N8, mP, mr, mN, m5, m6, m7⟩ := pack3 N9 mem memN
  clear e2 N2 N9
  (try dsimp only)
  (try k_fold)
  k_extra "unf"
  (rename News _ _ _ _ => e2)
  refine kde_neg (e2.isList (.head _)) (by decide) (by decide) k1 k2 ?_
  k_extra "unf"
  (rename Fr _ _ _ _ => e1); (rename News _ _ _ _ => e2)
  refine ne_sameL e2 (.tail _ (.tail _ (.tail _ (m5 _ k3)))) (.head _) (ds := [Dat.str (shortMsg (z.length : Int) ((z.length : Int) - 1))]) (k4.mono fun q hq => .tail _ (.tail _ (.tail _ (m5 q hq)))) (.one (.str _ _)) ?_ ?_
  · show _ + 1 + 0 < _
    ktr_units
  · repeat' ((fail_if_success (with_reducible show wpAny _ _ (execs (_ :: _) _) _ _ _)); (first | (k_unfold; (try dsimp only)) | walk1 | (dsimp only; walk1) | (leave1; (try dsimp only))))
    refine hret tab' cds' (rest ++ own) _ _ (tabS_any hT') ?_ ⟨own, rfl, fun q hq p hp => p4 q hq p (.tail _ hp), hc'⟩ ?_ ?_ _ e1 rfl rfl ?_ (fun q hq => e2 q ?_)
    · intro q hq
      rcases List.mem_append.mp (hc' q hq) with h9 | h9
      · exact List.mem_append_left _ (hc q h9)
      · exact List.mem_append_right _ h9
    · exact List.forall_mem_append.mpr ⟨o1, fun q hq => p1 q (List.mem_append_right _ hq)⟩
    · exact List.forall_mem_append.mpr ⟨o2, fun q hq => p4 q hq (P, _) (.head _)⟩
    · intro y hy
      simp only [List.mem_cons, List.not_mem_nil, or_false, not_or] at hy
      obtain ⟨y1, y2, y3, y4, y5, y6⟩ := hy
      (try dsimp only)
      rw [if_neg y1, if_neg y2, if_neg y3, if_neg y4, if_neg y5, if_neg y6]
    · rcases List.mem_cons.mp hq with h9 | hq
      · rw [h9]; exact .tail _ (.tail _ (.tail _ mP))
      rcases List.mem_cons.mp hq with h9 | hq
      · rw [h9]; exact .tail _ (.tail _ (.head _))
      rcases List.mem_append.mp hq with hq | hq
      · exact .tail _ (.tail _ (.tail _ (m6 q hq)))
      · exact .tail _ (.tail _ (.tail _ (m5 q hq)))
end
section
open PyProof.Rows.LCg PyProof.Rows.LCt
theorem mset2 {m : Str → Option Value} {x z : Str} {u v : Value} (h : m x = some u) (k : m z = some v) : (fun y => if y = x then some u else if y = z then some v else m y) = m := by
  funext y
  by_cases e : y = x
  · rw [if_pos e, e, h]
  · rw [if_neg e]
    by_cases e : y = z
    · rw [if_pos e, e, k]
    · rw [if_neg e]
theorem row5 {body fb : List Stmt} {scope : Scope} (hdef : lawSt = some (body, scope)) (hfb : forBody body = some fb) (w : World) (ys : List Str) (vs : List Value) (ri : Addr) (nn : Nat) (lo : List Str) (mean : ExcName → Option Value) (mg mb : Str → Option Value) (base : Heap) (L a : Addr) (ccd : Value) (s : Shared) (m : Str → Option Value)
    (P : Addr) (pv : List Value) (pn : Nat) (tab : Obj) (rest : List (Addr × Obj)) (hr : StrsAre vs ys) (mem : (ri, listOf vs.toArray nn) ∈ rest) (hn9 : ys.length ≤ 9) (hp9 : pv.length ≤ 9) (o2 : ∀ q ∈ rest, q.1 ≠ P) (o3 : @Ne Nat P 224)
    (B : Below callerA base [] base) (X : (frag w.params).In base) (T : Top topProg lo mean mg mb base) (F : Fr base L s.heap m) (hmr : m (Str.ofString "row") = some (.ref ri)) (hmp : m (Str.ofString "popped") = some (.ref P))
    (N : News base L s.heap ((P, listOf pv.toArray pn) :: (224, tab) :: rest)) (Q : Flow → Shared → Prop) (E : Value → Shared → Prop)
    (hret : ∀ (D : Addr) (ws : List Value) (k : Nat) (tk : Nat) (h' : Heap), StrsAre ws (popN ys.length (pushAll ys)) → Fr base L h' m → (∀ q ∈ (P, listOf pv.toArray pn) :: (224, tab) :: rest, q.1 ≠ D) →
      News base L h' ((P, listOf (pv ++ [Value.ref D]).toArray (pn + 1)) :: (D, listOf ws.toArray k) :: (224, tab) :: rest) → Q .next { s with heap := h', toks := tk }) :
    wpAny (model PySem.Challenge.rw_in0117_01.prog w) (lawA L a ccd scope) (execs (fb.drop 7) (envX (Str.ofString "law") scope L a ccd (lawC L))) Q E s := by
  have hmr' := hmr
  rw [mset hmp] at hmr
  rw [mset hmp, mset hmr] at F
  dsimp only at F
  cases hdef
  cases hfb
  (show wpAny _ _ (execs (_ :: _) _) _ _ _)
  (revert X; k_fill; intro X)
  k_extra "unf"
  (rename Fr base _ _ (fun _ => _) => e1); (rename News _ _ _ _ => e2)
  refine call_use (popped_ok w ri vs ys nn _ hr (by omega (splitDisjunctions := true)) (.tail _ (.tail _ mem))) B e1 X e2 T rfl ?hd ?hu ?_
  case hd => ktr_room
  case hu => ktr_units
  rintro r9 led9 h9 tk9 ⟨D, ws, k, rfl, hws, rfl, hoff⟩ F9 N9
  clear e1 e2
  have q1 : @Ne Nat D P := (hoff _ (.head _)).symm
  have q2 : @Ne Nat 224 P := o3.symm
  (try dsimp only)
  (try k_fold)
  k_extra "unf"
  (rename Fr base _ _ (fun _ => _) => e1); (rename News _ _ _ _ => e2)
  rw [mset2 hmp hmr'] at e1
  have e3 := news_swap e2
  (try rw [show pv.toArray.push (Value.ref D) = (pv ++ [Value.ref D]).toArray by simp] at e3)
  exact hret D ws k _ _ hws e1 hoff e3
end
section
theorem row_ok {body fb : List Stmt} {scope : Scope} (hdef : lawSt = some (body, scope)) (hfb : forBody body = some fb) (w : World) (ys : List Str) (vs : List Value) (ri : Addr) (nn : Nat) (lo : List Str) (mean : ExcName → Option Value) (mg mb : Str → Option Value) (base : Heap) (L a : Addr) (ccd : Value) (s : Shared) (m : Str → Option Value)
    (P : Addr) (pv : List Value) (pn : Nat) (tab : Obj) (rest cds : List (Addr × Obj)) (zs : List Str) (z : Str) (hyz : ys = zs ++ [z]) (hz : 0 < z.length) (hr : StrsAre vs ys) (mem : (ri, listOf vs.toArray nn) ∈ rest) (hy : ∀ y ∈ ys, y ∈ five) (hn : 2 ≤ ys.length) (hn9 : ys.length ≤ 9) (hp9 : pv.length ≤ 9) (hT : TabAny w tab cds) (hc : ∀ q ∈ cds, q ∈ rest) (o1 : ∀ q ∈ rest, q.1 ≠ 224) (o2 : ∀ q ∈ rest, q.1 ≠ P) (o3 : @Ne Nat P 224) (l0 : @LT.lt Nat _ 224 L)
    (B : Below callerA base [] base) (X : (frag w.params).In base) (T : Top topProg lo mean mg mb base) (C : CodeHd base 228 224) (F : Fr base L s.heap m) (hmr : m (Str.ofString "row") = some (.ref ri)) (hmp : m (Str.ofString "popped") = some (.ref P))
    (N : News base L s.heap ((P, listOf pv.toArray pn) :: (224, tab) :: rest)) (Q : Flow → Shared → Prop) (E : Value → Shared → Prop)
    (hret : ∀ (D : Addr) (ws : List Value) (k : Nat) (tab' : Obj) (cds' rest' : List (Addr × Obj)) (tk : Nat) (h' : Heap) (m' : Str → Option Value), StrsAre ws (popN ys.length (pushAll ys)) → TabAny w tab' cds' → (∀ q ∈ cds', q ∈ rest') → (∃ new, rest' = rest ++ new ∧ (∀ q ∈ new, ∀ p ∈ rest, q.1 ≠ p.1) ∧ ∀ q ∈ cds', q ∈ cds ++ new) → (∀ q ∈ rest', q.1 ≠ 224) → (∀ q ∈ rest', q.1 ≠ P) → (∀ q ∈ (P, listOf pv.toArray pn) :: (224, tab') :: rest', q.1 ≠ D) →
      Fr base L h' m' → m' (Str.ofString "popped") = some (.ref P) → (∀ y, y ∉ [Str.ofString "words", Str.ofString "last", Str.ofString "none", Str.ofString "octets", Str.ofString "popped", Str.ofString "row"] → m' y = m y) →
      News base L h' ((P, listOf (pv ++ [Value.ref D]).toArray (pn + 1)) :: (D, listOf ws.toArray k) :: (224, tab') :: rest') → Q .next { s with heap := h', toks := tk }) :
    wpAny (model PySem.Challenge.rw_in0117_01.prog w) (lawA L a ccd scope) (execs fb (envX (Str.ofString "law") scope L a ccd (lawC L))) Q E s := by
  refine row1 hdef hfb w ys vs ri nn lo mean mg mb base L a ccd s m P pv pn tab rest hr mem hy hn hn9 B X T C F hmr hmp N Q E fun b t tk h1 hb F1 N1 => ?_
  refine row2 hdef hfb w ys vs ri nn lo mean mg mb base L a ccd { s with heap := h1, toks := tk } m P pv pn tab rest cds b t hb hr mem hy hn hn9 hT hc o1 o2 o3 l0 B X T C F1 N1 Q E fun Nn tn tab2 cds2 rest2 tk2 h2 memN T2 c2 k2 a2 b2 F2 N2 => ?_
  obtain ⟨n2, rfl, e2, g2⟩ := k2
  refine row3 hdef hfb w ys vs ri nn lo mean mg mb base L a ccd { s with heap := h2, toks := tk2 } m P pv pn tab2 _ cds2 b t Nn tn memN hb hr (List.mem_append_left _ mem) hy hn hn9 T2 c2 a2 b2 o3 l0 B X T C F2 N2 Q E fun tab3 cds3 rest3 tk3 h3 T3 c3 k3 a3 b3 F3 N3 => ?_
  obtain ⟨n3, rfl, e3, g3⟩ := k3
  refine row4 hdef hfb w ys vs ri nn lo mean mg mb base L a ccd { s with heap := h3, toks := tk3 } m P pv pn tab3 _ cds3 b t Nn tn (List.mem_append_left _ memN) hb zs z hyz hz hr (List.mem_append_left _ (List.mem_append_left _ mem)) hy hn hn9 T3 c3 a3 b3 o3 l0 B X T C F3 N3 Q E fun tab4 cds4 rest4 tk4 h4 T4 c4 k4 a4 b4 m4 F4 mp mr ms N4 => ?_
  obtain ⟨n4, rfl, e4, g4⟩ := k4
  refine row5 hdef hfb w ys vs ri nn lo mean mg mb base L a ccd { s with heap := h4, toks := tk4 } m4 P pv pn tab4 _ hr (List.mem_append_left _ (List.mem_append_left _ (List.mem_append_left _ mem))) hn9 hp9 b4 o3 B X T F4 mr mp N4 Q E fun D ws k tk5 h5 hws F5 hD N5 => ?_
  refine hret D ws k tab4 cds4 _ tk5 h5 m4 hws T4 c4 ⟨n2 ++ (n3 ++ n4), by simp only [List.append_assoc], ?_, fun q hq => ?_⟩ a4 b4 hD F5 mp ms N5
  · refine List.forall_mem_append.mpr ⟨e2, List.forall_mem_append.mpr ⟨fun q hq p hp => e3 q hq p (List.mem_append_left _ hp), fun q hq p hp => e4 q hq p (List.mem_append_left _ (List.mem_append_left _ hp))⟩⟩
  · rcases List.mem_append.mp (g4 q hq) with h9 | h9
    · rcases List.mem_append.mp (g3 q h9) with h9 | h9
      · rcases List.mem_append.mp (g2 q h9) with h9 | h9
        · exact List.mem_append_left _ h9
        · exact List.mem_append_right _ (List.mem_append_left _ h9)
      · exact List.mem_append_right _ (List.mem_append_right _ (List.mem_append_left _ h9))
    · exact List.mem_append_right _ (List.mem_append_right _ (List.mem_append_right _ h9))
end
section
open PyProof.Rows.LCg PyProof.Rows.LCt
structure St8 where
  pv : List Value
  pn : Nat
  tab : Obj
  own : List (Addr × Obj)
  cds : List (Addr × Obj)
noncomputable def PopAt (rows : List (List Str)) (own : List (Addr × Obj)) (pv : List Value) : Prop := ∀ j v, pv[j]? = some v → ∃ D ws k, v = Value.ref D ∧ (D, listOf (List.toArray ws) k) ∈ own ∧ StrsAre ws (popN (rows.getD j []).length (pushAll (rows.getD j [])))
structure Inv8 (w : World) (P : Addr) (rows : List (List Str)) (i : Nat) (c : St8) : Prop where
  len : c.pv.length = i
  tab : TabAny w c.tab c.cds
  cds : ∀ q ∈ c.cds, q ∈ c.own
  o1 : ∀ q ∈ c.own, q.1 ≠ 224
  o2 : ∀ q ∈ c.own, q.1 ≠ P
  pop : PopAt rows c.own c.pv
noncomputable abbrev rowNames : List Str := [Str.ofString "words", Str.ofString "last", Str.ofString "none", Str.ofString "octets"]
theorem law2 {body : List Stmt} {scope : Scope} (hdef : lawSt = some (body, scope)) (w : World) (xs : List Int) (sa : Addr) (lo : List Str) (mean : ExcName → Option Value) (mg mb : Str → Option Value) (base : Heap) (L a : Addr) (ccd : Value) (s : Shared)
    (o2 o3 : Obj) (B : Below callerA base [] base) (X : (frag w.params).In base) (T : Top topProg lo mean mg mb base) (C : CodeHd base 228 224) (R D1 D2 P : Addr) (d1 d2 : List Value) (hd1 : StrsAre d1 (rowA xs)) (hd2 : StrsAre d2 (rowB xs)) (l0 : @LT.lt Nat _ 224 L)
    (q1 : @Ne Nat P D1) (q2 : @Ne Nat P D2) (q3 : @Ne Nat P R) (q4 : @LT.lt Nat _ (L + 1 + 1 + 1) P) (q6 : @LT.lt Nat _ (L + 1 + 1 + 1) R) (q7 : @Ne Nat D1 (L + 1 + 1 + 1) ∧ @Ne Nat D1 (L + 1 + 1) ∧ @Ne Nat D1 224) (q8 : @Ne Nat D2 (L + 1 + 1 + 1) ∧ @Ne Nat D2 (L + 1 + 1) ∧ @Ne Nat D2 224)
    (F : Fr base L s.heap (fun y => if y = Str.ofString "rows" then some (.ref R) else if y = Str.ofString "popped" then some (.ref P) else if y = Str.ofString "script" then some (.ref sa) else none))
    (N : News base L s.heap [(R, listOf #[.ref D1, .ref D2] 0), (P, listOf #[] 0), (D1, lst d1), (D2, lst d2), (L + 1 + 1 + 1, o3), (L + 1 + 1, o2), (224, tabObj #[])]) (Q : Flow → Shared → Prop) (E : Value → Shared → Prop) 
    (hret : ∀ (E1 E2 : Addr) (w1 w2 : List Value) (k1 k2 pn : Nat) (ps : Array Value) (tk : Nat) (h' : Heap) (m' : Str → Option Value), StrsAre w1 (popN (rowA xs).length (pushAll (rowA xs))) → StrsAre w2 (popN (rowB xs).length (pushAll (rowB xs))) →
      (@Ne Nat E1 (L + 1 + 1 + 1) ∧ @Ne Nat E1 (L + 1 + 1)) → (@Ne Nat E2 (L + 1 + 1 + 1) ∧ @Ne Nat E2 (L + 1 + 1)) → Fr base L h' m' → m' (Str.ofString "rows") = some (.ref R) → m' (Str.ofString "popped") = some (.ref P) →
      News base L h' [(P, listOf #[Value.ref E1, Value.ref E2] pn), (E1, listOf w1.toArray k1), (E2, listOf w2.toArray k2), (R, listOf #[.ref D1, .ref D2] 0), (D1, lst d1), (D2, lst d2), (L + 1 + 1 + 1, o3), (L + 1 + 1, o2), (224, tabObj ps)] →
      wpAny (model PySem.Challenge.rw_in0117_01.prog w) (lawA L a ccd scope) (execs (body.drop 3) (envX (Str.ofString "law") scope L a ccd (lawC L))) Q E { s with heap := h', toks := tk })
    (hE : PassesOwn (model PySem.Challenge.rw_in0117_01.prog w) (lawA L a ccd scope) (envX (Str.ofString "law") scope L a ccd (lawC L)) E) :
    wpAny (model PySem.Challenge.rw_in0117_01.prog w) (lawA L a ccd scope) (execs (body.drop 2) (envX (Str.ofString "law") scope L a ccd (lawC L))) Q E s := by
  have hdef' := hdef
  cases hdef
  (show wpAny _ _ (execs (_ :: _) _) _ _ _)
  (revert X; k_fill; intro X)
  walk1
  (rename Fr _ _ _ _ => lF0); (with_unfolding_all refine' For_invVF (hE := hE) lF0 ?k1 ?k2 ?_; (case k1 => exact rfl); (case k2 => exact rfl))
  k_extra "unf"
  (rename Fr _ _ _ _ => lF); (rename News _ _ _ _ => lN)
  refine for_led (σ := St8) (fun c => (P, listOf c.pv.toArray c.pn) :: (224, c.tab) :: c.own) [(R, listOf #[.ref D1, .ref D2] 0), (D1, lst d1), (D2, lst d2), (L + 1 + 1 + 1, o3), (L + 1 + 1, o2)] (fun _ => [(Str.ofString "popped", .ref P)]) rowNames (Inv8 w P [rowA xs, rowB xs]) ⟨[], 0, tabObj #[], [], []⟩ rfl (.head _) lF ?nw ?of ?ps ?iv ?turn ?done
  case nw => exact fun q hq => lN q (by
    simp only [List.mem_cons, List.mem_append, List.not_mem_nil, or_false] at hq ⊢
    rcases hq with (h9 | h9) | h9 | h9 | h9 | h9 | h9 <;> simp only [h9, true_or, or_true])
  case of =>
    intro p hp b hb
    simp only [List.map_cons, List.map_nil, List.mem_cons, List.not_mem_nil, or_false] at hp hb
    rcases hp with rfl | rfl | rfl | rfl | rfl <;> rcases hb with rfl | rfl <;> (show @Ne Nat _ _; omega (splitDisjunctions := true))
  case ps => intro p hp; rw [List.mem_singleton.mp hp]; rfl
  case iv => exact ⟨rfl, tabAny_new w, fun q h => absurd h List.not_mem_nil, fun q h => absurd h List.not_mem_nil, fun q h => absurd h List.not_mem_nil, fun j v h => by simp at h⟩
  case turn =>
    intro c i v u h tk R' hv hR0 hOff hI F1 N1
    have hc : (i = 0 ∧ v = Value.ref D1) ∨ (i = 1 ∧ v = Value.ref D2) := two_at hv
    have mP : ∀ q ∈ c.own ++ R', q.1 ≠ P := List.forall_mem_append.mpr ⟨hI.o2, fun q hq => hOff q hq P (.head _)⟩
    have m224 : ∀ q ∈ c.own ++ R', q.1 ≠ 224 := List.forall_mem_append.mpr ⟨hI.o1, fun q hq => hOff q hq 224 (.tail _ (.head _))⟩
    have hP4 : @Ne Nat P 224 := by omega (splitDisjunctions := true)
    clear hret lF lN hv
    have key : ∃ (D : Addr) (ds : List Value) (ys zs : List Str) (z : Str), v = Value.ref D ∧ (D, lst ds) ∈ R' ∧ StrsAre ds ys ∧ ys = zs ++ [z] ∧ 0 < z.length ∧ (∀ y ∈ ys, y ∈ five) ∧ 2 ≤ ys.length ∧ ys.length ≤ 9 ∧ [rowA xs, rowB xs].getD i [] = ys ∧ i ≤ 1 := by
      have l1 := rowA_len xs
      have l2 := rowB_len xs
      rcases hc with ⟨e1, e2⟩ | ⟨e1, e2⟩
      · exact ⟨D1, d1, rowA xs, _, _, e2, hR0 _ (.tail _ (.head _)), hd1, rowA_last xs, by decide +kernel, row_five, by omega (splitDisjunctions := true), l1.2, by rw [e1]; rfl, by omega (splitDisjunctions := true)⟩
      · exact ⟨D2, d2, rowB xs, _, _, e2, hR0 _ (.tail _ (.tail _ (.head _))), hd2, rowB_last xs, by decide +kernel, row_five, by omega (splitDisjunctions := true), l2.2, by rw [e1]; rfl, by omega (splitDisjunctions := true)⟩
    obtain ⟨D, ds, ys, zs, z, hv, mem, hds, hyz, hz, h5, h2, h9, hrow, hi1⟩ := key
    subst hv
    refine row_ok hdef' rfl w ys ds D ds.length lo mean mg mb base L a ccd { s with heap := h, toks := tk } _ P c.pv c.pn c.tab (c.own ++ R') c.cds zs z hyz hz hds (List.mem_append_right _ mem) h5 h2 h9 (by rw [hI.len]; omega (splitDisjunctions := true)) hI.tab (fun q hq => List.mem_append_left _ (hI.cds q hq)) m224 mP hP4 l0 B X T C F1 rfl rfl N1 _ _ ?_
    intro D' ws k tab' cds' rest' tk' h' m' hws hT' hc' hnew a1 a2 hD F' mp ms N'
    obtain ⟨new, e, hn1, hn2⟩ := hnew
    subst e
    refine fl_end ⟨c.pv ++ [Value.ref D'], c.pn + 1, tab', (D', listOf ws.toArray k) :: (c.own ++ new), cds'⟩ F' N' ?_ ?_ ?_ ?_ ?_
    · intro q hq
      simp only [List.cons_append, List.mem_cons, List.mem_append] at hq ⊢
      rcases hq with h9 | h9 | h9 | (h9 | h9) | h9 <;> simp only [h9, true_or, or_true]
    · intro q hq b hb
      simp only [List.map_cons, List.map_append, List.mem_cons, List.mem_append, List.mem_map] at hb
      rcases hb with rfl | rfl | rfl | ⟨p, hp, rfl⟩ | ⟨p, hp, rfl⟩
      · exact mP q (List.mem_append_right _ hq)
      · exact m224 q (List.mem_append_right _ hq)
      · exact hD q (.tail _ (.tail _ (List.mem_append_left _ (List.mem_append_right _ hq))))
      · exact hOff q hq p.1 (.tail _ (.tail _ (List.mem_map_of_mem hp)))
      · exact (hn1 p hp q (List.mem_append_right _ hq)).symm
    · intro p hp
      rw [List.mem_singleton.mp hp]
      exact mp
    · intro y y1 y2 y3
      have y4 : y ≠ Str.ofString "popped" := y2 _ (.head _)
      have y5 := y3
      simp only [List.contains_cons, List.contains_nil, Bool.or_false, Bool.or_eq_false_iff, beq_eq_false_iff_ne] at y3
      obtain ⟨z1, z2, z3, z4⟩ := y3
      rw [ms y (by simp only [List.mem_cons, List.not_mem_nil, or_false, not_or]; exact ⟨z1, z2, z3, z4, y4, y1⟩), if_neg y1]
      show (if y = Str.ofString "popped" then _ else if rowNames.contains y = true then _ else _) = _
      rw [if_neg y4, y5, if_neg (by decide)]
    · refine ⟨by rw [List.length_append, hI.len]; rfl, hT', fun q hq => ?_, List.forall_mem_cons.mpr ⟨?_, List.forall_mem_append.mpr ⟨hI.o1, fun q hq => a1 q (List.mem_append_right _ hq)⟩⟩, List.forall_mem_cons.mpr ⟨?_, List.forall_mem_append.mpr ⟨hI.o2, fun q hq => a2 q (List.mem_append_right _ hq)⟩⟩, ?_⟩
      · rcases List.mem_append.mp (hn2 q hq) with h9 | h9
        · exact .tail _ (List.mem_append_left _ (hI.cds q h9))
        · exact .tail _ (List.mem_append_right _ h9)
      · exact (hD _ (.tail _ (.head _))).symm
      · exact (hD _ (.head _)).symm
      · intro j y hy
        rcases Nat.lt_or_ge j c.pv.length with hj | hj
        · rw [List.getElem?_append_left hj] at hy
          obtain ⟨D9, ws9, k9, r1, r2, r3⟩ := hI.pop j y hy
          exact ⟨D9, ws9, k9, r1, .tail _ (List.mem_append_left _ r2), r3⟩
        · have hj2 := (List.getElem?_eq_some_iff.mp hy).1
          rw [List.length_append, List.length_singleton] at hj2
          have hj3 : j = c.pv.length := by omega (splitDisjunctions := true)
          subst hj3
          rw [List.getElem?_append_right (Nat.le_refl _), Nat.sub_self] at hy
          refine ⟨D', ws, k, (Option.some.inj hy).symm, .head _, ?_⟩
          rw [hI.len, hrow]
          exact hws
  case done =>
    intro c u h tk hI hOff F1 N1
    clear lF lN
    (try dsimp only)
    obtain ⟨pv, pn, tab, own, cds⟩ := c
    have hlen : pv.length = 2 := hI.len
    obtain ⟨v1, v2, rfl⟩ : ∃ v1 v2, pv = [v1, v2] := two_list hlen
    obtain ⟨E1, w1, k1, r1, r2, r3⟩ := hI.pop 0 v1 rfl
    obtain ⟨E2, w2, k2, t1, t2, t3⟩ := hI.pop 1 v2 rfl
    subst r1
    subst t1
    have e1 : ∀ b ∈ [L + 1 + 1 + 1, L + 1 + 1], @Ne Nat E1 b ∧ @Ne Nat E2 b := by
      intro b hb
      have mb : ∃ o, (b, o) ∈ [(R, listOf #[.ref D1, .ref D2] 0), (D1, lst d1), (D2, lst d2), (L + 1 + 1 + 1, o3), (L + 1 + 1, o2)] := by
        rcases List.mem_cons.mp hb with h9 | hb
        · exact ⟨o3, by rw [h9]; exact .tail _ (.tail _ (.tail _ (.head _)))⟩
        · exact ⟨o2, by rw [List.mem_singleton.mp hb]; exact .tail _ (.tail _ (.tail _ (.tail _ (.head _))))⟩
      obtain ⟨o, mo⟩ := mb
      exact ⟨(hOff _ mo E1 (.tail _ (.tail _ (List.mem_map_of_mem (f := fun x => x.1) r2)))).symm, (hOff _ mo E2 (.tail _ (.tail _ (List.mem_map_of_mem (f := fun x => x.1) t2)))).symm⟩
    obtain ⟨ps, htab⟩ := hI.tab.1
    refine hret E1 E2 w1 w2 k1 k2 pn ps tk h _ r3 t3 ⟨(e1 _ (.head _)).1, (e1 _ (.tail _ (.head _))).1⟩ ⟨(e1 _ (.head _)).2, (e1 _ (.tail _ (.head _))).2⟩ F1 rfl rfl (fun q hq => N1 q ?_)
    rcases List.mem_cons.mp hq with h9 | hq
    · rw [h9]; exact .head _
    rcases List.mem_cons.mp hq with h9 | hq
    · rw [h9]; exact .tail _ (.tail _ (List.mem_append_left _ r2))
    rcases List.mem_cons.mp hq with h9 | hq
    · rw [h9]; exact .tail _ (.tail _ (List.mem_append_left _ t2))
    · have hq' : q ∈ [(R, listOf #[.ref D1, .ref D2] 0), (D1, lst d1), (D2, lst d2), (L + 1 + 1 + 1, o3), (L + 1 + 1, o2)] ++ [(224, tabObj ps)] := hq
      rcases List.mem_append.mp hq' with hq | hq
      · exact .tail _ (.tail _ (List.mem_append_right _ hq))
      · rw [List.mem_singleton.mp hq, ← htab]
        exact .tail _ (.head _)
end
section
open PyProof.Rows.LCg PyProof.Rows.LCt
theorem sa_sorted {prog : Program} {w : World} {A : Around} {E : Value → Shared → Prop} {s : Shared} {h₀ : Heap} {L l : Addr} {m : Str → Option Value} {news : List (Addr × Obj)} {vs : List Value} {ss : List Str} {n : Nat} {Q : Value → Shared → Prop}
    (F : Fr h₀ L s.heap m) (N : News h₀ L s.heap news) (hm : (l, listOf vs.toArray n) ∈ news) (hS : StrsAre vs ss) (hz : ss.length < 64)
    (h : ∀ (D : Addr) (h' : Heap) (vs' : List Value) (ss' : List Str) (e : Nat), Fr h₀ L h' m → News h₀ L h' ((D, listOf vs'.toArray e) :: news) → (∀ p ∈ news, p.1 < D) → StrsAre vs' ss' → ss'.Perm ss → sortedS ss' = true → Q (.ref D) { s with heap := h' }) :
    wpAny (model prog w) A (call (.builtin "sorted") [.ref l]) Q E s :=
  sorted_N_str F N (N.isList hm) hS (by rw [hS.length]; exact hz) fun h' vs' ss' e F' N' a1 a2 a3 => h _ h' vs' ss' e F' N' (fun p hp => Nat.lt_succ_of_lt (Heap.lt_size (N p hp).1)) a1 a2 a3
theorem pack9 {h₀ h : Heap} {L : Addr} {l : List (Addr × Obj)} (N : News h₀ L h l) : ∃ FX, FX = l ∧ News h₀ L h FX := ⟨l, rfl, N⟩
theorem law3 {body : List Stmt} {scope : Scope} (hdef : lawSt = some (body, scope)) (w : World) (lo : List Str) (mean : ExcName → Option Value) (mg mb : Str → Option Value) (base : Heap) (L a : Addr) (ccd : Value) (s : Shared) (m : Str → Option Value)
    (tb : Obj) (l0 : @LT.lt Nat _ 224 L) (o2 o3 : Obj) (h2 : o2.data = .cell none) (h3 : o3.data = .cell none) (B : Below callerA base [] base) (X : (frag w.params).In base) (T : Top topProg lo mean mg mb base) (R D1 D2 P E1 E2 : Addr) (xs ys : List Str) (d1 d2 w1 w2 : List Value) (k1 k2 pn : Nat) (hd1 : StrsAre d1 xs) (hd2 : StrsAre d2 ys) (hw1 : StrsAre w1 (popN xs.length (pushAll xs))) (hw2 : StrsAre w2 (popN ys.length (pushAll ys))) (lx : xs.length ≤ 9) (ly : ys.length ≤ 9)
    (q4 : @LT.lt Nat _ (L + 1 + 1 + 1) P) (q6 : @LT.lt Nat _ (L + 1 + 1 + 1) R) (q7 : @Ne Nat D1 (L + 1 + 1 + 1)) (q7' : @Ne Nat D1 (L + 1 + 1)) (q8 : @Ne Nat D2 (L + 1 + 1 + 1)) (q8' : @Ne Nat D2 (L + 1 + 1)) (r1 : @Ne Nat E1 (L + 1 + 1 + 1)) (r2 : @Ne Nat E1 (L + 1 + 1)) (r3 : @Ne Nat E2 (L + 1 + 1 + 1)) (r4 : @Ne Nat E2 (L + 1 + 1))
    (F : Fr base L s.heap m) (hmr : m (Str.ofString "rows") = some (.ref R)) (hmp : m (Str.ofString "popped") = some (.ref P))
    (N : News base L s.heap [(P, listOf #[Value.ref E1, Value.ref E2] pn), (E1, listOf w1.toArray k1), (E2, listOf w2.toArray k2), (R, listOf #[.ref D1, .ref D2] 0), (D1, lst d1), (D2, lst d2), (L + 1 + 1 + 1, o3), (L + 1 + 1, o2), (224, tb)]) (Q : Flow → Shared → Prop) (E : Value → Shared → Prop)
    (hret : ∀ (o2' o3' : Obj) (tk : Nat) (h' : Heap), o2'.data = .cell (some (.ref E1)) → o3'.data = .cell (some (.ref E2)) → Fr base L h' m →
      News base L h' [(P, listOf #[Value.ref E1, Value.ref E2] pn), (E1, listOf w1.toArray k1), (E2, listOf w2.toArray k2), (R, listOf #[.ref D1, .ref D2] 0), (D1, lst d1), (D2, lst d2), (L + 1 + 1 + 1, o3'), (L + 1 + 1, o2'), (224, tb)] →
      wpAny (model PySem.Challenge.rw_in0117_01.prog w) (lawA L a ccd scope) (execs (body.drop 5) (envX (Str.ofString "law") scope L a ccd (lawC L))) Q E { s with heap := h', toks := tk }) :
    wpAny (model PySem.Challenge.rw_in0117_01.prog w) (lawA L a ccd scope) (execs (body.drop 3) (envX (Str.ofString "law") scope L a ccd (lawC L))) Q E s := by
  have hmr' := hmr
  rw [mset hmp] at hmr
  rw [mset hmp, mset hmr] at F
  dsimp only at F
  cases hdef
  (show wpAny _ _ (execs (_ :: _) _) _ _ _)
  (revert X; k_fill; intro X)
  k_extra "unf"
  k_dflt (refine LCg.ListComp_U (F₀ := by k_asm) (by rfl) (by decide) (by rfl) (by decide) (by rfl) ?_)
  k_extra "unf"
  (rename Fr _ _ _ _ => lF); (rename News _ _ _ _ => lN)
  obtain ⟨FX, hFX, lN9⟩ := pack9 lN
  have mP : (P, listOf #[Value.ref E1, Value.ref E2] pn) ∈ FX := by rw [hFX]; exact .head _
  have mE1 : (E1, listOf w1.toArray k1) ∈ FX := by rw [hFX]; exact .tail _ (.head _)
  have mE2 : (E2, listOf w2.toArray k2) ∈ FX := by rw [hFX]; exact .tail _ (.tail _ (.head _))
  have mR : (R, listOf #[Value.ref D1, Value.ref D2] 0) ∈ FX := by rw [hFX]; exact .tail _ (.tail _ (.tail _ (.head _)))
  have mD1 : (D1, lst d1) ∈ FX := by rw [hFX]; exact .tail _ (.tail _ (.tail _ (.tail _ (.head _))))
  have mD2 : (D2, lst d2) ∈ FX := by rw [hFX]; exact .tail _ (.tail _ (.tail _ (.tail _ (.tail _ (.head _)))))
  clear lN
  refine LCg.CompSrc.ledger (by rfl) lF lN9 mR (by show 2 ≤ sizeLine; unfold sizeLine; omega (splitDisjunctions := true)) ?_
  intro g9
  refine comp_ind (J := fun i ys9 news => (∀ q ∈ FX, q ∈ news) ∧ DatAll news ys9 ([Dat.list ((popN xs.length (pushAll xs)).map Dat.str), Dat.list ((popN ys.length (pushAll ys)).map Dat.str)].take i)) ?_ ?_ _ 0 [] _ (Nat.zero_add _) ⟨fun q h => h, .nil⟩
  · intro i ys9 news v I oI C9 oC D m₂ h tk E9 hi hJ hP hC hx9 F N o ne
    obtain ⟨hfx, e9⟩ := hJ
    have key : ∃ (Dr : Addr) (ds : List Value) (zs : List Str), v = Value.ref Dr ∧ (Dr, lst ds) ∈ news ∧ StrsAre ds zs ∧ zs.length ≤ 9 ∧ i < 2 ∧ [Dat.list ((popN xs.length (pushAll xs)).map Dat.str), Dat.list ((popN ys.length (pushAll ys)).map Dat.str)][i]? = some (Dat.list ((popN zs.length (pushAll zs)).map Dat.str)) := by
      have hP' : [Value.ref D1, Value.ref D2][i]? = some v := by rw [← hP, List.getElem?_toArray]
      rcases two_at hP' with ⟨rfl, h9⟩ | ⟨rfl, h9⟩
      · exact ⟨D1, d1, xs, h9, hfx _ mD1, hd1, lx, by omega (splitDisjunctions := true), rfl⟩
      · exact ⟨D2, d2, ys, h9, hfx _ mD2, hd2, ly, by omega (splitDisjunctions := true), rfl⟩
    obtain ⟨Dr, ds, zs, hv, mDr, hds, lz, hi2, hdat⟩ := key
    subst hv
    clear lF lN9 hd1 hd2 hw1 hw2
    (try dsimp only)
    (try k_fold)
    k_extra "unf"
    (rename Fr _ _ _ _ => e1); (rename News _ _ _ _ => e2)
    refine sa_sorted e1 e2 (.tail _ (.tail _ (.tail _ mDr))) hds (by omega (splitDisjunctions := true)) ?_
    intro D' h' vs' ss' k' F' N' l' hS' hp' ho'
    rw [← popped_eq hp' ho'] at hS'
    refine CompEnd.intro F' N' ((D', listOf vs'.toArray k') :: news) (fun q hq => ?_) ⟨⟨Nat.ne_of_gt (l' _ (.head _)), Nat.ne_of_gt (l' _ (.tail _ (.head _))), Nat.ne_of_gt (l' _ (.tail _ (.tail _ (.head _))))⟩, o⟩ (.inr ⟨_, .tail _ (hfx _ mR), rfl, _, rfl⟩) ⟨fun q hq => .tail _ (hfx q hq), ?_⟩
    · revert q; repeat' (first | with_reducible refine List.forall_mem_cons.mpr ⟨?_, ?_⟩ | (intro _ hS9; (repeat (first | with_reducible exact hS9 | with_reducible refine List.mem_cons_of_mem _ ?_)); done) | with_reducible refine List.forall_mem_append.mpr ⟨?_, ?_⟩ | ((repeat (first | with_reducible exact List.mem_cons_self | with_reducible refine List.mem_cons_of_mem _ ?_)); done) | with_reducible exact fun _ h => absurd h List.not_mem_nil)
    · rw [List.take_add_one, hdat]
      exact (e9.mono fun q hq => .tail _ hq).append (.one (.list (.head _) (strsAre_dat hS')))
  rintro ys8 news ⟨hfx, e8⟩
  replace e8 : DatAll news ys8 [Dat.list ((popN xs.length (pushAll xs)).map Dat.str), Dat.list ((popN ys.length (pushAll ys)).map Dat.str)] := e8
  clear lF
  unfold LCg.FinE
  intro D9 h9 tk9 F9 N9 o9
  (try dsimp only)
  (try k_fold)
  k_extra "unf"
  refine ne_sameL N9 (.tail _ (hfx _ mP)) (.head _) (ds := [Dat.list ((popN xs.length (pushAll xs)).map Dat.str), Dat.list ((popN ys.length (pushAll ys)).map Dat.str)]) (.cons (.list (.tail _ (hfx _ mE1)) (strsAre_dat hw1)) (.one (.list (.tail _ (hfx _ mE2)) (strsAre_dat hw2)))) (e8.mono fun q hq => .tail _ hq) ?_ ?_
  · rw [show depL [Dat.list ((popN xs.length (pushAll xs)).map Dat.str), Dat.list ((popN ys.length (pushAll ys)).map Dat.str)] = 1 by rw [depL, depL, depL, depD, depD, depL_map (fun _ => rfl), depL_map (fun _ => rfl)]; rfl]
    ktr_units
  repeat' ((fail_if_success (with_reducible show wpAny _ _ (execs (_ :: _) _) _ _ _)); (first | (k_unfold; (try dsimp only)) | walk1 | (dsimp only; walk1) | (leave1; (try dsimp only))))
  rw [mset2 hmp hmr'] at F9
  (rename _ = Data.cell (some (Value.ref E1)) => c1); (rename _ = Data.cell (some (Value.ref E2)) => c2)
  exact hret _ _ _ _ c1 c2 F9 (fun q hq => N9 q (.tail _ (hfx q (by rw [hFX]; exact hq))))
end
section
open PyProof.Rows.LCg PyProof.Rows.LCt
noncomputable def OnceAt (lists : List (List Str)) (news : List (Addr × Obj)) (ys : List Value) : Prop := ∀ j v, ys[j]? = some v → ∃ D ws, v = Value.ref D ∧ (D, lst ws) ∈ news ∧ StrsAre ws (onceK (lists.getD j []) (lists.getD j []).length)
theorem law4 {body : List Stmt} {scope : Scope} (hdef : lawSt = some (body, scope)) (w : World) (lo : List Str) (mean : ExcName → Option Value) (mg mb : Str → Option Value) (base : Heap) (L a : Addr) (ccd : Value) (s : Shared) (m : Str → Option Value)
    (B : Below callerA base [] base) (X : (frag w.params).In base) (T : Top topProg lo mean mg mb base) (P E1 E2 : Addr) (pn : Nat) (one two : List Str) (w1 w2 : List Value) (k1 k2 : Nat) (hw1 : StrsAre w1 one) (hw2 : StrsAre w2 two) (lx : one.length ≤ 9) (ly : two.length ≤ 9)
    (F : Fr base L s.heap m) (hmp : m (Str.ofString "popped") = some (.ref P)) (FX : List (Addr × Obj)) (mP : (P, listOf #[Value.ref E1, Value.ref E2] pn) ∈ FX) (m1 : (E1, listOf w1.toArray k1) ∈ FX) (m2 : (E2, listOf w2.toArray k2) ∈ FX)
    (N : News base L s.heap FX) (Q : Flow → Shared → Prop) (E : Value → Shared → Prop)
    (hret : ∀ (O O1 O2 : Addr) (z1 z2 : List Value) (tk : Nat) (h' : Heap), StrsAre z1 (onceK one one.length) → StrsAre z2 (onceK two two.length) → Fr base L h' (fun y => if y = Str.ofString "once" then some (.ref O) else if y = Str.ofString "popped" then some (.ref P) else m y) →
      News base L h' ((O, lst [Value.ref O1, Value.ref O2]) :: (O1, lst z1) :: (O2, lst z2) :: FX) → wpAny (model PySem.Challenge.rw_in0117_01.prog w) (lawA L a ccd scope) (execs (body.drop 6) (envX (Str.ofString "law") scope L a ccd (lawC L))) Q E { s with heap := h', toks := tk }) :
    wpAny (model PySem.Challenge.rw_in0117_01.prog w) (lawA L a ccd scope) (execs (body.drop 5) (envX (Str.ofString "law") scope L a ccd (lawC L))) Q E s := by
  rw [mset hmp] at F
  cases hdef
  (show wpAny _ _ (execs (_ :: _) _) _ _ _)
  (revert X; k_fill; intro X)
  k_extra "unf"
  k_dflt (refine Assign_ListComp_C (_F₀ := by k_asm) (by rfl) (by with_unfolding_all rfl) (by with_unfolding_all rfl) (by rfl) (by decide) (fun n => by rfl) (fun h => by rfl) (by rfl) (by rfl) (by rfl) ?_)
  k_extra "unf"
  (rename Fr _ _ _ _ => lF); (rename News _ _ _ _ => lN)
  refine ⟨P, #[Value.ref E1, Value.ref E2], pn, FX, (fun i ys9 news => (∀ q ∈ FX, q ∈ news) ∧ ys9.length = i ∧ OnceAt [one, two] news ys9), rfl, rfl, lF, lN, mP, by show 2 ≤ sizeLine; unfold sizeLine; omega (splitDisjunctions := true), ⟨fun q h => h, rfl, fun j v h => by simp at h⟩, ?step, ?fin⟩
  case step =>
    intro i ys9 news v I oI C9 oC K oK D h tk E9 hv hJ hmem dK Fh Nh off offK ne
    obtain ⟨hfx, hl9, hon⟩ := hJ
    have key : ∃ (Er : Addr) (ws : List Value) (kk : Nat) (zs : List Str), v = Value.ref Er ∧ (Er, listOf ws.toArray kk) ∈ news ∧ StrsAre ws zs ∧ zs.length ≤ 9 ∧ [one, two].getD i [] = zs := by
      have hv2 : [Value.ref E1, Value.ref E2][i]? = some v := by rw [← hv, List.getElem?_toArray]
      rcases two_at hv2 with ⟨rfl, h9⟩ | ⟨rfl, h9⟩
      · exact ⟨E1, w1, k1, one, h9, hfx _ m1, hw1, lx, rfl⟩
      · exact ⟨E2, w2, k2, two, h9, hfx _ m2, hw2, ly, rfl⟩
    obtain ⟨Er, ws, kk, zs, hv', mEr, hws, lz, hzs⟩ := key
    subst hv'
    clear lF lN hw1 hw2 hv
    (try dsimp only)
    (try k_fold)
    k_extra "unf"
    k_dflt (refine LCt.ListComp_T (F₀ := by k_asm) (by with_unfolding_all rfl) (by decide) (by rfl) (by decide) (by rfl) ?_)
    k_extra "unf"
    (rename Fr _ _ _ _ => lF); (rename News _ _ _ _ => lN); (rename IsRange _ _ _ _ _ _ _ _ => lR)
    refine CompSrcT.range rfl lF lN lR (small_one (by decide) (by decide) (by omega (splitDisjunctions := true)) (by omega (splitDisjunctions := true))) (size_up zs.length) (by unfold sizeLine; omega (splitDisjunctions := true)) ?_
    intro g9
    refine comp_indT (J := fun j zs2 news2 => news2 = (I, oI) :: (C9, oC) :: (D, lst ys9) :: (K, oK) :: news ∧ StrsAre zs2 (onceK zs j)) ?_ ?_ _ 0 [] _ (Nat.zero_add _) ⟨rfl, .nil⟩
    · intro j zs2 news2 v I2 oI2 C2 oC2 D2 m₂ h2 tk2 E8 hi2 hJ2 hP2 hC2 hx2 F2 N2 o2 ne2
      obtain ⟨rfl, hz⟩ := hJ2
      obtain ⟨t, rfl⟩ := hP2
      clear lF lN lR
      have ek9 : ((0 : Int) + (j : Int)).toNat = j := by omega (splitDisjunctions := true)
      (try dsimp only)
      (try k_fold)
      k_extra "unf"
      · (rename (0 : Int) + (j : Int) = 0 => c5)
        refine CompEnd.intro F2 N2 ((I, oI) :: (C9, oC) :: (D, lst ys9) :: (K, oK) :: news) (fun q hq => hq) o2 trivial ⟨rfl, ?_⟩
        rw [onceK, if_pos (.inl (by omega (splitDisjunctions := true))), ek9]
        exact strsAre_append hz (.cons _ _ .nil)
      · (rename (_ != _) = true => c5)
        have ek8 : ((0 : Int) + (j : Int) - 1).toNat = j - 1 := by omega (splitDisjunctions := true)
        rw [ek8, ek9, bne_iff_ne] at c5
        refine CompEnd.intro F2 N2 ((I, oI) :: (C9, oC) :: (D, lst ys9) :: (K, oK) :: news) (fun q hq => hq) o2 trivial ⟨rfl, ?_⟩
        rw [onceK, if_pos (.inr c5), ek9]
        exact strsAre_append hz (.cons _ _ .nil)
      · (rename (_ != _) = false => c5); (rename (0 : Int) + (j : Int) ≠ 0 => c6)
        have ek8 : ((0 : Int) + (j : Int) - 1).toNat = j - 1 := by omega (splitDisjunctions := true)
        rw [ek8, ek9, bne_eq_false_iff_eq] at c5
        refine CompEnd.intro F2 N2 ((I, oI) :: (C9, oC) :: (D, lst ys9) :: (K, oK) :: news) (fun q hq => hq) o2 trivial ⟨rfl, ?_⟩
        rw [onceK, if_neg (fun q => q.elim (fun q => by omega (splitDisjunctions := true)) (fun q => q c5)), List.append_nil]
        exact hz
    · rintro zs2 news2 ⟨rfl, hz⟩
      unfold LCg.FinE
      intro D9 h9 tk9 F9 N9 o9
      obtain ⟨u1, u2, u3, u4, u5⟩ := o9
      refine CompEnd.intro F9 N9 ((K, oK) :: (D9, lst zs2) :: news) (fun q hq => ?_) ⟨off.1, ⟨Ne.symm u1, Ne.symm u2, Ne.symm u3⟩, off.2⟩ trivial ⟨(D9, lst zs2) :: news, rfl, List.forall_mem_cons.mpr ⟨Ne.symm u4, offK⟩, .tail _ hmem, fun q hq => .tail _ (hfx q hq), by rw [List.length_append, hl9]; rfl, ?_⟩
      · revert q; repeat' (first | with_reducible refine List.forall_mem_cons.mpr ⟨?_, ?_⟩ | (intro _ hS9; (repeat (first | with_reducible exact hS9 | with_reducible refine List.mem_cons_of_mem _ ?_)); done) | with_reducible refine List.forall_mem_append.mpr ⟨?_, ?_⟩ | ((repeat (first | with_reducible exact List.mem_cons_self | with_reducible refine List.mem_cons_of_mem _ ?_)); done) | with_reducible exact fun _ h => absurd h List.not_mem_nil)
      · intro j y hy
        rcases Nat.lt_or_ge j ys9.length with hj | hj
        · rw [List.getElem?_append_left hj] at hy
          obtain ⟨D8, ws8, r1, r2, r3⟩ := hon j y hy
          exact ⟨D8, ws8, r1, .tail _ r2, r3⟩
        · have hj2 := (List.getElem?_eq_some_iff.mp hy).1
          rw [List.length_append, List.length_singleton] at hj2
          have hj3 : j = ys9.length := by omega (splitDisjunctions := true)
          subst hj3
          rw [List.getElem?_append_right (Nat.le_refl _), Nat.sub_self] at hy
          refine ⟨D9, zs2, (Option.some.inj hy).symm, .head _, ?_⟩
          rw [hl9, hzs]
          exact hz
  case fin =>
    intro ys9 news hJ
    obtain ⟨hfx, hl9, hon⟩ := hJ
    replace hl9 : ys9.length = 2 := hl9
    obtain ⟨v1, v2, rfl⟩ : ∃ v1 v2, ys9 = [v1, v2] := two_list hl9
    obtain ⟨O1, z1, r1, r2, r3⟩ := hon 0 v1 rfl
    obtain ⟨O2, z2, t1, t2, t3⟩ := hon 1 v2 rfl
    subst r1
    subst t1
    unfold LCg.FinA
    intro D9 h9 tk9 F9 N9 o9
    clear lF lN
    (try dsimp only)
    repeat' ((fail_if_success (with_reducible show wpAny _ _ (execs (_ :: _) _) _ _ _)); (first | (k_unfold; (try dsimp only)) | walk1 | (dsimp only; walk1) | (leave1; (try dsimp only))))
    refine hret D9 O1 O2 z1 z2 _ _ r3 t3 F9 (fun q hq => N9 q ?_)
    rcases List.mem_cons.mp hq with h9 | hq
    · rw [h9]; exact .head _
    rcases List.mem_cons.mp hq with h9 | hq
    · rw [h9]; exact .tail _ r2
    rcases List.mem_cons.mp hq with h9 | hq
    · rw [h9]; exact .tail _ t2
    · exact .tail _ (hfx q hq)
end
section
open PyProof.Rows.LCg PyProof.Rows.LCt
theorem va_sub {prog : Program} {w : World} {A : Around} {E : Value → Shared → Prop} {s : Shared} {l : Addr} {vs : List Value} {k : Int} {u : Tok} {v : Value} {value slice : PySem.Expr} {Q : Value → Shared → Prop} (hl : s.heap.IsList l vs.toArray) (h0 : 0 ≤ k) (hfit : k < 2 ^ 63) (he : vs[k.toNat]? = some v) (h : Q v s)
    (hs : subscripted slice false (.ref l) (.int k u) = operate [.ref l, .int k u] (getItem (.ref l) (.int k u)) := by with_unfolding_all rfl) :
    wpAny (model prog w) A (subscriptTail value slice (.ref l) (.int k u)) Q E s :=
  tail_any hl.typeIs slot_list_getitem.lookup (wpAny_getItem_list hl h0 hfit (by simpa using he) h) hs
theorem five_mx {x : Str} (h : x ∈ five) : slt x (Str.ofString "Ā") = true := by
  simp only [five, List.mem_cons, List.not_mem_nil, or_false] at h
  rcases h with rfl | rfl | rfl | rfl | rfl <;> decide +kernel
theorem sld_law {one two : List Str} (p1 : one.Pairwise sle) (p2 : two.Pairwise sle) (h1 : ∀ x ∈ one, x ∈ five) (h2 : ∀ x ∈ two, x ∈ five) :
    sldR (one.length + 1 + (two.length + 1)) (one ++ [Str.ofString "Ā"]) (two ++ [Str.ofString "Ā"]) = (fil (onceK one one.length) two, fil (onceK two two.length) one) := by
  rw [onceK_dd, onceK_dd]
  exact sldR_eq _ _ one two (by omega (splitDisjunctions := true)) p1 p2 (fun x hx => five_mx (h1 x hx)) (fun x hx => five_mx (h2 x hx))
theorem law5 {body : List Stmt} {scope : Scope} (hdef : lawSt = some (body, scope)) (w : World) (lo : List Str) (mean : ExcName → Option Value) (mg mb : Str → Option Value) (base : Heap) (L a : Addr) (ccd : Value) (s : Shared) (m : Str → Option Value)
    (B : Below callerA base [] base) (X : (frag w.params).In base) (T : Top topProg lo mean mg mb base) (C : CodeHd base 228 224) (O O1 O2 P E1 E2 R D1 D2 : Addr) (pn : Nat) (one two : List Str) (z1 z2 w1 w2 d1 d2 : List Value) (k1 k2 : Nat) (tb o2 o3 : Obj) (h2 : o2.data = .cell (some (.ref E1))) (h3 : o3.data = .cell (some (.ref E2))) (hz1 : StrsAre z1 (onceK one one.length)) (hz2 : StrsAre z2 (onceK two two.length)) (hw1 : StrsAre w1 one) (hw2 : StrsAre w2 two) (h51 : ∀ x ∈ one, x ∈ five) (h52 : ∀ x ∈ two, x ∈ five) (p1 : one.Pairwise sle) (p2 : two.Pairwise sle) (lx : one.length ≤ 9) (ly : two.length ≤ 9)
    (F : Fr base L s.heap m) (hmo : m (Str.ofString "once") = some (.ref O))
    (N : News base L s.heap [(O, lst [Value.ref O1, Value.ref O2]), (O1, lst z1), (O2, lst z2), (P, listOf #[Value.ref E1, Value.ref E2] pn), (E1, listOf w1.toArray k1), (E2, listOf w2.toArray k2), (R, listOf #[.ref D1, .ref D2] 0), (D1, lst d1), (D2, lst d2), (L + 1 + 1 + 1, o3), (L + 1 + 1, o2), (224, tb)]) (Q : Flow → Shared → Prop) (E : Value → Shared → Prop)
    (hret : ∀ (tk : Nat) (h' : Heap), Fr base L h' m → News base L h' [(O, lst [Value.ref O1, Value.ref O2]), (O1, lst z1), (O2, lst z2), (P, listOf #[Value.ref E1, Value.ref E2] pn), (E1, listOf w1.toArray k1), (E2, listOf w2.toArray k2), (R, listOf #[.ref D1, .ref D2] 0), (D1, lst d1), (D2, lst d2), (L + 1 + 1 + 1, o3), (L + 1 + 1, o2), (224, tb)] →
      wpAny (model PySem.Challenge.rw_in0117_01.prog w) (lawA L a ccd scope) (execs (body.drop 7) (envX (Str.ofString "law") scope L a ccd (lawC L))) Q E { s with heap := h', toks := tk }) :
    wpAny (model PySem.Challenge.rw_in0117_01.prog w) (lawA L a ccd scope) (execs (body.drop 6) (envX (Str.ofString "law") scope L a ccd (lawC L))) Q E s := by
  rw [mset hmo] at F
  cases hdef
  (show wpAny _ _ (execs (_ :: _) _) _ _ _)
  (revert X; k_fill; intro X)
  k_extra "unf"
  (rename Fr _ _ _ _ => e1); (rename News _ _ _ _ => e2)
  refine sa_concat e1 e2 (xs := one) (ys := [Str.ofString "Ā"]) (.tail _ (.tail _ (.tail _ (.tail _ (.tail _ (.head _)))))) (.head _) hw1 (.cons _ _ .nil) (by omega (splitDisjunctions := true)) (by decide) ?_
  intro A1 v1 h1 F1 N1 l1 hv1 ll1
  clear e1 e2
  have N1' : News base L h1 ((A1, listOf v1.toArray 0) :: [(O, lst [Value.ref O1, Value.ref O2]), (O1, lst z1), (O2, lst z2), (P, listOf #[Value.ref E1, Value.ref E2] pn), (E1, listOf w1.toArray k1), (E2, listOf w2.toArray k2), (R, listOf #[.ref D1, .ref D2] 0), (D1, lst d1), (D2, lst d2), (L + 1 + 1 + 1, o3), (L + 1 + 1, o2), (224, tb)]) := fun q hq => N1 q (by
    rcases List.mem_cons.mp hq with h9 | h9
    · rw [h9]; exact .head _
    · exact .tail _ (.tail _ h9))
  clear N1
  k_extra "unf"
  (rename Fr _ _ _ _ => e1); (rename News _ _ _ _ => e2)
  refine sa_concat e1 e2 (xs := two) (ys := [Str.ofString "Ā"]) (.tail _ (.tail _ (.tail _ (.tail _ (.tail _ (.tail _ (.tail _ (.head _)))))))) (.head _) hw2 (.cons _ _ .nil) (by omega (splitDisjunctions := true)) (by decide) ?_
  intro A2 v2 h2' F2 N2 l2 hv2 ll2
  have N2' : News base L h2' ((A2, listOf v2.toArray 0) :: (A1, listOf v1.toArray 0) :: [(O, lst [Value.ref O1, Value.ref O2]), (O1, lst z1), (O2, lst z2), (P, listOf #[Value.ref E1, Value.ref E2] pn), (E1, listOf w1.toArray k1), (E2, listOf w2.toArray k2), (R, listOf #[.ref D1, .ref D2] 0), (D1, lst d1), (D2, lst d2), (L + 1 + 1 + 1, o3), (L + 1 + 1, o2), (224, tb)]) := fun q hq => N2 q (by
    rcases List.mem_cons.mp hq with h9 | h9
    · rw [h9]; exact .head _
    · exact .tail _ (.tail _ h9))
  clear N2 e1 e2
  k_extra "unf"
  (rename Fr _ _ _ _ => e1); (rename News _ _ _ _ => e2)
  refine call_useT0 (sld_ok w A1 A2 v1 v2 one two (Str.ofString "Ā") 0 0 _ hv1 hv2 (by omega (splitDisjunctions := true)) (by omega (splitDisjunctions := true)) (fun x hx => five_mx (h51 x hx)) (fun x hx => five_mx (h52 x hx)) (.tail _ (.head _)) (.head _)) B e1 X e2 T C rfl ?hd ?hu ?_
  case hd => ktr_room
  case hu => ktr_units
  rintro r9 led9 h9 tk9 ⟨TD, M, U, mv, uv, n1, n2, rfl, rfl, hmv, huv⟩ F9 N9
  rw [sld_law p1 p2 h51 h52] at hmv huv
  replace hmv : StrsAre mv (fil (onceK one one.length) two) := hmv
  replace huv : StrsAre uv (fil (onceK two two.length) one) := huv
  clear e1 e2
  (try dsimp only)
  (try k_fold)
  k_extra "unf"
  k_dflt (refine LCt.ListComp_T (F₀ := by k_asm) (by with_unfolding_all rfl) (by decide) (by rfl) (by decide) (by rfl) ?_)
  k_extra "unf"
  (rename Fr _ _ _ _ => lF); (rename News _ _ _ _ => lN)
  obtain ⟨FX, hFX, lN9⟩ := pack9 lN
  have mTD : (TD, ({ cls := .type "tuple", data := .seq #[Value.ref M, Value.ref U] } : Obj)) ∈ FX := by rw [hFX]; exact .head _
  have mM : (M, listOf mv.toArray n1) ∈ FX := by rw [hFX]; exact .tail _ (.head _)
  have mU : (U, listOf uv.toArray n2) ∈ FX := by rw [hFX]; exact .tail _ (.tail _ (.head _))
  have sub : ∀ q ∈ [(O, lst [Value.ref O1, Value.ref O2]), (O1, lst z1), (O2, lst z2), (P, listOf #[Value.ref E1, Value.ref E2] pn), (E1, listOf w1.toArray k1), (E2, listOf w2.toArray k2), (R, listOf #[.ref D1, .ref D2] 0), (D1, lst d1), (D2, lst d2), (L + 1 + 1 + 1, o3), (L + 1 + 1, o2), (224, tb)], q ∈ FX := by
    intro q hq
    rw [hFX]
    exact .tail _ (.tail _ (.tail _ (.tail _ (.tail _ hq))))
  have mO : (O, lst [Value.ref O1, Value.ref O2]) ∈ FX := sub _ (.head _)
  have mO1 : (O1, lst z1) ∈ FX := sub _ (.tail _ (.head _))
  have mO2 : (O2, lst z2) ∈ FX := sub _ (.tail _ (.tail _ (.head _)))
  have mE1 : (E1, listOf w1.toArray k1) ∈ FX := sub _ (.tail _ (.tail _ (.tail _ (.tail _ (.head _)))))
  have mE2 : (E2, listOf w2.toArray k2) ∈ FX := sub _ (.tail _ (.tail _ (.tail _ (.tail _ (.tail _ (.head _))))))
  have m3 : (L + 1 + 1 + 1, o3) ∈ FX := sub _ (.tail _ (.tail _ (.tail _ (.tail _ (.tail _ (.tail _ (.tail _ (.tail _ (.tail _ (.head _))))))))))
  have m2 : (L + 1 + 1, o2) ∈ FX := sub _ (.tail _ (.tail _ (.tail _ (.tail _ (.tail _ (.tail _ (.tail _ (.tail _ (.tail _ (.tail _ (.head _)))))))))))
  clear lN
  refine va_sub (v := .ref O1) (lN9.isList mO) (by decide) (by decide) rfl ?_
  refine CompSrcT.ledger (by rfl) lF lN9 mO1 (by rw [List.size_toArray, hz1.length]; have := onceK_len one one.length; unfold sizeLine; omega (splitDisjunctions := true)) ?_
  intro g9
  refine comp_indT (J := fun i zs news => (∀ q ∈ FX, q ∈ news) ∧ StrsAre zs (fil ((onceK one one.length).take i) two)) ?_ ?_ _ 0 [] _ (Nat.zero_add _) ⟨fun q h => h, .nil⟩
  · intro i zs news v I2 oI2 C2 oC2 D2' m₂ hh2 tk2 E8 hi2 hJ2 hP2 hC2 hx2 F2 N2 o2' ne2
    obtain ⟨hfx, hz⟩ := hJ2
    obtain ⟨hi9, tv, rfl⟩ := sa_item hz1 (by simpa using hP2)
    generalize hy9 : (onceK one one.length).getD i Str.empty = y9 at *
    clear lF lN9
    have c3 : (L + 1 + 1 + 1, o3) ∈ (I2, oI2) :: (C2, oC2) :: (D2', lst zs) :: news := .tail _ (.tail _ (.tail _ (hfx _ m3)))
    have c4 : (E2, listOf w2.toArray k2) ∈ (I2, oI2) :: (C2, oC2) :: (D2', lst zs) :: news := .tail _ (.tail _ (.tail _ (hfx _ mE2)))
    (try dsimp only)
    (try k_fold)
    k_extra "unf"
    (rename News _ _ _ _ => e2)
    refine notin_list_strs (e2.isList c4) hw2 ?_
    k_extra "unf"
    · (rename (two.any _) = true => c5); (rename Fr _ _ _ _ => e1); (rename News _ _ _ _ => e2)
      refine CompEnd.intro e1 e2 news (fun q hq => hq) o2' (.inr ⟨_, hfx _ mO1, rfl, _, rfl⟩) ⟨hfx, ?_⟩
      rw [fil_take hi9 hy9, if_pos c5, List.append_nil]
      exact hz
    · (rename (two.any _) = false => c5); (rename Fr _ _ _ _ => e1); (rename News _ _ _ _ => e2)
      refine CompEnd.intro e1 e2 news (fun q hq => hq) o2' (.inr ⟨_, hfx _ mO1, rfl, _, rfl⟩) ⟨hfx, ?_⟩
      rw [fil_take hi9 hy9, c5, if_neg (by decide)]
      exact strsAre_append hz (.cons _ _ .nil)
  rintro y8 news8 ⟨hfx, hy8⟩
  rw [List.size_toArray, hz1.length, List.take_length] at hy8
  clear lF lN9
  unfold LCg.FinE
  intro Da ha tka Fa Na oa
  have mO' : (O, lst [Value.ref O1, Value.ref O2]) ∈ (Da, lst y8) :: news8 := .tail _ (hfx _ mO)
  (try dsimp only)
  (try k_fold)
  k_extra "unf"
  k_dflt (refine LCt.ListComp_T (F₀ := by k_asm) (by with_unfolding_all rfl) (by decide) (by rfl) (by decide) (by rfl) ?_)
  k_extra "unf"
  (rename Fr _ _ _ _ => lF); (rename News _ _ _ _ => lN)
  refine va_sub (v := .ref O2) (lN.isList mO') (by decide) (by decide) rfl ?_
  refine CompSrcT.ledger (by rfl) lF lN (.tail _ (hfx _ mO2)) (by rw [List.size_toArray, hz2.length]; have := onceK_len two two.length; unfold sizeLine; omega (splitDisjunctions := true)) ?_
  intro g8
  refine comp_indT (J := fun i zs news => (∀ q ∈ (Da, lst y8) :: FX, q ∈ news) ∧ StrsAre zs (fil ((onceK two two.length).take i) one)) ?_ ?_ _ 0 [] _ (Nat.zero_add _) ⟨List.forall_mem_cons.mpr ⟨.head _, fun q h => .tail _ (hfx q h)⟩, .nil⟩
  · intro i zs news v I2 oI2 C2 oC2 D2' m₂ hh2 tk2 E8 hi2 hJ2 hP2 hC2 hx2 F2 N2 o2' ne2
    obtain ⟨hfy, hz⟩ := hJ2
    obtain ⟨hi9, tv, rfl⟩ := sa_item hz2 (by simpa using hP2)
    generalize hy9 : (onceK two two.length).getD i Str.empty = y9 at *
    clear lF lN
    have c3 : (L + 1 + 1, o2) ∈ (I2, oI2) :: (C2, oC2) :: (D2', lst zs) :: news := .tail _ (.tail _ (.tail _ (hfy _ (.tail _ m2))))
    have c4 : (E1, listOf w1.toArray k1) ∈ (I2, oI2) :: (C2, oC2) :: (D2', lst zs) :: news := .tail _ (.tail _ (.tail _ (hfy _ (.tail _ mE1))))
    (try dsimp only)
    (try k_fold)
    k_extra "unf"
    (rename News _ _ _ _ => e2)
    refine notin_list_strs (e2.isList c4) hw1 ?_
    k_extra "unf"
    · (rename (one.any _) = true => c5); (rename Fr _ _ _ _ => e1); (rename News _ _ _ _ => e2)
      refine CompEnd.intro e1 e2 news (fun q hq => hq) o2' (.inr ⟨_, hfy _ (.tail _ mO2), rfl, _, rfl⟩) ⟨hfy, ?_⟩
      rw [fil_take hi9 hy9, if_pos c5, List.append_nil]
      exact hz
    · (rename (one.any _) = false => c5); (rename Fr _ _ _ _ => e1); (rename News _ _ _ _ => e2)
      refine CompEnd.intro e1 e2 news (fun q hq => hq) o2' (.inr ⟨_, hfy _ (.tail _ mO2), rfl, _, rfl⟩) ⟨hfy, ?_⟩
      rw [fil_take hi9 hy9, c5, if_neg (by decide)]
      exact strsAre_append hz (.cons _ _ .nil)
  rintro y7 news7 ⟨hfy, hy7⟩
  rw [List.size_toArray, hz2.length, List.take_length] at hy7
  clear lF lN
  unfold LCg.FinE
  intro Db hb tkb Fb Nb ob
  (try dsimp only)
  (try k_fold)
  k_extra "unf"
  (rename Fr _ _ _ _ => e1); (rename News _ _ _ _ => e2)
  refine ne_sameT (ds := [Dat.list ((fil (onceK one one.length) two).map Dat.str), Dat.list ((fil (onceK two two.length) one).map Dat.str)]) (vs := [Value.ref M, Value.ref U]) (us := [Value.ref Da, Value.ref Db]) e2 (.tail _ (.tail _ (hfy _ (.tail _ mTD)))) (.head _)
    (.cons (.list (.tail _ (.tail _ (hfy _ (.tail _ mM)))) (strsAre_dat hmv)) (.one (.list (.tail _ (.tail _ (hfy _ (.tail _ mU)))) (strsAre_dat huv))))
    (.cons (.list (.tail _ (.tail _ (hfy _ (.head _)))) (strsAre_dat hy8)) (.one (.list (.tail _ (.head _)) (strsAre_dat hy7)))) ?_ ?_
  · rw [show depL [Dat.list ((fil (onceK one one.length) two).map Dat.str), Dat.list ((fil (onceK two two.length) one).map Dat.str)] = 1 by rw [depL, depL, depL, depD, depD, depL_map (fun _ => rfl), depL_map (fun _ => rfl)]; rfl]
    ktr_units
  repeat' ((fail_if_success (with_reducible show wpAny _ _ (execs (_ :: _) _) _ _ _)); (first | (k_unfold; (try dsimp only)) | walk1 | (dsimp only; walk1) | (leave1; (try dsimp only))))
  rw [← mset hmo] at e1
  exact hret _ _ e1 (fun q hq => e2 q (.tail _ (.tail _ (hfy _ (.tail _ (sub q hq))))))
end
section
open PyProof.Rows.LCg PyProof.Rows.LCt
theorem law6 {body : List Stmt} {scope : Scope} (hdef : lawSt = some (body, scope)) (w : World) (lo : List Str) (mean : ExcName → Option Value) (mg mb : Str → Option Value) (base : Heap) (L a : Addr) (ccd : Value) (s : Shared) (m : Str → Option Value)
    (B : Below callerA base [] base) (X : (frag w.params).In base) (T : Top topProg lo mean mg mb base) (C : CodeHd base 228 224) (R D1 D2 : Addr) (xs ys : List Str) (d1 d2 : List Value) (hd1 : StrsAre d1 xs) (hd2 : StrsAre d2 ys) (lx : xs.length ≤ 9) (ly : ys.length ≤ 9)
    (F : Fr base L s.heap m) (hmr : m (Str.ofString "rows") = some (.ref R)) (FX : List (Addr × Obj)) (mR : (R, listOf #[Value.ref D1, Value.ref D2] 0) ∈ FX) (mD1 : (D1, listOf d1.toArray d1.length) ∈ FX) (mD2 : (D2, listOf d2.toArray d2.length) ∈ FX)
    (N : News base L s.heap FX) (Q : Flow → Shared → Prop) (E : Value → Shared → Prop)
    (hret : ∀ (tk : Nat) (h' : Heap), Fr base L h' m → News base L h' FX →
      wpAny (model PySem.Challenge.rw_in0117_01.prog w) (lawA L a ccd scope) (execs (body.drop 8) (envX (Str.ofString "law") scope L a ccd (lawC L))) Q E { s with heap := h', toks := tk }) :
    wpAny (model PySem.Challenge.rw_in0117_01.prog w) (lawA L a ccd scope) (execs (body.drop 7) (envX (Str.ofString "law") scope L a ccd (lawC L))) Q E s := by
  rw [mset hmr] at F
  cases hdef
  (show wpAny _ _ (execs (_ :: _) _) _ _ _)
  (revert X; k_fill; intro X)
  k_extra "unf"
  refine va_sub (v := .ref D1) (N.isList mR) (by decide) (by decide) rfl ?_
  k_extra "unf"
  (rename News _ _ _ _ => e2); (rename StrsAre _ (cutS xs none none) => c1); (rename ∀ p ∈ FX, _ => l1)
  rw [cut_all] at c1
  refine va_sub (v := .ref D2) (e2.isList (.tail _ mR)) (by decide) (by decide) rfl ?_
  k_extra "unf"
  (rename Fr _ _ _ _ => e1); (rename News _ _ _ _ => e3); (rename StrsAre _ (cutS ys none none) => c2); (rename _ ∧ AllLt _ FX => l2)
  rw [cut_all] at c2
  refine call_useT0 (uld_ok w _ _ _ _ xs ys 0 0 FX c1 c2 (by omega (splitDisjunctions := true)) (by omega (splitDisjunctions := true)) (Nat.ne_of_lt l2.1) (fun q hq => Nat.ne_of_lt (l1 q hq)) (fun q hq => Nat.ne_of_lt (off_lt_r l2.2 q hq))) B e1 X (news_swap e3) T C rfl ?hd ?hu ?_
  case hd => ktr_room
  case hu => ktr_units
  rintro r9 led9 h9 tk9 ⟨TD, M, mv, uv, n1, n2, rfl, rfl, hmv, huv⟩ F9 N9
  rw [uld_more] at hmv huv
  replace hmv : StrsAre mv (tellA xs ys xs.length) := hmv
  replace huv : StrsAre uv (tellB xs ys ys.length) := huv
  (try clear e1); (try clear e2); (try clear e3)
  (try dsimp only)
  (try k_fold)
  k_extra "unf"
  refine va_sub (v := .ref D1) (N9.isList (.tail _ (.tail _ (.tail _ mR)))) (by decide) (by decide) rfl ?_
  k_extra "unf"
  refine va_sub (v := .ref D2) (N9.isList (.tail _ (.tail _ (.tail _ mR)))) (by decide) (by decide) rfl ?_
  k_extra "unf"
  refine call_use (more_ok w D1 D2 d1 d2 xs ys _ _ _ hd1 hd2 (by omega (splitDisjunctions := true)) (by omega (splitDisjunctions := true)) (.tail _ (.tail _ (.tail _ mD1))) (.tail _ (.tail _ (.tail _ mD2)))) B F9 X N9 T rfl ?hd ?hu ?_
  case hd => ktr_room
  case hu => ktr_units
  rintro r8 led8 h8 tk8 ⟨TE, M2, U2, mv2, uv2, n3, n4, rfl, rfl, hmv2, huv2⟩ F8 N8
  clear F9 N9
  (try dsimp only)
  (try k_fold)
  k_extra "unf"
  refine ne_sameT (ds := [Dat.list ((tellA xs ys xs.length).map Dat.str), Dat.list ((tellB xs ys ys.length).map Dat.str)]) (vs := [Value.ref M, Value.ref _]) (us := [Value.ref M2, Value.ref U2]) N8 (.tail _ (.tail _ (.tail _ (.head _)))) (.head _)
    (.cons (.list (.tail _ (.tail _ (.tail _ (.tail _ (.head _))))) (strsAre_dat hmv)) (.one (.list (.tail _ (.tail _ (.tail _ (.tail _ (.tail _ (.head _)))))) (strsAre_dat huv))))
    (.cons (.list (.tail _ (.head _)) (strsAre_dat hmv2)) (.one (.list (.tail _ (.tail _ (.head _))) (strsAre_dat huv2)))) ?_ ?_
  · rw [show depL [Dat.list ((tellA xs ys xs.length).map Dat.str), Dat.list ((tellB xs ys ys.length).map Dat.str)] = 1 by rw [depL, depL, depL, depD, depD, depL_map (fun _ => rfl), depL_map (fun _ => rfl)]; rfl]
    ktr_units
  repeat' ((fail_if_success (with_reducible show wpAny _ _ (execs (_ :: _) _) _ _ _)); (first | (k_unfold; (try dsimp only)) | walk1 | (dsimp only; walk1) | (leave1; (try dsimp only))))
  rw [← mset hmr] at F8
  exact hret _ _ F8 (fun q hq => N8 q (.tail _ (.tail _ (.tail _ (.tail _ (.tail _ (.tail _ hq)))))))
end
section
theorem wl_36 : True := by
  k_with "unf" => (repeat' (first | (k_unfold; (try dsimp only)) | ((first | (with_reducible show wpAny _ _ (execs _ _) _ _ _) | (with_reducible show wpAny _ _ (call _ _) _ _ _) | (with_reducible show wpAny _ _ (isTrue _ _ _) _ _ _) | (with_reducible show wpAny _ _ (truthy _) _ _ _)); k_fold) | ((fail_if_success first | (with_reducible show wpAny _ _ (call (Value.ref _) _) _ _ _) | (with_reducible show wpAny _ _ (call (Value.type _) _) _ _ _) | (with_reducible show wpAny _ _ (compareOp _ (Value.ref _) (Value.ref _)) _ _ _) | (with_reducible show wpAny _ _ (execs (Stmt.For _ _ _ _ _ :: _) _) _ _ _) | (with_reducible show KswEnd _ _ _ _ _ _ _ _ _ _ _ _) | (with_reducible show FlEnd _ _ _ _ _ _ _ _ _ _ _ _) | (with_reducible show F1End _ _ _ _ _ _ _ _ _ _ _) | (with_reducible show wpAny _ _ (exec (Stmt.While _ _ _ _) _) _ _ _) | (with_reducible show wpAny _ _ (exec (Stmt.For _ _ _ _ _) _) _ _ _) | (with_reducible show wpAny _ _ (pyIter _) (fun it s₂ => LoopAtV _ _ _ _ _ _ _ _ _ it s₂) _ _) | (with_reducible show wpAny _ _ (eval (PySem.Expr.ListComp _ _ _ _) _) _ _ _) | (with_reducible show wpAny _ _ (exec (Stmt.Assign _ (PySem.Expr.ListComp _ _ _ _) _) _) _ _ _) | (with_reducible show SrcRS _ _ _ _ _ _ _ _ _ _ _ _ _ _ _) | (with_reducible show LCg.CompSrc _ _ _ _ _ _ _ _ _ _ _ _ _ _) | (with_reducible show LCt.CompSrcT _ _ _ _ _ _ _ _ _ _ _ _ _ _ _) | (with_reducible show LCg.CompEnd _ _ _ _ _ _ _ _ _ _ _ _ _ _)); first | ((with_reducible show _ ∧ _); with_reducible (k_extra "own And")) | ((with_reducible show wpAny _ _ (binaryOp Operator.Add (Value.bytes _ _) (Value.bytes _ _)) _ _ _); with_reducible (k_extra "own binaryOp Add bytes bytes")) | ((with_reducible show wpAny _ _ (binaryOp Operator.Add (Value.ref _) (Value.ref _)) _ _ _); with_reducible (k_extra "own binaryOp Add ref ref")) | ((with_reducible show wpAny _ _ (binaryOp Operator.Mod (Value.str _ _) (Value.ref _)) _ _ _); with_reducible (k_extra "own binaryOp Mod str ref")) | ((with_reducible show wpAny _ _ (binaryOp Operator.RShift _ _) _ _ _); with_reducible (k_extra "own binaryOp RShift int int")) | ((with_reducible show wpAny _ _ (eval (PySem.Expr.Name _ _) _) _ _ _); with_reducible (k_extra "own eval Name")) | ((with_reducible show wpAny _ _ (exec (Stmt.Raise _ _ _) _) _ _ _); with_reducible (k_extra "own exec Raise some none")) | ((with_reducible show wpAny _ _ (getMethod (Value.bytes _ _) _ _) _ _ _); with_reducible (k_extra "own getMethod bytes")) | ((with_reducible show wpAny _ _ (getMethod (Value.ref _) _ _) _ _ _); with_reducible (k_extra "own getMethod ref")) | ((with_reducible show wpAny _ _ (getMethod (Value.str _ _) _ _) _ _ _); with_reducible (k_extra "own getMethod str")) | ((with_reducible show wpAny _ _ (leaving _ _) _ _ _); k_extra "own leaving ref") | ((with_reducible show wpAny _ _ (subscriptTail _ (PySem.Expr.Slice _ _ _ _) (Value.ref _) _) _ _ _); with_reducible (k_extra "own subscriptTail Name Slice ref ref")) | ((with_reducible show wpAny _ _ (truthy (Value.ref _)) _ _ _); with_reducible (k_extra "own truthy ref")) | walk1 | (dsimp only; walk1) | (leave1; walk_say "STEP leave1"; try dsimp only) | fail "no step")))
  trivial
open PyProof.Rows.LCg PyProof.Rows.LCt
theorem mis_at {own : List (Addr × Obj)} {vs : List Value} {rs : List (Int × Int × Str)} {v : Value} (hm : Mis own vs rs) : ∀ {i : Nat}, vs[i]? = some v → ∃ r, rs[i]? = some r ∧ MisIn own v r := by
  induction hm with
  | nil => intro i h; simp at h
  | cons a r ih =>
    intro i h
    cases i with
    | zero => exact ⟨_, rfl, by have := Option.some.inj h; rw [← this]; exact a⟩
    | succ i => exact ih (i := i) h
theorem mis_len {own : List (Addr × Obj)} {vs : List Value} {rs : List (Int × Int × Str)} (h : Mis own vs rs) : vs.length = rs.length := by
  induction h with
  | nil => rfl
  | cons _ r ih => rw [List.length_cons, List.length_cons, ih]
theorem stepC_len (xs ys : List Str) (told : List (Int × Int × Str)) (t : Str) : (stepC xs ys told t).length ≤ told.length + 1 := by
  unfold stepC
  split
  · rw [List.length_append]; exact Nat.le_refl _
  · omega (splitDisjunctions := true)
theorem rowsC_len (xs ys : List Str) : ∀ (l : List Str), (rowsC xs ys l).length ≤ l.length := by
  suffices h : ∀ (l : List Str) (told : List (Int × Int × Str)), (l.foldl (stepC xs ys) told).length ≤ told.length + l.length by
    intro l
    have := h l []
    rw [List.length_nil, Nat.zero_add] at this
    exact this
  intro l
  induction l with
  | nil => intro told; exact Nat.le_refl _
  | cons t l ih =>
    intro told
    have h1 := ih (stepC xs ys told t)
    have h2 := stepC_len xs ys told t
    rw [List.foldl_cons, List.length_cons]
    omega (splitDisjunctions := true)
theorem depL_rows : ∀ (rs : List (Int × Int × Str)), depL (rs.map rowD) ≤ 1
  | [] => Nat.zero_le _
  | r :: rs => by
    have := depL_rows rs
    rw [List.map_cons, depL]
    have e : depD (rowD r) = 1 := rfl
    rw [e]
    omega (splitDisjunctions := true)
theorem five_ok {x : Str} (h : x ∈ five) : PyData.strOk x = true := by
  simp only [five, List.mem_cons, List.not_mem_nil, or_false] at h
  rcases h with rfl | rfl | rfl | rfl | rfl <;> decide +kernel
theorem law7 {body : List Stmt} {scope : Scope} (hdef : lawSt = some (body, scope)) (w : World) (lo : List Str) (mean : ExcName → Option Value) (mg mb : Str → Option Value) (base : Heap) (L a : Addr) (ccd : Value) (s : Shared) (m : Str → Option Value)
    (B : Below callerA base [] base) (X : (frag w.params).In base) (T : Top topProg lo mean mg mb base) (E1 E2 : Addr) (one two : List Str) (w1 w2 : List Value) (k1 k2 : Nat) (tb o2 o3 : Obj) (h2 : o2.data = .cell (some (.ref E1))) (h3 : o3.data = .cell (some (.ref E2))) (hw1 : StrsAre w1 one) (hw2 : StrsAre w2 two) (h51 : ∀ x ∈ one, x ∈ five) (h52 : ∀ x ∈ two, x ∈ five) (lx : one.length ≤ 9) (ly : two.length ≤ 9)
    (F : Fr base L s.heap m) (N : News base L s.heap [(E1, listOf w1.toArray k1), (E2, listOf w2.toArray k2), (L + 1 + 1 + 1, o3), (L + 1 + 1, o2), (224, tb)]) (Q : Flow → Shared → Prop) (E : Value → Shared → Prop)
    (hret : ∀ (tk : Nat) (h' : Heap), Fr base L h' m → News base L h' [(E1, listOf w1.toArray k1), (E2, listOf w2.toArray k2), (L + 1 + 1 + 1, o3), (L + 1 + 1, o2), (224, tb)] →
      wpAny (model PySem.Challenge.rw_in0117_01.prog w) (lawA L a ccd scope) (execs (body.drop 9) (envX (Str.ofString "law") scope L a ccd (lawC L))) Q E { s with heap := h', toks := tk }) :
    wpAny (model PySem.Challenge.rw_in0117_01.prog w) (lawA L a ccd scope) (execs (body.drop 8) (envX (Str.ofString "law") scope L a ccd (lawC L))) Q E s := by
  cases hdef
  (show wpAny _ _ (execs (_ :: _) _) _ _ _)
  (revert X; k_fill; intro X)
  k_extra "unf"
  k_dflt (refine LCg.ListComp_U (F₀ := by k_asm) (by rfl) (by decide) (by rfl) (by decide) (by rfl) ?_)
  k_extra "unf"
  (rename Fr _ _ _ _ => e1); (rename News _ _ _ _ => e2)
  refine call_use (cdap_ok w E1 E2 w1 w2 one two k1 k2 _ hw1 hw2 (by omega (splitDisjunctions := true)) (by omega (splitDisjunctions := true)) (.head _) (.tail _ (.head _))) B e1 X e2 T rfl (by ktr_room) (by ktr_units) ?_
  rintro r9 led9 h9 tk9 ⟨DC, rv, kc, own, rfl, hmis, rfl⟩ F9 N9
  (try clear e1); (try clear e2)
  obtain ⟨FX, hFX, lN9⟩ := pack9 N9
  have mD : (DC, listOf rv.toArray kc) ∈ FX := by rw [hFX]; exact .head _
  have mO : ∀ q ∈ own, q ∈ FX := fun q hq => by rw [hFX]; exact .tail _ (List.mem_append_left _ hq)
  have mR : ∀ q ∈ [(E1, listOf w1.toArray k1), (E2, listOf w2.toArray k2), (L + 1 + 1 + 1, o3), (L + 1 + 1, o2), (224, tb)], q ∈ FX := fun q hq => by rw [hFX]; exact .tail _ (List.mem_append_right _ hq)
  clear N9
  (try dsimp only)
  have hlen := mis_len hmis
  have hrl := rowsC_len one two (one ++ two)
  rw [List.length_append] at hrl
  refine LCg.CompSrc.ledger (by rfl) F9 lN9 mD (by rw [List.size_toArray]; unfold sizeLine; omega (splitDisjunctions := true)) ?_
  intro g9
  generalize hrw : rowsC one two (one ++ two) = rows at *
  refine comp_ind (J := fun i ys news => (∀ q ∈ FX, q ∈ news) ∧ DatAll news ys ((rows.take i).map rowD)) ?_ ?_ _ 0 [] _ (Nat.zero_add _) ⟨fun q h => h, .nil⟩
  · intro i ys news v I oI C9 oC D m₂ h tk E9 hi hJ hP hC hx9 F N o ne
    obtain ⟨hfx, e9⟩ := hJ
    obtain ⟨r, hr9, Dm, dx, t1, t2, t3, rfl, hm⟩ := mis_at hmis (by simpa using hP)
    have hmm := hfx _ (mO _ hm)
    clear lN9 hP
    (try dsimp only)
    (try k_fold)
    k_extra "unf"
    (rename Fr _ _ _ _ => e1); (rename News _ _ _ _ => e2)
    have X9 : (frag w.params).In h := Frag.In.keeps (K := frag w.params) X e1.keep
    have hx := (e2 _ (.tail _ (.tail _ (.tail _ hmm)))).1
    dsimp only at hx
    have Y : SubTup (model PySem.Challenge.rw_in0117_01.prog w) h Dm 205 := ⟨(Looks.ld hx).andThen .now, looks_findIn X9 (by k_dflt k_is), looks_findIn X9 (by k_dflt k_is), looks_subIn X9 (by k_dflt k_is)⟩
    refine sub_tupleK e1 e2 Y rfl (.tail _ (.tail _ (.tail _ hmm))) rfl (by show 3 ≤ 1000; decide) (by show 0 < 3; decide) ?_
    intro Dt h' k' F' N' l'
    dsimp only [qk]
    refine CompEnd.intro F' N' ((Dt, ({ cls := .type "tuple", data := .seq #[.int r.1 t1, .int r.2.1 t2, .str r.2.2 t3] } : Obj)) :: news) (fun q hq => ?_) ⟨⟨Nat.ne_of_gt (l' _ (.head _)), Nat.ne_of_gt (l' _ (.tail _ (.head _))), Nat.ne_of_gt (l' _ (.tail _ (.tail _ (.head _))))⟩, o⟩ (.inr ⟨_, .tail _ (hfx _ mD), rfl, _, rfl⟩) ⟨fun q hq => .tail _ (hfx q hq), ?_⟩
    · revert q; repeat' (first | with_reducible refine List.forall_mem_cons.mpr ⟨?_, ?_⟩ | (intro _ hS9; (repeat (first | with_reducible exact hS9 | with_reducible refine List.mem_cons_of_mem _ ?_)); done) | with_reducible refine List.forall_mem_append.mpr ⟨?_, ?_⟩ | ((repeat (first | with_reducible exact List.mem_cons_self | with_reducible refine List.mem_cons_of_mem _ ?_)); done) | with_reducible exact fun _ h => absurd h List.not_mem_nil)
    · rw [List.take_add_one, hr9, List.map_append]
      exact (e9.mono fun q hq => .tail _ hq).append (.one (.tuple (vs := [.int r.1 t1, .int r.2.1 t2, .str r.2.2 t3]) (.head _) (.cons (.int _ _) (.cons (.int _ _) (.one (.str _ _))))))
  rintro ys8 news ⟨hfx, e8⟩
  rw [List.size_toArray, hlen, List.take_length] at e8
  clear F9 lN9
  unfold LCg.FinE
  intro Da ha tka Fa Na oa
  (try dsimp only)
  (try k_fold)
  have c1 : (L + 1 + 1, o2) ∈ (Da, lst ys8) :: news := .tail _ (hfx _ (mR _ (.tail _ (.tail _ (.tail _ (.head _))))))
  have c2 : (L + 1 + 1 + 1, o3) ∈ (Da, lst ys8) :: news := .tail _ (hfx _ (mR _ (.tail _ (.tail _ (.head _)))))
  k_extra "unf"
  have mE1 := mR _ (.head _)
  have mE2 := mR _ (.tail _ (.head _))
  refine call_use (counted_ok w E1 E2 w1 w2 one two k1 k2 _ hw1 hw2 (by omega (splitDisjunctions := true)) (by omega (splitDisjunctions := true)) (fun x hx => five_ok (h51 x hx)) (fun x hx => five_ok (h52 x hx)) (.tail _ (hfx _ mE1)) (.tail _ (hfx _ mE2))) B Fa X Na T rfl (by ktr_room) (by ktr_units) ?_
  rintro r8 led8 h8 tk8 ⟨DD, tv, kd, own2, rfl, hdat, rfl⟩ F8 N8
  rw [hrw] at hdat
  (try dsimp only [qk])
  k_extra "unf"
  refine ne_sameL (ds := rows.map rowD) N8 (.tail _ (List.mem_append_right _ (.head _))) (.head _) (e8.mono fun q hq => .tail _ (List.mem_append_right _ (.tail _ hq))) (hdat.mono fun q hq => .tail _ (List.mem_append_left _ hq)) ?_ ?_
  · refine Nat.lt_of_le_of_lt (Nat.add_le_add_left (depL_rows rows) _) ?_
    ktr_units
  repeat' ((fail_if_success (with_reducible show wpAny _ _ (execs (_ :: _) _) _ _ _)); (first | (k_unfold; (try dsimp only)) | walk1 | (dsimp only; walk1) | (leave1; (try dsimp only))))
  exact hret _ _ F8 (fun q hq => N8 q (.tail _ (List.mem_append_right _ (.tail _ (hfx _ (mR q hq))))))
end
theorem wl_37 : True := by
  k_with "unf" => (repeat' (first | (k_unfold; (try dsimp only)) | ((first | (with_reducible show wpAny _ _ (execs _ _) _ _ _) | (with_reducible show wpAny _ _ (call _ _) _ _ _) | (with_reducible show wpAny _ _ (isTrue _ _ _) _ _ _) | (with_reducible show wpAny _ _ (truthy _) _ _ _)); k_fold) | ((fail_if_success first | (with_reducible show wpAny _ _ (subscriptTail _ (PySem.Expr.UnaryOp _ _ _) (Value.ref _) _) _ _ _) | (with_reducible show wpAny _ _ (subscriptTail _ (PySem.Expr.Constant _ _ _) (Value.ref _) _) _ _ _) | (with_reducible show wpAny _ _ (binaryOp Operator.Add (Value.ref _) (Value.ref _)) _ _ _) | (with_reducible show wpAny _ _ (call (Value.ref _) _) _ _ _) | (with_reducible show wpAny _ _ (compareOp _ (Value.ref _) (Value.ref _)) _ _ _) | (with_reducible show wpAny _ _ (execs (Stmt.For _ _ _ _ _ :: _) _) _ _ _) | (with_reducible show KswEnd _ _ _ _ _ _ _ _ _ _ _ _) | (with_reducible show FlEnd _ _ _ _ _ _ _ _ _ _ _ _) | (with_reducible show F1End _ _ _ _ _ _ _ _ _ _ _) | (with_reducible show wpAny _ _ (exec (Stmt.While _ _ _ _) _) _ _ _) | (with_reducible show wpAny _ _ (exec (Stmt.For _ _ _ _ _) _) _ _ _) | (with_reducible show wpAny _ _ (pyIter _) (fun it s₂ => LoopAtV _ _ _ _ _ _ _ _ _ it s₂) _ _) | (with_reducible show wpAny _ _ (eval (PySem.Expr.ListComp _ _ _ _) _) _ _ _) | (with_reducible show wpAny _ _ (exec (Stmt.Assign _ (PySem.Expr.ListComp _ _ _ _) _) _) _ _ _) | (with_reducible show SrcRS _ _ _ _ _ _ _ _ _ _ _ _ _ _ _) | (with_reducible show LCg.CompSrc _ _ _ _ _ _ _ _ _ _ _ _ _ _) | (with_reducible show LCt.CompSrcT _ _ _ _ _ _ _ _ _ _ _ _ _ _ _) | (with_reducible show LCg.CompEnd _ _ _ _ _ _ _ _ _ _ _ _ _ _)); first | ((with_reducible show _ ∧ _); with_reducible (k_extra "own And")) | ((with_reducible show wpAny _ _ (binaryOp Operator.Add (Value.bytes _ _) (Value.bytes _ _)) _ _ _); with_reducible (k_extra "own binaryOp Add bytes bytes")) | ((with_reducible show wpAny _ _ (binaryOp Operator.Add (Value.ref _) (Value.ref _)) _ _ _); with_reducible (k_extra "own binaryOp Add ref ref")) | ((with_reducible show wpAny _ _ (binaryOp Operator.Mod (Value.str _ _) (Value.ref _)) _ _ _); with_reducible (k_extra "own binaryOp Mod str ref")) | ((with_reducible show wpAny _ _ (binaryOp Operator.RShift _ _) _ _ _); with_reducible (k_extra "own binaryOp RShift int int")) | ((with_reducible show wpAny _ _ (eval (PySem.Expr.Name _ _) _) _ _ _); with_reducible (k_extra "own eval Name")) | ((with_reducible show wpAny _ _ (exec (Stmt.Raise _ _ _) _) _ _ _); with_reducible (k_extra "own exec Raise some none")) | ((with_reducible show wpAny _ _ (getMethod (Value.bytes _ _) _ _) _ _ _); with_reducible (k_extra "own getMethod bytes")) | ((with_reducible show wpAny _ _ (getMethod (Value.ref _) _ _) _ _ _); with_reducible (k_extra "own getMethod ref")) | ((with_reducible show wpAny _ _ (getMethod (Value.str _ _) _ _) _ _ _); with_reducible (k_extra "own getMethod str")) | ((with_reducible show wpAny _ _ (leaving _ _) _ _ _); k_extra "own leaving ref") | ((with_reducible show wpAny _ _ (subscriptTail _ (PySem.Expr.Slice _ _ _ _) (Value.ref _) _) _ _ _); with_reducible (k_extra "own subscriptTail Name Slice ref ref")) | ((with_reducible show wpAny _ _ (truthy (Value.ref _)) _ _ _); with_reducible (k_extra "own truthy ref")) | walk1 | (dsimp only; walk1) | (leave1; walk_say "STEP leave1"; try dsimp only) | fail "no step")))
  trivial
section
open PyProof.Rows.LCg PyProof.Rows.LCt
theorem wr_ok {h₀ h : Heap} {L b : Addr} {M : Nat} {m : Str → Option Value} {news : List (Addr × Obj)} (F : Fr h₀ L h m) (hb : L < b) (hle : ∀ p ∈ news, p.1 ≤ M) (hM : M < b) : b ≠ L ∧ h₀.get? b = none ∧ ∀ p ∈ news, p.1 ≠ b :=
  ⟨Nat.ne_of_gt hb, Heap.get?_none_of_le (Nat.le_trans F.above (Nat.le_of_lt hb)), fun p hp => Nat.ne_of_lt (Nat.lt_of_le_of_lt (hle p hp) hM)⟩
theorem law8 {body : List Stmt} {scope : Scope} (hdef : lawSt = some (body, scope)) (w : World) (lo : List Str) (mean : ExcName → Option Value) (mg mb : Str → Option Value) (base : Heap) (L a : Addr) (ccd : Value) (s : Shared) (m : Str → Option Value)
    (B : Below callerA base [] base) (X : (frag w.params).In base) (T : Top topProg lo mean mg mb base) (E1 E2 : Addr) (one two : List Str) (w1 w2 : List Value) (k1 k2 : Nat) (tb o2 o3 : Obj) (h2 : o2.data = .cell (some (.ref E1))) (h3 : o3.data = .cell (some (.ref E2))) (hw1 : StrsAre w1 one) (hw2 : StrsAre w2 two) (l1 : 1 ≤ one.length) (lx : one.length ≤ 9) (ly : two.length ≤ 9)
    (F : Fr base L s.heap m) (N : News base L s.heap [(E1, listOf w1.toArray k1), (E2, listOf w2.toArray k2), (L + 1 + 1 + 1, o3), (L + 1 + 1, o2), (224, tb)]) (Q : Flow → Shared → Prop) (E : Value → Shared → Prop)
    (hret : ∀ (Dn : Addr) (us : List Value) (tk : Nat) (h' : Heap), IntsAre us (unl one two) → Fr base L h' (fun y => if y = Str.ofString "unlike" then some (.ref Dn) else m y) →
      News base L h' [(Dn, listOf us.toArray 0), (E1, listOf w1.toArray k1), (E2, listOf w2.toArray k2), (L + 1 + 1 + 1, o3), (L + 1 + 1, o2), (224, tb)] →
      wpAny (model PySem.Challenge.rw_in0117_01.prog w) (lawA L a ccd scope) (execs (body.drop 10) (envX (Str.ofString "law") scope L a ccd (lawC L))) Q E { s with heap := h', toks := tk }) :
    wpAny (model PySem.Challenge.rw_in0117_01.prog w) (lawA L a ccd scope) (execs (body.drop 9) (envX (Str.ofString "law") scope L a ccd (lawC L))) Q E s := by
  cases hdef
  (show wpAny _ _ (execs (_ :: _) _) _ _ _)
  (revert X; k_fill; intro X)
  k_extra "unf"
  k_dflt (refine ListComp_Z (_F₀ := by k_asm) (by with_unfolding_all rfl) (by rfl) (by decide) (fun n => by rfl) (fun h => by rfl) (by rfl) (by rfl) (by decide) ?_)
  k_extra "unf"
  (rename ZipApart _ _ _ _ _ _ _ => hA); (rename IsZip _ _ _ _ _ ∧ _ => hS); (rename Fr _ _ _ _ => lF); (rename News _ _ _ _ => lN); (rename ∀ p ∈ _, _ ≤ _ => hle); (rename _ < _ ∧ _ < _ ∧ _ < _ ∧ _ < _ => hL)
  obtain ⟨g1, g2, ⟨ga, gb, g3⟩, g4, g5, g6, g7⟩ := hS
  refine ⟨_, _, _, _, _, _, _, _, (fun i ys => IntsAre ys (unlP (one.take i) (two.take i))), rfl, rfl, (WalksT.zip2 rfl _ _ _ _ _ _ _ hA w1.toArray w2.toArray).toU, ?_, ⟨g1, g2, ⟨ga, gb, g3⟩, g4, g5, g6, g7⟩, ?_, lF, lN, ?_, ?_, .nil, ?_, ?_⟩
  · exact Nat.le_trans (Nat.min_le_left _ _) (by rw [List.size_toArray, hw1.length]; unfold sizeLine; omega (splitDisjunctions := true))
  · intro b hb
    simp only [List.mem_cons, List.not_mem_nil, or_false] at hb
    rcases hb with rfl | rfl | rfl | rfl | rfl | rfl | rfl
    · exact Heap.lt_size g1
    · exact Heap.lt_size g2
    · exact Heap.lt_size g3
    · obtain ⟨_, e, _⟩ := g4; exact Heap.lt_size e
    · obtain ⟨_, e, _⟩ := g5; exact Heap.lt_size e
    · obtain ⟨_, e, _⟩ := g6; exact Heap.lt_size e
    · obtain ⟨_, e, _⟩ := g7; exact Heap.lt_size e
  · intro b hb
    simp only [List.mem_cons, List.not_mem_nil, or_false] at hb
    rcases hb with rfl | rfl | rfl | rfl
    · exact wr_ok lF hL.1 hle (by assumption)
    · exact wr_ok lF hL.2.1 hle (by assumption)
    · exact wr_ok lF hL.2.2.1 hle (by assumption)
    · exact wr_ok lF hL.2.2.2 hle (by assumption)
  · rintro i vals ⟨x, y, _, _, e⟩
    exact ⟨x, y, e⟩
  · intro i ys v1 v2 C9 oC D9 m₂ h9 tk9 E9 hP hJ hC hx1 hx2 F9 N9
    obtain ⟨x, y, ex, ey, ee⟩ := hP
    obtain ⟨rfl, rfl⟩ : v1 = x ∧ v2 = y := by simpa using ee
    obtain ⟨hi1, t1, rfl⟩ := sa_item hw1 (by simpa using ex)
    obtain ⟨hi2, t2, rfl⟩ := sa_item hw2 (by simpa using ey)
    have j1 : one[i]? = some (one.getD i Str.empty) := by rw [List.getD_eq_getElem?_getD, List.getElem?_eq_getElem hi1]; rfl
    have j2 : two[i]? = some (two.getD i Str.empty) := by rw [List.getD_eq_getElem?_getD, List.getElem?_eq_getElem hi2]; rfl
    have hst := unlP_step i one two _ _ j1 j2
    clear ex ey ee j1 j2 lF lN g1 g2 g3 g4 g5 g6 g7
    generalize one.getD i Str.empty = xa at *
    generalize two.getD i Str.empty = ya at *
    (try dsimp only)
    (try k_fold)
    k_extra "unf"
    · (rename (xa != ya) = true => c1); (rename slt ya xa = true => c2)
      rw [hst, if_neg (bne_iff_ne.mp c1), if_pos c2]
      exact hJ.append (.cons _ _ .nil)
    · (rename (xa != ya) = true => c1); (rename slt ya xa = false => c2)
      rw [hst, if_neg (bne_iff_ne.mp c1), c2, if_neg (by decide)]
      exact hJ.append (.cons _ _ .nil)
    · (rename (xa != ya) = false => c1)
      rw [hst, if_pos (bne_eq_false_iff_eq.mp c1), List.append_nil]
      exact hJ
  · intro ys hJ
    simp only [List.size_toArray, hw1.length, hw2.length] at hJ
    rw [unlP_take _ _ _ (Nat.le_refl _)] at hJ
    clear lF lN g1 g2 g3 g4 g5 g6 g7
    unfold LCg.FinE
    intro Du hu tku Fu Nu ou
    (try dsimp only)
    (try k_fold)
    k_extra "unf"
    dsimp only [qk]
    (rename Fr _ _ _ _ => e1); (rename News _ _ _ _ => e2)
    have eI : (b2i (decide ((two.length : Int) < (one.length : Int))) - b2i (decide ((one.length : Int) < (two.length : Int)))) = b2i (decide (two.length < one.length)) - b2i (decide (one.length < two.length)) := by simp only [Int.ofNat_lt]
    refine kmk_add_ints (ns := unlP one two) (ms := [b2i (decide (two.length < one.length)) - b2i (decide (one.length < two.length))]) e1 e2 (e2.isList (.tail _ (.head _))) (e2.isList (.head _)) hJ (by rw [← eI]; exact .cons _ _ .nil) ?_ ?_
    · intro Dn us hn F1 N1 ln hus
      repeat' ((fail_if_success (with_reducible show wpAny _ _ (execs (_ :: _) _) _ _ _)); (first | (k_unfold; (try dsimp only)) | walk1 | (dsimp only; walk1) | (leave1; (try dsimp only))))
      (rename Fr _ _ _ _ => e5); (rename News _ _ _ _ => e6)
      refine hret Dn us _ _ hus e5 (fun q hq => e6 q ?_)
      rcases List.mem_cons.mp hq with h9 | hq
      · rw [h9]; exact .head _
      · exact .tail _ (.tail _ (.tail _ hq))
    · skip
      have := unlP_len one two
      simp only [List.length_cons, List.length_nil]
      unfold sizeLine
      omega (splitDisjunctions := true)
end
section
open PyProof.Rows.LCg PyProof.Rows.LCt
theorem arr4 {a b c d a' b' c' d' : Int} {t1 t2 t3 t4 : Tok} (h1 : a = a') (h2 : b = b') (h3 : c = c') (h4 : d = d') : (#[Value.int a t1, Value.int b t2, Value.int c t3, Value.int d t4] : Array Value) = #[Value.int a' t1, Value.int b' t2, Value.int c' t3, Value.int d' t4] := by rw [h1, h2, h3, h4]
theorem news_cmp {h₀ h : Heap} {L : Addr} {c x y d a1 a2 a3 a4 t : Addr × Obj} {l : List (Addr × Obj)} (N : News h₀ L h (c :: x :: y :: d :: a1 :: a2 :: a3 :: a4 :: t :: l)) : News h₀ L h [c, d, t] := fun q hq => N q (by
  revert q; repeat' (first | with_reducible refine List.forall_mem_cons.mpr ⟨?_, ?_⟩ | (intro _ hS9; (repeat (first | with_reducible exact hS9 | with_reducible refine List.mem_cons_of_mem _ ?_)); done) | with_reducible refine List.forall_mem_append.mpr ⟨?_, ?_⟩ | ((repeat (first | with_reducible exact List.mem_cons_self | with_reducible refine List.mem_cons_of_mem _ ?_)); done) | with_reducible exact fun _ h => absurd h List.not_mem_nil))
theorem law9 {body : List Stmt} {scope : Scope} (hdef : lawSt = some (body, scope)) (w : World) (lo : List Str) (mean : ExcName → Option Value) (mg mb : Str → Option Value) (base : Heap) (L a : Addr) (ccd : Value) (s : Shared) (m : Str → Option Value)
    (B : Below callerA base [] base) (X : (frag w.params).In base) (T : Top topProg lo mean mg mb base) (E1 E2 : Addr) (one two : List Str) (w1 w2 : List Value) (k1 k2 : Nat) (tb o2 o3 : Obj) (h2 : o2.data = .cell (some (.ref E1))) (h3 : o3.data = .cell (some (.ref E2))) (hw1 : StrsAre w1 one) (hw2 : StrsAre w2 two) (l1 : 1 ≤ one.length) (lx : one.length ≤ 9) (ly : two.length ≤ 9)
    (Dn : Addr) (us : List Value) (hus : IntsAre us (unl one two)) (F : Fr base L s.heap (fun y => if y = Str.ofString "unlike" then some (.ref Dn) else m y)) (N : News base L s.heap [(Dn, listOf us.toArray 0), (E1, listOf w1.toArray k1), (E2, listOf w2.toArray k2), (L + 1 + 1 + 1, o3), (L + 1 + 1, o2), (224, tb)]) (Q : Flow → Shared → Prop) (E : Value → Shared → Prop)
    (hret : ∀ (Cp : Addr) (t1 t2 t3 t4 : Tok) (tk : Nat) (h' : Heap), @Ne Nat Dn Cp → Fr base L h' (fun y => if y = Str.ofString "compared" then some (.ref Cp) else if y = Str.ofString "unlike" then some (.ref Dn) else m y) →
      News base L h' [(Cp, listOf #[Value.int (b2i (ltL two one) - b2i (ltL one two)) t1, Value.int (0 - (b2i (ltL two one) - b2i (ltL one two))) t2, Value.int 0 t3, Value.int (-1) t4] 0), (Dn, listOf us.toArray 0), (224, tb)] →
      wpAny (model PySem.Challenge.rw_in0117_01.prog w) (lawA L a ccd scope) (execs (body.drop 11) (envX (Str.ofString "law") scope L a ccd (lawC L))) Q E { s with heap := h', toks := tk }) :
    wpAny (model PySem.Challenge.rw_in0117_01.prog w) (lawA L a ccd scope) (execs (body.drop 10) (envX (Str.ofString "law") scope L a ccd (lawC L))) Q E s := by
  have c1 : (E1, listOf w1.toArray k1) ∈ [(E1, listOf w1.toArray k1), (E2, listOf w2.toArray k2), (L + 1 + 1 + 1, o3), (L + 1 + 1, o2), (224, tb)] := .head _
  cases hdef
  (show wpAny _ _ (execs (_ :: _) _) _ _ _)
  (revert X; k_fill; intro X)
  k_extra "unf"
  (rename Fr _ _ _ _ => e1); (rename News _ _ _ _ => e2)
  refine call_use (three_ok w E1 E2 w1 w2 one two k1 k2 _ hw1 hw2 (.tail _ (.head _)) (.tail _ (.tail _ (.head _)))) B e1 X e2 T rfl (by ktr_room) (by ktr_units) ?_
  rintro r9 led9 h9 tk9 ⟨t1, rfl, rfl⟩ F1 N1
  clear e1 e2
  (try dsimp only)
  (try k_fold)
  k_extra "unf"
  (rename Fr _ _ _ _ => e1); (rename News _ _ _ _ => e2)
  refine call_use (three_ok w E2 E1 w2 w1 two one k2 k1 _ hw2 hw1 (.tail _ (.tail _ (.head _))) (.tail _ (.head _))) B e1 X e2 T rfl (by ktr_room) (by ktr_units) ?_
  rintro r8 led8 h8 tk8 ⟨t2, rfl, rfl⟩ F2 N2
  (try clear e1); (try clear e2)
  (try dsimp only)
  (try k_fold)
  k_extra "unf"
  (rename Fr _ _ _ _ => e1); (rename News _ _ _ _ => e2); (rename StrsAre _ (cutS one none none) => c2)
  rw [cut_all] at c2
  refine call_use (three_ok w E1 _ w1 _ one one k1 0 _ hw1 c2 (.tail _ (.tail _ (.head _))) (.head _)) B e1 X e2 T rfl (by ktr_room) (by ktr_units) ?_
  rintro r7 led7 h7 tk7 ⟨t3, rfl, rfl⟩ F3 N3
  (try clear e1); (try clear e2)
  (try dsimp only)
  (try k_fold)
  k_extra "unf"
  (rename Fr _ _ _ _ => e1); (rename News _ _ _ _ => e2); (rename StrsAre _ (cutS one none (some _)) => c3)
  rw [cut_last] at c3
  refine call_use (three_ok w _ E1 _ w1 one.dropLast one 0 k1 _ c3 hw1 (.head _) (.tail _ (.tail _ (.tail _ (.head _))))) B e1 X e2 T rfl (by ktr_room) (by ktr_units) ?_
  rintro r6 led6 h6 tk6 ⟨t4, rfl, rfl⟩ F4 N4
  (try clear e1); (try clear e2)
  (try dsimp only)
  (try k_fold)
  repeat' ((fail_if_success (with_reducible show wpAny _ _ (execs (_ :: _) _) _ _ _)); (first | (k_unfold; (try dsimp only)) | walk1 | (dsimp only; walk1) | (leave1; (try dsimp only))))
  (rename Fr _ _ _ _ => e1); (rename News _ _ _ _ => e2)
  have y4 : b2i (ltL one one.dropLast) - b2i (ltL one.dropLast one) = -1 := by
    rw [(ltL_dropLast (show 0 < one.length by omega (splitDisjunctions := true))).1, (ltL_dropLast (show 0 < one.length by omega (splitDisjunctions := true))).2]
    rfl
  have e3 := news_cmp e2
  rw [arr4 (a := b2i (ltL two one) - b2i (ltL one two)) rfl (by omega (splitDisjunctions := true) : b2i (ltL one two) - b2i (ltL two one) = 0 - (b2i (ltL two one) - b2i (ltL one two))) (by omega (splitDisjunctions := true) : b2i (ltL one one) - b2i (ltL one one) = 0) y4] at e3
  refine hret _ _ _ _ _ _ _ ?_ e1 e3
  omega (splitDisjunctions := true)
end
section
open PyProof.Rows.LCg PyProof.Rows.LCt
theorem dat_int {own : List (Addr × Obj)} {i j : Int} {t : Tok} (h : i = j) : DatIn own (.int i t) (.int j) := h ▸ .int _ _
theorem unl_at {us : List Value} {one two : List Str} (h : IntsAre us (unl one two)) : ∃ t, us[0]? = some (.int (b2i (ltL two one) - b2i (ltL one two)) t) := by
  have hh := unl_head one two
  have hl := h.length
  cases us with
  | nil =>
    cases e : unl one two with
    | nil => rw [e] at hh; cases hh
    | cons z zs => rw [e] at hl; cases hl
  | cons v us =>
    obtain ⟨z, t, rfl, hz⟩ := h.at 0 v rfl
    refine ⟨t, ?_⟩
    rw [List.head?_eq_getElem?, hz] at hh
    rw [← Option.some.inj hh]
    rfl
theorem law10 {body : List Stmt} {scope : Scope} (hdef : lawSt = some (body, scope)) (w : World) (lo : List Str) (mean : ExcName → Option Value) (mg mb : Str → Option Value) (base : Heap) (L a : Addr) (ccd : Value) (s : Shared) (m : Str → Option Value)
    (B : Below callerA base [] base) (X : (frag w.params).In base) (T : Top topProg lo mean mg mb base) (tb : Obj) (one two : List Str)
    (Dn Cp : Addr) (us : List Value) (t1 t2 t3 t4 : Tok) (hus : IntsAre us (unl one two)) (F : Fr base L s.heap (fun y => if y = Str.ofString "compared" then some (.ref Cp) else if y = Str.ofString "unlike" then some (.ref Dn) else m y))
    (N : News base L s.heap [(Cp, listOf #[Value.int (b2i (ltL two one) - b2i (ltL one two)) t1, Value.int (0 - (b2i (ltL two one) - b2i (ltL one two))) t2, Value.int 0 t3, Value.int (-1) t4] 0), (Dn, listOf us.toArray 0), (224, tb)]) (Q : Flow → Shared → Prop) (E : Value → Shared → Prop)
    (hret : ∀ (tk : Nat) (h' : Heap) (m' : Str → Option Value), Fr base L h' m' → h'.get? 224 = some tb → Q (.ret (.bool true)) { s with heap := h', toks := tk }) :
    wpAny (model PySem.Challenge.rw_in0117_01.prog w) (lawA L a ccd scope) (execs (body.drop 11) (envX (Str.ofString "law") scope L a ccd (lawC L))) Q E s := by
  cases hdef
  obtain ⟨tu, hu0⟩ := unl_at hus
  generalize b2i (ltL two one) - b2i (ltL one two) = tt at *
  (show wpAny _ _ (execs (_ :: _) _) _ _ _)
  (revert X; k_fill; intro X)
  k_extra "unf"
  (rename News _ _ _ _ => e2)
  refine va_sub (e2.isList (.tail _ (.head _))) (by decide) (by decide) hu0 ?_
  k_extra "unf"
  (rename News _ _ _ _ => e2)
  refine va_sub (e2.isList (.tail _ (.head _))) (by decide) (by decide) hu0 ?_
  k_extra "unf"
  (rename Fr _ _ _ _ => e1); (rename News _ _ _ _ => e2)
  refine eq_sameL (ds := [Dat.int tt, Dat.int (0 - tt), Dat.int 0, Dat.int (-1)]) e2 (.tail _ (.head _)) (.head _) (.cons (.int _ _) (.cons (.int _ _) (.cons (.int _ _) (.one (.int _ _))))) (.cons (.int _ _) (.cons (.int _ _) (.cons (.int _ _) (.one (.int _ _))))) ?_ ?_
  · show _ + 1 + 0 < _
    ktr_units
  k_extra "unf"
  k_dflt (refine LCt.ListComp_T (F₀ := by k_asm) (by with_unfolding_all rfl) (by decide) (by rfl) (by decide) (by rfl) ?_)
  k_extra "unf"
  (rename Fr _ _ _ _ => lF); (rename News _ _ _ _ => lN)
  obtain ⟨FX, hFX, lN9⟩ := pack9 lN
  have mC : (Cp, listOf #[Value.int tt t1, Value.int (0 - tt) t2, Value.int 0 t3, Value.int (-1) t4] 0) ∈ FX := by rw [hFX]; exact .tail _ (.head _)
  have mT : (224, tb) ∈ FX := by rw [hFX]; exact .tail _ (.tail _ (.tail _ (.head _)))
  clear lN hFX
  refine CompSrcT.ledger (by rfl) lF lN9 mC (by show 4 ≤ sizeLine; unfold sizeLine; omega (splitDisjunctions := true)) ?_
  intro g9
  refine comp_indT (J := fun i zs news => news = FX ∧ zs = []) ?_ ?_ _ 0 [] _ (Nat.zero_add _) ⟨rfl, rfl⟩
  · intro i zs news v I2 oI2 C2 oC2 D2' m₂ hh2 tk2 E8 hi2 hJ2 hP2 hC2 hx2 F2 N2 o2' ne2
    obtain ⟨rfl, rfl⟩ := hJ2
    obtain ⟨k9, t9, rfl⟩ : ∃ k9 t9, v = Value.int k9 t9 := by
      match i, hP2 with
      | 0, h => exact ⟨_, _, (Option.some.inj h).symm⟩
      | 1, h => exact ⟨_, _, (Option.some.inj h).symm⟩
      | 2, h => exact ⟨_, _, (Option.some.inj h).symm⟩
      | 3, h => exact ⟨_, _, (Option.some.inj h).symm⟩
      | n + 4, h => exact absurd h (by simp)
    clear lF lN9 hP2
    (try dsimp only)
    (try k_fold)
    k_extra "unf"
    (rename Fr _ _ _ _ => e1); (rename News _ _ _ _ => e2)
    exact CompEnd.intro e1 e2 news (fun q hq => hq) o2' (.inr ⟨_, mC, rfl, _, rfl⟩) ⟨rfl, rfl⟩
  rintro zs news ⟨rfl, rfl⟩
  clear lF lN9
  unfold LCg.FinE
  intro Da ha tka Fa Na oa
  (try dsimp only)
  (try k_fold)
  k_extra "unf"
  dsimp only [qk]
  (rename Fr _ _ _ _ => e1); (rename News _ _ _ _ => e2)
  refine eq_sameL (vs := []) (us := []) (ds := []) e2 (.tail _ (.head _)) (.head _) .nil .nil ?_ ?_
  · show _ + 1 + 0 < _
    ktr_units
  exact hret _ _ _ e1 (e2 _ (.tail _ (.tail _ mT))).1
end
section
theorem lawAll {body : List Stmt} {scope : Scope} (hdef : lawSt = some (body, scope)) (w : World) (xs : List Int) (vs : List Value) (sa : Addr) (hI : IntsAre vs xs) (hx : xs.length ≤ 63) (lo : List Str) (mean : ExcName → Option Value) (mg mb : Str → Option Value) (base : Heap) (L a : Addr) (ccd : Value) (s : Shared)
    (o1 o2 o3 : Obj) (hsa : base.IsList sa vs.toArray) (B : Below callerA base [] base) (X : (frag w.params).In base) (T : Top topProg lo mean mg mb base) (C : CodeHd base 228 224) (F : Fr base L s.heap (fun y => if y = Str.ofString "script" then some (.ref sa) else none))
    (N : News base L s.heap [(L + 1 + 1 + 1, o3), (L + 1 + 1, o2), (L + 1, o1), (224, tabObj #[])]) (h1 : o1.data = .cell none) (h2 : o2.data = .cell none) (h3 : o3.data = .cell none) (l0 : @LT.lt Nat _ 224 L) (Q : Flow → Shared → Prop) (E : Value → Shared → Prop)
    (hE : PassesOwn (model PySem.Challenge.rw_in0117_01.prog w) (lawA L a ccd scope) (envX (Str.ofString "law") scope L a ccd (lawC L)) E)
    (hret : ∀ (tk : Nat) (h' : Heap) (m' : Str → Option Value) (ps : Array Value), Fr base L h' m' → h'.get? 224 = some (tabObj ps) → Q (.ret (.bool true)) { s with heap := h', toks := tk }) :
    wpAny (model PySem.Challenge.rw_in0117_01.prog w) (lawA L a ccd scope) (execs body (envX (Str.ofString "law") scope L a ccd (lawC L))) Q E s := by
  refine law1 hdef w xs vs sa hI hx lo mean mg mb base L a ccd s o1 o2 o3 hsa B X T C F N h1 h2 h3 l0 Q E fun R D1 D2 P d1 d2 tk1 g1 hf hd1 hd2 F1 N1 => ?_
  obtain ⟨q1, q2, q3, q4, q5, q6, q7, q8⟩ := hf
  refine law2 hdef w xs sa lo mean mg mb base L a ccd { s with heap := g1, toks := tk1 } o2 o3 B X T C R D1 D2 P d1 d2 hd1 hd2 l0 q1 q2 q3 q4 q6 q7 q8 F1 N1 Q E (fun E1 E2 w1 w2 k1 k2 pn ps tk2 g2 m2 hw1 hw2 e1 e2 F2 mr mp N2 => ?_) hE
  have la := rowA_len xs
  have lb := rowB_len xs
  obtain ⟨pa, sa1⟩ := popped_sorted (rowA xs)
  obtain ⟨pb, sb1⟩ := popped_sorted (rowB xs)
  refine law3 hdef w lo mean mg mb base L a ccd { s with heap := g2, toks := tk2 } m2 (tabObj ps) l0 o2 o3 h2 h3 B X T R D1 D2 P E1 E2 (rowA xs) (rowB xs) d1 d2 w1 w2 k1 k2 pn hd1 hd2 hw1 hw2 la.2 lb.2 q4 q6 q7.1 q7.2.1 q8.1 q8.2.1 e1.1 e1.2 e2.1 e2.2 F2 mr mp N2 Q E fun o2' o3' tk3 g3 c2 c3 F3 N3 => ?_
  generalize popN (rowA xs).length (pushAll (rowA xs)) = one at *
  generalize popN (rowB xs).length (pushAll (rowB xs)) = two at *
  have lo1 : one.length ≤ 9 := by rw [pa.length_eq]; exact la.2
  have lo2 : 1 ≤ one.length := by rw [pa.length_eq]; omega (splitDisjunctions := true)
  have lt1 : two.length ≤ 9 := by rw [pb.length_eq]; exact lb.2
  have f1 : ∀ x ∈ one, x ∈ five := fun x hx => row_five x (pa.mem_iff.mp hx)
  have f2 : ∀ x ∈ two, x ∈ five := fun x hx => row_five x (pb.mem_iff.mp hx)
  refine law4 hdef w lo mean mg mb base L a ccd { s with heap := g3, toks := tk3 } m2 B X T P E1 E2 pn one two w1 w2 k1 k2 hw1 hw2 lo1 lt1 F3 mp _ (.head _) (.tail _ (.head _)) (.tail _ (.tail _ (.head _))) N3 Q E fun O O1 O2 z1 z2 tk4 g4 hz1 hz2 F4 N4 => ?_
  refine law5 hdef w lo mean mg mb base L a ccd { s with heap := g4, toks := tk4 } _ B X T C O O1 O2 P E1 E2 R D1 D2 pn one two z1 z2 w1 w2 d1 d2 k1 k2 (tabObj ps) o2' o3' c2 c3 hz1 hz2 hw1 hw2 f1 f2 sa1 sb1 lo1 lt1 F4 (by rfl) N4 Q E fun tk5 g5 F5 N5 => ?_
  refine law6 hdef w lo mean mg mb base L a ccd { s with heap := g5, toks := tk5 } _ B X T C R D1 D2 (rowA xs) (rowB xs) d1 d2 hd1 hd2 la.2 lb.2 F5 (by show (if _ then _ else if _ then _ else _) = _; rw [if_neg (by decide +kernel), if_neg (by decide +kernel)]; exact mr) _ (.tail _ (.tail _ (.tail _ (.tail _ (.tail _ (.tail _ (.head _))))))) (.tail _ (.tail _ (.tail _ (.tail _ (.tail _ (.tail _ (.tail _ (.head _)))))))) (.tail _ (.tail _ (.tail _ (.tail _ (.tail _ (.tail _ (.tail _ (.tail _ (.head _))))))))) N5 Q E fun tk6 g6 F6 N6 => ?_
  have N7 : News base L g6 [(E1, listOf w1.toArray k1), (E2, listOf w2.toArray k2), (L + 1 + 1 + 1, o3'), (L + 1 + 1, o2'), (224, tabObj ps)] := fun q hq => N6 q (by
    revert q; repeat' (first | with_reducible refine List.forall_mem_cons.mpr ⟨?_, ?_⟩ | (intro _ hS9; (repeat (first | with_reducible exact hS9 | with_reducible refine List.mem_cons_of_mem _ ?_)); done) | with_reducible refine List.forall_mem_append.mpr ⟨?_, ?_⟩ | ((repeat (first | with_reducible exact List.mem_cons_self | with_reducible refine List.mem_cons_of_mem _ ?_)); done) | with_reducible exact fun _ h => absurd h List.not_mem_nil))
  refine law7 hdef w lo mean mg mb base L a ccd { s with heap := g6, toks := tk6 } _ B X T E1 E2 one two w1 w2 k1 k2 (tabObj ps) o2' o3' c2 c3 hw1 hw2 f1 f2 lo1 lt1 F6 N7 Q E fun tk7 g7 F7 N8 => ?_
  refine law8 hdef w lo mean mg mb base L a ccd { s with heap := g7, toks := tk7 } _ B X T E1 E2 one two w1 w2 k1 k2 (tabObj ps) o2' o3' c2 c3 hw1 hw2 lo2 lo1 lt1 F7 N8 Q E fun Dn us tk8 g8 hus F8 N9 => ?_
  refine law9 hdef w lo mean mg mb base L a ccd { s with heap := g8, toks := tk8 } _ B X T E1 E2 one two w1 w2 k1 k2 (tabObj ps) o2' o3' c2 c3 hw1 hw2 lo2 lo1 lt1 Dn us hus F8 N9 Q E fun Cp t1 t2 t3 t4 tk9 g9 hne F9 N10 => ?_
  exact law10 hdef w lo mean mg mb base L a ccd { s with heap := g9, toks := tk9 } _ B X T (tabObj ps) one two Dn Cp us t1 t2 t3 t4 hus F9 N10 Q E fun tk10 g10 m10 F10 e10 => hret tk10 g10 m10 ps F10 e10
end
section
open PyProof.Rows.LCg PyProof.Rows.LCt
theorem topHolds : PySem.Challenge.rw_in0117_01.Holds := by
  refine topHead (by rfl) (by rfl) (by rfl) ?_
  k_go0
  (all_goals try k_fold)
  dsimp only
  (rename Fr _ _ _ _ => eF); (rename News _ _ _ _ => eN); (rename IntsAre _ _ => eI); (rename Below _ _ _ _ => eB); (rename Top topProg _ _ _ _ _ => eT); (rename CodeHd _ _ _ => eC); (rename Frag.In _ _ => eX)
  refine lawAll (by rfl) _ _ _ _ eI ?hx _ _ _ _ _ _ _ _ _ _ _ _ ?hsa eB eX eT eC eF eN ?h1 ?h2 ?h3 ?l0 _ _ ?hE ?hret
  case hx => omega (splitDisjunctions := true)
  case hsa => assumption
  case h1 => assumption
  case h2 => assumption
  case h3 => assumption
  case l0 => assumption
  case hE => passes_own
  case hret =>
    intro tk h' m' ps F9 e9
    refine ⟨?_, ⟨⟨ps, e9⟩, trivial⟩⟩
    dsimp only
    kc_close
end
end
end
end Mine
theorem PySem.Challenge.cw_in0117_01_holds : PySem.Challenge.rw_in0117_01.Holds := by
  exact Mine.topHolds
