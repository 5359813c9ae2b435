import PyProof.Rows.All
import Wide.All
import OpenK.AllK
import Wide.FinOn
import PySem.Challenge.RW_mg0065_01
set_option Elab.async false
set_option maxRecDepth 100000
set_option linter.unusedVariables false
section
open PySem PySem.W PySem.Calls PyProof.Rows
namespace Mine

/-- the i-th row of the given text, and what a def says -/
def pick : List Stmt → Nat → Stmt
  | [], _ => .Pass default
  | s :: _, 0 => s
  | _ :: l, n + 1 => pick l n
def st (i : Nat) : Stmt := pick PySem.Challenge.pw_mg0065_01.main.body i
def inCls : Stmt → List Stmt
  | .ClassDef _ _ _ b .. => b
  | _ => []
def mth (i j : Nat) : Stmt := pick (inCls (st i)) j
def pars : Stmt → Arguments
  | .FunctionDef _ a .. => a
  | _ => default
def txt : Stmt → List Stmt
  | .FunctionDef _ _ b .. => b
  | _ => []
def scp : Stmt → Scope
  | .FunctionDef _ _ _ _ _ _ s .. => s
  | _ => default

/-- the largest of them -/
noncomputable def kOb3 (P : Params) : Obj :=
  { cls := Value.type "dict", data := Data.dict #[{ hash := PyData.keyHash P (Str.ofString "__name__"), key := Value.str (Str.ofString "__name__") 165, val := Value.str (Str.ofString "law_mg0065_01") 483 }, { hash := PyData.keyHash P (Str.ofString "__doc__"), key := Value.str (Str.ofString "__doc__") 166, val := Value.none }, { hash := PyData.keyHash P (Str.ofString "__package__"), key := Value.str (Str.ofString "__package__") 167, val := Value.none }, { hash := PyData.keyHash P (Str.ofString "__loader__"), key := Value.str (Str.ofString "__loader__") 168, val := Value.builtin "__main__.__loader__#opaque" }, { hash := PyData.keyHash P (Str.ofString "__spec__"), key := Value.str (Str.ofString "__spec__") 169, val := Value.none }, { hash := PyData.keyHash P (Str.ofString "__annotations__"), key := Value.str (Str.ofString "__annotations__") 170, val := Value.ref 6 }, { hash := PyData.keyHash P (Str.ofString "__builtins__"), key := Value.str (Str.ofString "__builtins__") 171, val := Value.ref 4 }, { hash := PyData.keyHash P (Str.ofString "__file__"), key := Value.str (Str.ofString "__file__") 173, val := Value.str (Str.ofString "/claim/cut.py") 172 }, { hash := PyData.keyHash P (Str.ofString "__cached__"), key := Value.str (Str.ofString "__cached__") 174, val := Value.none }, { hash := PyData.keyHash P (Str.ofString "_format_size"), key := Value.str (Str.ofString "_format_size") 197, val := Value.ref 21 }, { hash := PyData.keyHash P (Str.ofString "Statistic"), key := Value.str (Str.ofString "Statistic") 274, val := Value.ref 75 }, { hash := PyData.keyHash P (Str.ofString "StatisticDiff"), key := Value.str (Str.ofString "StatisticDiff") 361, val := Value.ref 134 }, { hash := PyData.keyHash P (Str.ofString "_compare_grouped_stats"), key := Value.str (Str.ofString "_compare_grouped_stats") 373, val := Value.ref 148 }, { hash := PyData.keyHash P (Str.ofString "heappop"), key := Value.str (Str.ofString "heappop") 384, val := Value.ref 155 }, { hash := PyData.keyHash P (Str.ofString "heapreplace"), key := Value.str (Str.ofString "heapreplace") 393, val := Value.ref 162 }, { hash := PyData.keyHash P (Str.ofString "heapify"), key := Value.str (Str.ofString "heapify") 402, val := Value.ref 169 }, { hash := PyData.keyHash P (Str.ofString "_heapreplace_max"), key := Value.str (Str.ofString "_heapreplace_max") 411, val := Value.ref 176 }, { hash := PyData.keyHash P (Str.ofString "_heapify_max"), key := Value.str (Str.ofString "_heapify_max") 420, val := Value.ref 183 }, { hash := PyData.keyHash P (Str.ofString "_siftdown"), key := Value.str (Str.ofString "_siftdown") 432, val := Value.ref 190 }, { hash := PyData.keyHash P (Str.ofString "_siftup"), key := Value.str (Str.ofString "_siftup") 445, val := Value.ref 197 }, { hash := PyData.keyHash P (Str.ofString "_siftdown_max"), key := Value.str (Str.ofString "_siftdown_max") 457, val := Value.ref 204 }, { hash := PyData.keyHash P (Str.ofString "_siftup_max"), key := Value.str (Str.ofString "_siftup_max") 470, val := Value.ref 211 }, { hash := PyData.keyHash P (Str.ofString "nsmallest"), key := Value.str (Str.ofString "nsmallest") 476, val := Value.ref 217 }, { hash := PyData.keyHash P (Str.ofString "nlargest"), key := Value.str (Str.ofString "nlargest") 482, val := Value.ref 223 }, { hash := PyData.keyHash P (Str.ofString "_law_tables"), key := Value.str (Str.ofString "_law_tables") 496, val := Value.ref 230 }, { hash := PyData.keyHash P (Str.ofString "_law_stats"), key := Value.str (Str.ofString "_law_stats") 505, val := Value.ref 237 }, { hash := PyData.keyHash P (Str.ofString "_law_due"), key := Value.str (Str.ofString "_law_due") 519, val := Value.ref 244 }, { hash := PyData.keyHash P (Str.ofString "_law_fields"), key := Value.str (Str.ofString "_law_fields") 526, val := Value.ref 251 }, { hash := PyData.keyHash P (Str.ofString "_law_few"), key := Value.str (Str.ofString "_law_few") 532, val := Value.ref 256 }, { hash := PyData.keyHash P (Str.ofString "_law_heap"), key := Value.str (Str.ofString "_law_heap") 538, val := Value.ref 261 }, { hash := PyData.keyHash P (Str.ofString "_law_sums"), key := Value.str (Str.ofString "_law_sums") 544, val := Value.ref 266 }, { hash := PyData.keyHash P (Str.ofString "law"), key := Value.str (Str.ofString "law") 550, val := Value.ref 271 }] 32 }
/-- the largest of them -/
noncomputable def kOb74 (P : Params) : Obj :=
  { cls := Value.type "dict", data := Data.dict #[{ hash := PyData.keyHash P (Str.ofString "__module__"), key := Value.str (Str.ofString "__module__") 205, val := Value.str (Str.ofString "cpy313.tracemalloc") 187 }, { hash := PyData.keyHash P (Str.ofString "__firstlineno__"), key := Value.str (Str.ofString "__firstlineno__") 209, val := Value.int 15 208 }, { hash := PyData.keyHash P (Str.ofString "__slots__"), key := Value.str (Str.ofString "__slots__") 213, val := Value.ref 29 }, { hash := PyData.keyHash P (Str.ofString "__init__"), key := Value.str (Str.ofString "__init__") 223, val := Value.ref 36 }, { hash := PyData.keyHash P (Str.ofString "__hash__"), key := Value.str (Str.ofString "__hash__") 230, val := Value.ref 43 }, { hash := PyData.keyHash P (Str.ofString "__eq__"), key := Value.str (Str.ofString "__eq__") 238, val := Value.ref 50 }, { hash := PyData.keyHash P (Str.ofString "__str__"), key := Value.str (Str.ofString "__str__") 247, val := Value.ref 57 }, { hash := PyData.keyHash P (Str.ofString "__repr__"), key := Value.str (Str.ofString "__repr__") 254, val := Value.ref 64 }, { hash := PyData.keyHash P (Str.ofString "_sort_key"), key := Value.str (Str.ofString "_sort_key") 261, val := Value.ref 71 }, { hash := PyData.keyHash P (Str.ofString "__static_attributes__"), key := Value.str (Str.ofString "__static_attributes__") 265, val := Value.ref 72 }, { hash := PyData.keyHash P (Str.ofString "count"), key := Value.str (Str.ofString "count") 267, val := Value.ref 76 }, { hash := PyData.keyHash P (Str.ofString "size"), key := Value.str (Str.ofString "size") 269, val := Value.ref 77 }, { hash := PyData.keyHash P (Str.ofString "traceback"), key := Value.str (Str.ofString "traceback") 271, val := Value.ref 78 }, { hash := PyData.keyHash P (Str.ofString "__doc__"), key := Value.str (Str.ofString "__doc__") 272, val := Value.none }] 5 }
/-- the largest of them -/
noncomputable def kOb133 (P : Params) : Obj :=
  { cls := Value.type "dict", data := Data.dict #[{ hash := PyData.keyHash P (Str.ofString "__module__"), key := Value.str (Str.ofString "__module__") 282, val := Value.str (Str.ofString "cpy313.tracemalloc") 187 }, { hash := PyData.keyHash P (Str.ofString "__firstlineno__"), key := Value.str (Str.ofString "__firstlineno__") 286, val := Value.int 43 285 }, { hash := PyData.keyHash P (Str.ofString "__slots__"), key := Value.str (Str.ofString "__slots__") 292, val := Value.ref 88 }, { hash := PyData.keyHash P (Str.ofString "__init__"), key := Value.str (Str.ofString "__init__") 304, val := Value.ref 95 }, { hash := PyData.keyHash P (Str.ofString "__hash__"), key := Value.str (Str.ofString "__hash__") 311, val := Value.ref 102 }, { hash := PyData.keyHash P (Str.ofString "__eq__"), key := Value.str (Str.ofString "__eq__") 319, val := Value.ref 109 }, { hash := PyData.keyHash P (Str.ofString "__str__"), key := Value.str (Str.ofString "__str__") 328, val := Value.ref 116 }, { hash := PyData.keyHash P (Str.ofString "__repr__"), key := Value.str (Str.ofString "__repr__") 335, val := Value.ref 123 }, { hash := PyData.keyHash P (Str.ofString "_sort_key"), key := Value.str (Str.ofString "_sort_key") 342, val := Value.ref 130 }, { hash := PyData.keyHash P (Str.ofString "__static_attributes__"), key := Value.str (Str.ofString "__static_attributes__") 348, val := Value.ref 131 }, { hash := PyData.keyHash P (Str.ofString "count"), key := Value.str (Str.ofString "count") 350, val := Value.ref 135 }, { hash := PyData.keyHash P (Str.ofString "count_diff"), key := Value.str (Str.ofString "count_diff") 352, val := Value.ref 136 }, { hash := PyData.keyHash P (Str.ofString "size"), key := Value.str (Str.ofString "size") 354, val := Value.ref 137 }, { hash := PyData.keyHash P (Str.ofString "size_diff"), key := Value.str (Str.ofString "size_diff") 356, val := Value.ref 138 }, { hash := PyData.keyHash P (Str.ofString "traceback"), key := Value.str (Str.ofString "traceback") 358, val := Value.ref 139 }, { hash := PyData.keyHash P (Str.ofString "__doc__"), key := Value.str (Str.ofString "__doc__") 359, val := Value.none }] 7 }
/-- what the top leaves: the objects that the law comes to -/
noncomputable def K : Params → Frag := fun P =>
  (nat_lit 2, ({ cls := Value.none, data := Data.dict #[] } : Obj)) ::
  (nat_lit 3, kOb3 P) ::
  (nat_lit 15, ({ cls := Value.type "tuple", data := Data.seq #[] } : Obj)) ::
  (nat_lit 17, ({ cls := Value.type "tuple", data := Data.seq #[Value.str (Str.ofString "size") 192, Value.str (Str.ofString "sign") 193, Value.str (Str.ofString "unit") 194] } : Obj)) ::
  (nat_lit 18, ({ cls := Value.type "tuple", data := Data.seq #[] } : Obj)) ::
  (nat_lit 20, ({ cls := Value.type "code", data := Data.fields #[Value.str (Str.ofString "_format_size") 189, Value.str (Str.ofString "_format_size") 190, Value.str (Str.ofString "/claim/cut.py") 191, Value.int 2 0, Value.int 2 0, Value.int 0 0, Value.int 0 0, Value.int 3 0, Value.ref 15, Value.bool true, Value.int 181 0, Value.ref 16, Value.none, Value.ref 17, Value.ref 18, Value.ref 19, Value.int 195 0, Value.int 2 0, Value.str (Str.ofString "/claim/cut.py") 196] } : Obj)) ::
  (nat_lit 21, ({ cls := Value.type "function", data := Data.func { name := Str.ofString "_format_size", qualname := Str.ofString "_format_size", params := pars (st 1), body := FuncBody.stmts (txt (st 1)), scope := scp (st 1), globals := 3, closure := [], defaults := Value.none, kwdefaults := Value.none, pyModule := Value.str (Str.ofString "cpy313.tracemalloc") 187, code := Value.ref 20 } } : Obj)) ::
  (nat_lit 29, ({ cls := Value.type "tuple", data := Data.seq #[Value.str (Str.ofString "traceback") 210, Value.str (Str.ofString "size") 211, Value.str (Str.ofString "count") 212] } : Obj)) ::
  (nat_lit 30, ({ cls := Value.type "tuple", data := Data.seq #[] } : Obj)) ::
  (nat_lit 32, ({ cls := Value.type "tuple", data := Data.seq #[Value.str (Str.ofString "self") 217, Value.str (Str.ofString "traceback") 218, Value.str (Str.ofString "size") 219, Value.str (Str.ofString "count") 220] } : Obj)) ::
  (nat_lit 33, ({ cls := Value.type "tuple", data := Data.seq #[] } : Obj)) ::
  (nat_lit 35, ({ cls := Value.type "code", data := Data.fields #[Value.str (Str.ofString "__init__") 214, Value.str (Str.ofString "Statistic.__init__") 215, Value.str (Str.ofString "/claim/cut.py") 216, Value.int 18 0, Value.int 4 0, Value.int 0 0, Value.int 0 0, Value.int 3 0, Value.ref 30, Value.bool true, Value.int 181 0, Value.ref 31, Value.none, Value.ref 32, Value.ref 33, Value.ref 34, Value.int 221 0, Value.int 18 0, Value.str (Str.ofString "/claim/cut.py") 222] } : Obj)) ::
  (nat_lit 36, ({ cls := Value.type "function", data := Data.func { name := Str.ofString "__init__", qualname := Str.ofString "Statistic.__init__", params := pars (mth 2 1), body := FuncBody.stmts (txt (mth 2 1)), scope := scp (mth 2 1), globals := 3, closure := [], defaults := Value.none, kwdefaults := Value.none, pyModule := Value.str (Str.ofString "cpy313.tracemalloc") 187, code := Value.ref 35 } } : Obj)) ::
  (nat_lit 37, ({ cls := Value.type "tuple", data := Data.seq #[] } : Obj)) ::
  (nat_lit 39, ({ cls := Value.type "tuple", data := Data.seq #[Value.str (Str.ofString "self") 227] } : Obj)) ::
  (nat_lit 40, ({ cls := Value.type "tuple", data := Data.seq #[] } : Obj)) ::
  (nat_lit 42, ({ cls := Value.type "code", data := Data.fields #[Value.str (Str.ofString "__hash__") 224, Value.str (Str.ofString "Statistic.__hash__") 225, Value.str (Str.ofString "/claim/cut.py") 226, Value.int 23 0, Value.int 1 0, Value.int 0 0, Value.int 0 0, Value.int 3 0, Value.ref 37, Value.bool true, Value.int 181 0, Value.ref 38, Value.none, Value.ref 39, Value.ref 40, Value.ref 41, Value.int 228 0, Value.int 23 0, Value.str (Str.ofString "/claim/cut.py") 229] } : Obj)) ::
  (nat_lit 43, ({ cls := Value.type "function", data := Data.func { name := Str.ofString "__hash__", qualname := Str.ofString "Statistic.__hash__", params := pars (mth 2 2), body := FuncBody.stmts (txt (mth 2 2)), scope := scp (mth 2 2), globals := 3, closure := [], defaults := Value.none, kwdefaults := Value.none, pyModule := Value.str (Str.ofString "cpy313.tracemalloc") 187, code := Value.ref 42 } } : Obj)) ::
  (nat_lit 44, ({ cls := Value.type "tuple", data := Data.seq #[] } : Obj)) ::
  (nat_lit 46, ({ cls := Value.type "tuple", data := Data.seq #[Value.str (Str.ofString "self") 234, Value.str (Str.ofString "other") 235] } : Obj)) ::
  (nat_lit 47, ({ cls := Value.type "tuple", data := Data.seq #[] } : Obj)) ::
  (nat_lit 49, ({ cls := Value.type "code", data := Data.fields #[Value.str (Str.ofString "__eq__") 231, Value.str (Str.ofString "Statistic.__eq__") 232, Value.str (Str.ofString "/claim/cut.py") 233, Value.int 26 0, Value.int 2 0, Value.int 0 0, Value.int 0 0, Value.int 3 0, Value.ref 44, Value.bool true, Value.int 181 0, Value.ref 45, Value.none, Value.ref 46, Value.ref 47, Value.ref 48, Value.int 236 0, Value.int 26 0, Value.str (Str.ofString "/claim/cut.py") 237] } : Obj)) ::
  (nat_lit 50, ({ cls := Value.type "function", data := Data.func { name := Str.ofString "__eq__", qualname := Str.ofString "Statistic.__eq__", params := pars (mth 2 3), body := FuncBody.stmts (txt (mth 2 3)), scope := scp (mth 2 3), globals := 3, closure := [], defaults := Value.none, kwdefaults := Value.none, pyModule := Value.str (Str.ofString "cpy313.tracemalloc") 187, code := Value.ref 49 } } : Obj)) ::
  (nat_lit 51, ({ cls := Value.type "tuple", data := Data.seq #[] } : Obj)) ::
  (nat_lit 53, ({ cls := Value.type "tuple", data := Data.seq #[Value.str (Str.ofString "self") 242, Value.str (Str.ofString "text") 243, Value.str (Str.ofString "average") 244] } : Obj)) ::
  (nat_lit 54, ({ cls := Value.type "tuple", data := Data.seq #[] } : Obj)) ::
  (nat_lit 56, ({ cls := Value.type "code", data := Data.fields #[Value.str (Str.ofString "__str__") 239, Value.str (Str.ofString "Statistic.__str__") 240, Value.str (Str.ofString "/claim/cut.py") 241, Value.int 31 0, Value.int 1 0, Value.int 0 0, Value.int 0 0, Value.int 3 0, Value.ref 51, Value.bool true, Value.int 181 0, Value.ref 52, Value.none, Value.ref 53, Value.ref 54, Value.ref 55, Value.int 245 0, Value.int 31 0, Value.str (Str.ofString "/claim/cut.py") 246] } : Obj)) ::
  (nat_lit 57, ({ cls := Value.type "function", data := Data.func { name := Str.ofString "__str__", qualname := Str.ofString "Statistic.__str__", params := pars (mth 2 4), body := FuncBody.stmts (txt (mth 2 4)), scope := scp (mth 2 4), globals := 3, closure := [], defaults := Value.none, kwdefaults := Value.none, pyModule := Value.str (Str.ofString "cpy313.tracemalloc") 187, code := Value.ref 56 } } : Obj)) ::
  (nat_lit 58, ({ cls := Value.type "tuple", data := Data.seq #[] } : Obj)) ::
  (nat_lit 60, ({ cls := Value.type "tuple", data := Data.seq #[Value.str (Str.ofString "self") 251] } : Obj)) ::
  (nat_lit 61, ({ cls := Value.type "tuple", data := Data.seq #[] } : Obj)) ::
  (nat_lit 63, ({ cls := Value.type "code", data := Data.fields #[Value.str (Str.ofString "__repr__") 248, Value.str (Str.ofString "Statistic.__repr__") 249, Value.str (Str.ofString "/claim/cut.py") 250, Value.int 38 0, Value.int 1 0, Value.int 0 0, Value.int 0 0, Value.int 3 0, Value.ref 58, Value.bool true, Value.int 181 0, Value.ref 59, Value.none, Value.ref 60, Value.ref 61, Value.ref 62, Value.int 252 0, Value.int 38 0, Value.str (Str.ofString "/claim/cut.py") 253] } : Obj)) ::
  (nat_lit 64, ({ cls := Value.type "function", data := Data.func { name := Str.ofString "__repr__", qualname := Str.ofString "Statistic.__repr__", params := pars (mth 2 5), body := FuncBody.stmts (txt (mth 2 5)), scope := scp (mth 2 5), globals := 3, closure := [], defaults := Value.none, kwdefaults := Value.none, pyModule := Value.str (Str.ofString "cpy313.tracemalloc") 187, code := Value.ref 63 } } : Obj)) ::
  (nat_lit 65, ({ cls := Value.type "tuple", data := Data.seq #[] } : Obj)) ::
  (nat_lit 67, ({ cls := Value.type "tuple", data := Data.seq #[Value.str (Str.ofString "self") 258] } : Obj)) ::
  (nat_lit 68, ({ cls := Value.type "tuple", data := Data.seq #[] } : Obj)) ::
  (nat_lit 70, ({ cls := Value.type "code", data := Data.fields #[Value.str (Str.ofString "_sort_key") 255, Value.str (Str.ofString "Statistic._sort_key") 256, Value.str (Str.ofString "/claim/cut.py") 257, Value.int 41 0, Value.int 1 0, Value.int 0 0, Value.int 0 0, Value.int 3 0, Value.ref 65, Value.bool true, Value.int 181 0, Value.ref 66, Value.none, Value.ref 67, Value.ref 68, Value.ref 69, Value.int 259 0, Value.int 41 0, Value.str (Str.ofString "/claim/cut.py") 260] } : Obj)) ::
  (nat_lit 71, ({ cls := Value.type "function", data := Data.func { name := Str.ofString "_sort_key", qualname := Str.ofString "Statistic._sort_key", params := pars (mth 2 6), body := FuncBody.stmts (txt (mth 2 6)), scope := scp (mth 2 6), globals := 3, closure := [], defaults := Value.none, kwdefaults := Value.none, pyModule := Value.str (Str.ofString "cpy313.tracemalloc") 187, code := Value.ref 70 } } : Obj)) ::
  (nat_lit 72, ({ cls := Value.type "tuple", data := Data.seq #[Value.str (Str.ofString "count") 262, Value.str (Str.ofString "size") 263, Value.str (Str.ofString "traceback") 264] } : Obj)) ::
  (nat_lit 74, kOb74 P) ::
  (nat_lit 75, ({ cls := Value.type "type", data := Data.cls { name := Str.ofString "Statistic", bases := [Value.type "object"], mro := [Value.ref 75, Value.type "object"], ns := 74, qualname := Str.ofString "Statistic", hasDict := false, slotNames := [Str.ofString "count", Str.ofString "size", Str.ofString "traceback"] }, slots := #[none, none, some (Value.str (Str.ofString "Statistic") 198), some (Value.str (Str.ofString "Statistic") 206), some (Value.builtin "object.__new__"), some (Value.bool false)] } : Obj)) ::
  (nat_lit 76, ({ cls := Value.type "member_descriptor", data := Data.fields #[Value.str (Str.ofString "count") 266, Value.ref 75, Value.builtin "proto.slot", Value.builtin "proto.slot#set", Value.int 2 0] } : Obj)) ::
  (nat_lit 77, ({ cls := Value.type "member_descriptor", data := Data.fields #[Value.str (Str.ofString "size") 268, Value.ref 75, Value.builtin "proto.slot", Value.builtin "proto.slot#set", Value.int 1 0] } : Obj)) ::
  (nat_lit 78, ({ cls := Value.type "member_descriptor", data := Data.fields #[Value.str (Str.ofString "traceback") 270, Value.ref 75, Value.builtin "proto.slot", Value.builtin "proto.slot#set", Value.int 0 0] } : Obj)) ::
  (nat_lit 88, ({ cls := Value.type "tuple", data := Data.seq #[Value.str (Str.ofString "traceback") 287, Value.str (Str.ofString "size") 288, Value.str (Str.ofString "size_diff") 289, Value.str (Str.ofString "count") 290, Value.str (Str.ofString "count_diff") 291] } : Obj)) ::
  (nat_lit 89, ({ cls := Value.type "tuple", data := Data.seq #[] } : Obj)) ::
  (nat_lit 91, ({ cls := Value.type "tuple", data := Data.seq #[Value.str (Str.ofString "self") 296, Value.str (Str.ofString "traceback") 297, Value.str (Str.ofString "size") 298, Value.str (Str.ofString "size_diff") 299, Value.str (Str.ofString "count") 300, Value.str (Str.ofString "count_diff") 301] } : Obj)) ::
  (nat_lit 92, ({ cls := Value.type "tuple", data := Data.seq #[] } : Obj)) ::
  (nat_lit 94, ({ cls := Value.type "code", data := Data.fields #[Value.str (Str.ofString "__init__") 293, Value.str (Str.ofString "StatisticDiff.__init__") 294, Value.str (Str.ofString "/claim/cut.py") 295, Value.int 46 0, Value.int 6 0, Value.int 0 0, Value.int 0 0, Value.int 3 0, Value.ref 89, Value.bool true, Value.int 181 0, Value.ref 90, Value.none, Value.ref 91, Value.ref 92, Value.ref 93, Value.int 302 0, Value.int 46 0, Value.str (Str.ofString "/claim/cut.py") 303] } : Obj)) ::
  (nat_lit 95, ({ cls := Value.type "function", data := Data.func { name := Str.ofString "__init__", qualname := Str.ofString "StatisticDiff.__init__", params := pars (mth 3 1), body := FuncBody.stmts (txt (mth 3 1)), scope := scp (mth 3 1), globals := 3, closure := [], defaults := Value.none, kwdefaults := Value.none, pyModule := Value.str (Str.ofString "cpy313.tracemalloc") 187, code := Value.ref 94 } } : Obj)) ::
  (nat_lit 96, ({ cls := Value.type "tuple", data := Data.seq #[] } : Obj)) ::
  (nat_lit 98, ({ cls := Value.type "tuple", data := Data.seq #[Value.str (Str.ofString "self") 308] } : Obj)) ::
  (nat_lit 99, ({ cls := Value.type "tuple", data := Data.seq #[] } : Obj)) ::
  (nat_lit 101, ({ cls := Value.type "code", data := Data.fields #[Value.str (Str.ofString "__hash__") 305, Value.str (Str.ofString "StatisticDiff.__hash__") 306, Value.str (Str.ofString "/claim/cut.py") 307, Value.int 53 0, Value.int 1 0, Value.int 0 0, Value.int 0 0, Value.int 3 0, Value.ref 96, Value.bool true, Value.int 181 0, Value.ref 97, Value.none, Value.ref 98, Value.ref 99, Value.ref 100, Value.int 309 0, Value.int 53 0, Value.str (Str.ofString "/claim/cut.py") 310] } : Obj)) ::
  (nat_lit 102, ({ cls := Value.type "function", data := Data.func { name := Str.ofString "__hash__", qualname := Str.ofString "StatisticDiff.__hash__", params := pars (mth 3 2), body := FuncBody.stmts (txt (mth 3 2)), scope := scp (mth 3 2), globals := 3, closure := [], defaults := Value.none, kwdefaults := Value.none, pyModule := Value.str (Str.ofString "cpy313.tracemalloc") 187, code := Value.ref 101 } } : Obj)) ::
  (nat_lit 103, ({ cls := Value.type "tuple", data := Data.seq #[] } : Obj)) ::
  (nat_lit 105, ({ cls := Value.type "tuple", data := Data.seq #[Value.str (Str.ofString "self") 315, Value.str (Str.ofString "other") 316] } : Obj)) ::
  (nat_lit 106, ({ cls := Value.type "tuple", data := Data.seq #[] } : Obj)) ::
  (nat_lit 108, ({ cls := Value.type "code", data := Data.fields #[Value.str (Str.ofString "__eq__") 312, Value.str (Str.ofString "StatisticDiff.__eq__") 313, Value.str (Str.ofString "/claim/cut.py") 314, Value.int 56 0, Value.int 2 0, Value.int 0 0, Value.int 0 0, Value.int 3 0, Value.ref 103, Value.bool true, Value.int 181 0, Value.ref 104, Value.none, Value.ref 105, Value.ref 106, Value.ref 107, Value.int 317 0, Value.int 56 0, Value.str (Str.ofString "/claim/cut.py") 318] } : Obj)) ::
  (nat_lit 109, ({ cls := Value.type "function", data := Data.func { name := Str.ofString "__eq__", qualname := Str.ofString "StatisticDiff.__eq__", params := pars (mth 3 3), body := FuncBody.stmts (txt (mth 3 3)), scope := scp (mth 3 3), globals := 3, closure := [], defaults := Value.none, kwdefaults := Value.none, pyModule := Value.str (Str.ofString "cpy313.tracemalloc") 187, code := Value.ref 108 } } : Obj)) ::
  (nat_lit 110, ({ cls := Value.type "tuple", data := Data.seq #[] } : Obj)) ::
  (nat_lit 112, ({ cls := Value.type "tuple", data := Data.seq #[Value.str (Str.ofString "self") 323, Value.str (Str.ofString "text") 324, Value.str (Str.ofString "average") 325] } : Obj)) ::
  (nat_lit 113, ({ cls := Value.type "tuple", data := Data.seq #[] } : Obj)) ::
  (nat_lit 115, ({ cls := Value.type "code", data := Data.fields #[Value.str (Str.ofString "__str__") 320, Value.str (Str.ofString "StatisticDiff.__str__") 321, Value.str (Str.ofString "/claim/cut.py") 322, Value.int 61 0, Value.int 1 0, Value.int 0 0, Value.int 0 0, Value.int 3 0, Value.ref 110, Value.bool true, Value.int 181 0, Value.ref 111, Value.none, Value.ref 112, Value.ref 113, Value.ref 114, Value.int 326 0, Value.int 61 0, Value.str (Str.ofString "/claim/cut.py") 327] } : Obj)) ::
  (nat_lit 116, ({ cls := Value.type "function", data := Data.func { name := Str.ofString "__str__", qualname := Str.ofString "StatisticDiff.__str__", params := pars (mth 3 4), body := FuncBody.stmts (txt (mth 3 4)), scope := scp (mth 3 4), globals := 3, closure := [], defaults := Value.none, kwdefaults := Value.none, pyModule := Value.str (Str.ofString "cpy313.tracemalloc") 187, code := Value.ref 115 } } : Obj)) ::
  (nat_lit 117, ({ cls := Value.type "tuple", data := Data.seq #[] } : Obj)) ::
  (nat_lit 119, ({ cls := Value.type "tuple", data := Data.seq #[Value.str (Str.ofString "self") 332] } : Obj)) ::
  (nat_lit 120, ({ cls := Value.type "tuple", data := Data.seq #[] } : Obj)) ::
  (nat_lit 122, ({ cls := Value.type "code", data := Data.fields #[Value.str (Str.ofString "__repr__") 329, Value.str (Str.ofString "StatisticDiff.__repr__") 330, Value.str (Str.ofString "/claim/cut.py") 331, Value.int 68 0, Value.int 1 0, Value.int 0 0, Value.int 0 0, Value.int 3 0, Value.ref 117, Value.bool true, Value.int 181 0, Value.ref 118, Value.none, Value.ref 119, Value.ref 120, Value.ref 121, Value.int 333 0, Value.int 68 0, Value.str (Str.ofString "/claim/cut.py") 334] } : Obj)) ::
  (nat_lit 123, ({ cls := Value.type "function", data := Data.func { name := Str.ofString "__repr__", qualname := Str.ofString "StatisticDiff.__repr__", params := pars (mth 3 5), body := FuncBody.stmts (txt (mth 3 5)), scope := scp (mth 3 5), globals := 3, closure := [], defaults := Value.none, kwdefaults := Value.none, pyModule := Value.str (Str.ofString "cpy313.tracemalloc") 187, code := Value.ref 122 } } : Obj)) ::
  (nat_lit 124, ({ cls := Value.type "tuple", data := Data.seq #[] } : Obj)) ::
  (nat_lit 126, ({ cls := Value.type "tuple", data := Data.seq #[Value.str (Str.ofString "self") 339] } : Obj)) ::
  (nat_lit 127, ({ cls := Value.type "tuple", data := Data.seq #[] } : Obj)) ::
  (nat_lit 129, ({ cls := Value.type "code", data := Data.fields #[Value.str (Str.ofString "_sort_key") 336, Value.str (Str.ofString "StatisticDiff._sort_key") 337, Value.str (Str.ofString "/claim/cut.py") 338, Value.int 71 0, Value.int 1 0, Value.int 0 0, Value.int 0 0, Value.int 3 0, Value.ref 124, Value.bool true, Value.int 181 0, Value.ref 125, Value.none, Value.ref 126, Value.ref 127, Value.ref 128, Value.int 340 0, Value.int 71 0, Value.str (Str.ofString "/claim/cut.py") 341] } : Obj)) ::
  (nat_lit 130, ({ cls := Value.type "function", data := Data.func { name := Str.ofString "_sort_key", qualname := Str.ofString "StatisticDiff._sort_key", params := pars (mth 3 6), body := FuncBody.stmts (txt (mth 3 6)), scope := scp (mth 3 6), globals := 3, closure := [], defaults := Value.none, kwdefaults := Value.none, pyModule := Value.str (Str.ofString "cpy313.tracemalloc") 187, code := Value.ref 129 } } : Obj)) ::
  (nat_lit 131, ({ cls := Value.type "tuple", data := Data.seq #[Value.str (Str.ofString "count") 343, Value.str (Str.ofString "count_diff") 344, Value.str (Str.ofString "size") 345, Value.str (Str.ofString "size_diff") 346, Value.str (Str.ofString "traceback") 347] } : Obj)) ::
  (nat_lit 133, kOb133 P) ::
  (nat_lit 134, ({ cls := Value.type "type", data := Data.cls { name := Str.ofString "StatisticDiff", bases := [Value.type "object"], mro := [Value.ref 134, Value.type "object"], ns := 133, qualname := Str.ofString "StatisticDiff", hasDict := false, slotNames := [Str.ofString "count", Str.ofString "count_diff", Str.ofString "size", Str.ofString "size_diff", Str.ofString "traceback"] }, slots := #[none, none, some (Value.str (Str.ofString "StatisticDiff") 275), some (Value.str (Str.ofString "StatisticDiff") 283), some (Value.builtin "object.__new__"), some (Value.bool false)] } : Obj)) ::
  (nat_lit 135, ({ cls := Value.type "member_descriptor", data := Data.fields #[Value.str (Str.ofString "count") 349, Value.ref 134, Value.builtin "proto.slot", Value.builtin "proto.slot#set", Value.int 4 0] } : Obj)) ::
  (nat_lit 136, ({ cls := Value.type "member_descriptor", data := Data.fields #[Value.str (Str.ofString "count_diff") 351, Value.ref 134, Value.builtin "proto.slot", Value.builtin "proto.slot#set", Value.int 3 0] } : Obj)) ::
  (nat_lit 137, ({ cls := Value.type "member_descriptor", data := Data.fields #[Value.str (Str.ofString "size") 353, Value.ref 134, Value.builtin "proto.slot", Value.builtin "proto.slot#set", Value.int 2 0] } : Obj)) ::
  (nat_lit 138, ({ cls := Value.type "member_descriptor", data := Data.fields #[Value.str (Str.ofString "size_diff") 355, Value.ref 134, Value.builtin "proto.slot", Value.builtin "proto.slot#set", Value.int 1 0] } : Obj)) ::
  (nat_lit 139, ({ cls := Value.type "member_descriptor", data := Data.fields #[Value.str (Str.ofString "traceback") 357, Value.ref 134, Value.builtin "proto.slot", Value.builtin "proto.slot#set", Value.int 0 0] } : Obj)) ::
  (nat_lit 142, ({ cls := Value.type "tuple", data := Data.seq #[] } : Obj)) ::
  (nat_lit 144, ({ cls := Value.type "tuple", data := Data.seq #[Value.str (Str.ofString "old_group") 365, Value.str (Str.ofString "new_group") 366, Value.str (Str.ofString "statistics") 367, Value.str (Str.ofString "traceback") 368, Value.str (Str.ofString "stat") 369, Value.str (Str.ofString "previous") 370] } : Obj)) ::
  (nat_lit 145, ({ cls := Value.type "tuple", data := Data.seq #[] } : Obj)) ::
  (nat_lit 147, ({ cls := Value.type "code", data := Data.fields #[Value.str (Str.ofString "_compare_grouped_stats") 362, Value.str (Str.ofString "_compare_grouped_stats") 363, Value.str (Str.ofString "/claim/cut.py") 364, Value.int 73 0, Value.int 2 0, Value.int 0 0, Value.int 0 0, Value.int 3 0, Value.ref 142, Value.bool true, Value.int 181 0, Value.ref 143, Value.none, Value.ref 144, Value.ref 145, Value.ref 146, Value.int 371 0, Value.int 73 0, Value.str (Str.ofString "/claim/cut.py") 372] } : Obj)) ::
  (nat_lit 148, ({ cls := Value.type "function", data := Data.func { name := Str.ofString "_compare_grouped_stats", qualname := Str.ofString "_compare_grouped_stats", params := pars (st 4), body := FuncBody.stmts (txt (st 4)), scope := scp (st 4), globals := 3, closure := [], defaults := Value.none, kwdefaults := Value.none, pyModule := Value.str (Str.ofString "cpy313.tracemalloc") 187, code := Value.ref 147 } } : Obj)) ::
  (nat_lit 149, ({ cls := Value.type "tuple", data := Data.seq #[] } : Obj)) ::
  (nat_lit 151, ({ cls := Value.type "tuple", data := Data.seq #[Value.str (Str.ofString "heap") 379, Value.str (Str.ofString "lastelt") 380, Value.str (Str.ofString "returnitem") 381] } : Obj)) ::
  (nat_lit 152, ({ cls := Value.type "tuple", data := Data.seq #[] } : Obj)) ::
  (nat_lit 154, ({ cls := Value.type "code", data := Data.fields #[Value.str (Str.ofString "heappop") 376, Value.str (Str.ofString "heappop") 377, Value.str (Str.ofString "/claim/cut.py") 378, Value.int 87 0, Value.int 1 0, Value.int 0 0, Value.int 0 0, Value.int 3 0, Value.ref 149, Value.bool true, Value.int 181 0, Value.ref 150, Value.none, Value.ref 151, Value.ref 152, Value.ref 153, Value.int 382 0, Value.int 87 0, Value.str (Str.ofString "/claim/cut.py") 383] } : Obj)) ::
  (nat_lit 155, ({ cls := Value.type "function", data := Data.func { name := Str.ofString "heappop", qualname := Str.ofString "heappop", params := pars (st 6), body := FuncBody.stmts (txt (st 6)), scope := scp (st 6), globals := 3, closure := [], defaults := Value.none, kwdefaults := Value.none, pyModule := Value.str (Str.ofString "cpy313.heapq") 374, code := Value.ref 154 } } : Obj)) ::
  (nat_lit 156, ({ cls := Value.type "tuple", data := Data.seq #[] } : Obj)) ::
  (nat_lit 158, ({ cls := Value.type "tuple", data := Data.seq #[Value.str (Str.ofString "heap") 388, Value.str (Str.ofString "item") 389, Value.str (Str.ofString "returnitem") 390] } : Obj)) ::
  (nat_lit 159, ({ cls := Value.type "tuple", data := Data.seq #[] } : Obj)) ::
  (nat_lit 161, ({ cls := Value.type "code", data := Data.fields #[Value.str (Str.ofString "heapreplace") 385, Value.str (Str.ofString "heapreplace") 386, Value.str (Str.ofString "/claim/cut.py") 387, Value.int 95 0, Value.int 2 0, Value.int 0 0, Value.int 0 0, Value.int 3 0, Value.ref 156, Value.bool true, Value.int 181 0, Value.ref 157, Value.none, Value.ref 158, Value.ref 159, Value.ref 160, Value.int 391 0, Value.int 95 0, Value.str (Str.ofString "/claim/cut.py") 392] } : Obj)) ::
  (nat_lit 162, ({ cls := Value.type "function", data := Data.func { name := Str.ofString "heapreplace", qualname := Str.ofString "heapreplace", params := pars (st 7), body := FuncBody.stmts (txt (st 7)), scope := scp (st 7), globals := 3, closure := [], defaults := Value.none, kwdefaults := Value.none, pyModule := Value.str (Str.ofString "cpy313.heapq") 374, code := Value.ref 161 } } : Obj)) ::
  (nat_lit 163, ({ cls := Value.type "tuple", data := Data.seq #[] } : Obj)) ::
  (nat_lit 165, ({ cls := Value.type "tuple", data := Data.seq #[Value.str (Str.ofString "x") 397, Value.str (Str.ofString "n") 398, Value.str (Str.ofString "i") 399] } : Obj)) ::
  (nat_lit 166, ({ cls := Value.type "tuple", data := Data.seq #[] } : Obj)) ::
  (nat_lit 168, ({ cls := Value.type "code", data := Data.fields #[Value.str (Str.ofString "heapify") 394, Value.str (Str.ofString "heapify") 395, Value.str (Str.ofString "/claim/cut.py") 396, Value.int 100 0, Value.int 1 0, Value.int 0 0, Value.int 0 0, Value.int 3 0, Value.ref 163, Value.bool true, Value.int 181 0, Value.ref 164, Value.none, Value.ref 165, Value.ref 166, Value.ref 167, Value.int 400 0, Value.int 100 0, Value.str (Str.ofString "/claim/cut.py") 401] } : Obj)) ::
  (nat_lit 169, ({ cls := Value.type "function", data := Data.func { name := Str.ofString "heapify", qualname := Str.ofString "heapify", params := pars (st 8), body := FuncBody.stmts (txt (st 8)), scope := scp (st 8), globals := 3, closure := [], defaults := Value.none, kwdefaults := Value.none, pyModule := Value.str (Str.ofString "cpy313.heapq") 374, code := Value.ref 168 } } : Obj)) ::
  (nat_lit 170, ({ cls := Value.type "tuple", data := Data.seq #[] } : Obj)) ::
  (nat_lit 172, ({ cls := Value.type "tuple", data := Data.seq #[Value.str (Str.ofString "heap") 406, Value.str (Str.ofString "item") 407, Value.str (Str.ofString "returnitem") 408] } : Obj)) ::
  (nat_lit 173, ({ cls := Value.type "tuple", data := Data.seq #[] } : Obj)) ::
  (nat_lit 175, ({ cls := Value.type "code", data := Data.fields #[Value.str (Str.ofString "_heapreplace_max") 403, Value.str (Str.ofString "_heapreplace_max") 404, Value.str (Str.ofString "/claim/cut.py") 405, Value.int 104 0, Value.int 2 0, Value.int 0 0, Value.int 0 0, Value.int 3 0, Value.ref 170, Value.bool true, Value.int 181 0, Value.ref 171, Value.none, Value.ref 172, Value.ref 173, Value.ref 174, Value.int 409 0, Value.int 104 0, Value.str (Str.ofString "/claim/cut.py") 410] } : Obj)) ::
  (nat_lit 176, ({ cls := Value.type "function", data := Data.func { name := Str.ofString "_heapreplace_max", qualname := Str.ofString "_heapreplace_max", params := pars (st 9), body := FuncBody.stmts (txt (st 9)), scope := scp (st 9), globals := 3, closure := [], defaults := Value.none, kwdefaults := Value.none, pyModule := Value.str (Str.ofString "cpy313.heapq") 374, code := Value.ref 175 } } : Obj)) ::
  (nat_lit 177, ({ cls := Value.type "tuple", data := Data.seq #[] } : Obj)) ::
  (nat_lit 179, ({ cls := Value.type "tuple", data := Data.seq #[Value.str (Str.ofString "x") 415, Value.str (Str.ofString "n") 416, Value.str (Str.ofString "i") 417] } : Obj)) ::
  (nat_lit 180, ({ cls := Value.type "tuple", data := Data.seq #[] } : Obj)) ::
  (nat_lit 182, ({ cls := Value.type "code", data := Data.fields #[Value.str (Str.ofString "_heapify_max") 412, Value.str (Str.ofString "_heapify_max") 413, Value.str (Str.ofString "/claim/cut.py") 414, Value.int 109 0, Value.int 1 0, Value.int 0 0, Value.int 0 0, Value.int 3 0, Value.ref 177, Value.bool true, Value.int 181 0, Value.ref 178, Value.none, Value.ref 179, Value.ref 180, Value.ref 181, Value.int 418 0, Value.int 109 0, Value.str (Str.ofString "/claim/cut.py") 419] } : Obj)) ::
  (nat_lit 183, ({ cls := Value.type "function", data := Data.func { name := Str.ofString "_heapify_max", qualname := Str.ofString "_heapify_max", params := pars (st 10), body := FuncBody.stmts (txt (st 10)), scope := scp (st 10), globals := 3, closure := [], defaults := Value.none, kwdefaults := Value.none, pyModule := Value.str (Str.ofString "cpy313.heapq") 374, code := Value.ref 182 } } : Obj)) ::
  (nat_lit 184, ({ cls := Value.type "tuple", data := Data.seq #[] } : Obj)) ::
  (nat_lit 186, ({ cls := Value.type "tuple", data := Data.seq #[Value.str (Str.ofString "heap") 424, Value.str (Str.ofString "startpos") 425, Value.str (Str.ofString "pos") 426, Value.str (Str.ofString "newitem") 427, Value.str (Str.ofString "parentpos") 428, Value.str (Str.ofString "parent") 429] } : Obj)) ::
  (nat_lit 187, ({ cls := Value.type "tuple", data := Data.seq #[] } : Obj)) ::
  (nat_lit 189, ({ cls := Value.type "code", data := Data.fields #[Value.str (Str.ofString "_siftdown") 421, Value.str (Str.ofString "_siftdown") 422, Value.str (Str.ofString "/claim/cut.py") 423, Value.int 113 0, Value.int 3 0, Value.int 0 0, Value.int 0 0, Value.int 3 0, Value.ref 184, Value.bool true, Value.int 181 0, Value.ref 185, Value.none, Value.ref 186, Value.ref 187, Value.ref 188, Value.int 430 0, Value.int 113 0, Value.str (Str.ofString "/claim/cut.py") 431] } : Obj)) ::
  (nat_lit 190, ({ cls := Value.type "function", data := Data.func { name := Str.ofString "_siftdown", qualname := Str.ofString "_siftdown", params := pars (st 11), body := FuncBody.stmts (txt (st 11)), scope := scp (st 11), globals := 3, closure := [], defaults := Value.none, kwdefaults := Value.none, pyModule := Value.str (Str.ofString "cpy313.heapq") 374, code := Value.ref 189 } } : Obj)) ::
  (nat_lit 191, ({ cls := Value.type "tuple", data := Data.seq #[] } : Obj)) ::
  (nat_lit 193, ({ cls := Value.type "tuple", data := Data.seq #[Value.str (Str.ofString "heap") 436, Value.str (Str.ofString "pos") 437, Value.str (Str.ofString "endpos") 438, Value.str (Str.ofString "startpos") 439, Value.str (Str.ofString "newitem") 440, Value.str (Str.ofString "childpos") 441, Value.str (Str.ofString "rightpos") 442] } : Obj)) ::
  (nat_lit 194, ({ cls := Value.type "tuple", data := Data.seq #[] } : Obj)) ::
  (nat_lit 196, ({ cls := Value.type "code", data := Data.fields #[Value.str (Str.ofString "_siftup") 433, Value.str (Str.ofString "_siftup") 434, Value.str (Str.ofString "/claim/cut.py") 435, Value.int 124 0, Value.int 2 0, Value.int 0 0, Value.int 0 0, Value.int 3 0, Value.ref 191, Value.bool true, Value.int 181 0, Value.ref 192, Value.none, Value.ref 193, Value.ref 194, Value.ref 195, Value.int 443 0, Value.int 124 0, Value.str (Str.ofString "/claim/cut.py") 444] } : Obj)) ::
  (nat_lit 197, ({ cls := Value.type "function", data := Data.func { name := Str.ofString "_siftup", qualname := Str.ofString "_siftup", params := pars (st 12), body := FuncBody.stmts (txt (st 12)), scope := scp (st 12), globals := 3, closure := [], defaults := Value.none, kwdefaults := Value.none, pyModule := Value.str (Str.ofString "cpy313.heapq") 374, code := Value.ref 196 } } : Obj)) ::
  (nat_lit 198, ({ cls := Value.type "tuple", data := Data.seq #[] } : Obj)) ::
  (nat_lit 200, ({ cls := Value.type "tuple", data := Data.seq #[Value.str (Str.ofString "heap") 449, Value.str (Str.ofString "startpos") 450, Value.str (Str.ofString "pos") 451, Value.str (Str.ofString "newitem") 452, Value.str (Str.ofString "parentpos") 453, Value.str (Str.ofString "parent") 454] } : Obj)) ::
  (nat_lit 201, ({ cls := Value.type "tuple", data := Data.seq #[] } : Obj)) ::
  (nat_lit 203, ({ cls := Value.type "code", data := Data.fields #[Value.str (Str.ofString "_siftdown_max") 446, Value.str (Str.ofString "_siftdown_max") 447, Value.str (Str.ofString "/claim/cut.py") 448, Value.int 138 0, Value.int 3 0, Value.int 0 0, Value.int 0 0, Value.int 3 0, Value.ref 198, Value.bool true, Value.int 181 0, Value.ref 199, Value.none, Value.ref 200, Value.ref 201, Value.ref 202, Value.int 455 0, Value.int 138 0, Value.str (Str.ofString "/claim/cut.py") 456] } : Obj)) ::
  (nat_lit 204, ({ cls := Value.type "function", data := Data.func { name := Str.ofString "_siftdown_max", qualname := Str.ofString "_siftdown_max", params := pars (st 13), body := FuncBody.stmts (txt (st 13)), scope := scp (st 13), globals := 3, closure := [], defaults := Value.none, kwdefaults := Value.none, pyModule := Value.str (Str.ofString "cpy313.heapq") 374, code := Value.ref 203 } } : Obj)) ::
  (nat_lit 205, ({ cls := Value.type "tuple", data := Data.seq #[] } : Obj)) ::
  (nat_lit 207, ({ cls := Value.type "tuple", data := Data.seq #[Value.str (Str.ofString "heap") 461, Value.str (Str.ofString "pos") 462, Value.str (Str.ofString "endpos") 463, Value.str (Str.ofString "startpos") 464, Value.str (Str.ofString "newitem") 465, Value.str (Str.ofString "childpos") 466, Value.str (Str.ofString "rightpos") 467] } : Obj)) ::
  (nat_lit 208, ({ cls := Value.type "tuple", data := Data.seq #[] } : Obj)) ::
  (nat_lit 210, ({ cls := Value.type "code", data := Data.fields #[Value.str (Str.ofString "_siftup_max") 458, Value.str (Str.ofString "_siftup_max") 459, Value.str (Str.ofString "/claim/cut.py") 460, Value.int 149 0, Value.int 2 0, Value.int 0 0, Value.int 0 0, Value.int 3 0, Value.ref 205, Value.bool true, Value.int 181 0, Value.ref 206, Value.none, Value.ref 207, Value.ref 208, Value.ref 209, Value.int 468 0, Value.int 149 0, Value.str (Str.ofString "/claim/cut.py") 469] } : Obj)) ::
  (nat_lit 211, ({ cls := Value.type "function", data := Data.func { name := Str.ofString "_siftup_max", qualname := Str.ofString "_siftup_max", params := pars (st 14), body := FuncBody.stmts (txt (st 14)), scope := scp (st 14), globals := 3, closure := [], defaults := Value.none, kwdefaults := Value.none, pyModule := Value.str (Str.ofString "cpy313.heapq") 374, code := Value.ref 210 } } : Obj)) ::
  (nat_lit 212, ({ cls := Value.type "tuple", data := Data.seq #[Value.none] } : Obj)) ::
  (nat_lit 213, ({ cls := Value.type "tuple", data := Data.seq #[] } : Obj)) ::
  (nat_lit 216, ({ cls := Value.type "code", data := Data.fields #[Value.str (Str.ofString "nsmallest") 471, Value.str (Str.ofString "nsmallest") 472, Value.str (Str.ofString "/claim/cut.py") 473, Value.int 163 0, Value.int 3 0, Value.int 0 0, Value.int 0 0, Value.int 3 0, Value.ref 213, Value.bool true, Value.int 181 0, Value.ref 214, Value.none, Value.none, Value.none, Value.ref 215, Value.int 474 0, Value.int 163 0, Value.str (Str.ofString "/claim/cut.py") 475] } : Obj)) ::
  (nat_lit 217, ({ cls := Value.type "function", data := Data.func { name := Str.ofString "nsmallest", qualname := Str.ofString "nsmallest", params := pars (st 15), body := FuncBody.stmts (txt (st 15)), scope := scp (st 15), globals := 3, closure := [], defaults := Value.ref 212, kwdefaults := Value.none, pyModule := Value.str (Str.ofString "cpy313.heapq") 374, code := Value.ref 216 } } : Obj)) ::
  (nat_lit 218, ({ cls := Value.type "tuple", data := Data.seq #[Value.none] } : Obj)) ::
  (nat_lit 219, ({ cls := Value.type "tuple", data := Data.seq #[] } : Obj)) ::
  (nat_lit 222, ({ cls := Value.type "code", data := Data.fields #[Value.str (Str.ofString "nlargest") 477, Value.str (Str.ofString "nlargest") 478, Value.str (Str.ofString "/claim/cut.py") 479, Value.int 208 0, Value.int 3 0, Value.int 0 0, Value.int 0 0, Value.int 3 0, Value.ref 219, Value.bool true, Value.int 181 0, Value.ref 220, Value.none, Value.none, Value.none, Value.ref 221, Value.int 480 0, Value.int 208 0, Value.str (Str.ofString "/claim/cut.py") 481] } : Obj)) ::
  (nat_lit 223, ({ cls := Value.type "function", data := Data.func { name := Str.ofString "nlargest", qualname := Str.ofString "nlargest", params := pars (st 16), body := FuncBody.stmts (txt (st 16)), scope := scp (st 16), globals := 3, closure := [], defaults := Value.ref 218, kwdefaults := Value.none, pyModule := Value.str (Str.ofString "cpy313.heapq") 374, code := Value.ref 222 } } : Obj)) ::
  (nat_lit 224, ({ cls := Value.type "tuple", data := Data.seq #[] } : Obj)) ::
  (nat_lit 226, ({ cls := Value.type "tuple", data := Data.seq #[Value.str (Str.ofString "script") 488, Value.str (Str.ofString "old") 489, Value.str (Str.ofString "new") 490, Value.str (Str.ofString "cell") 491, Value.str (Str.ofString "place") 492, Value.str (Str.ofString "side") 493] } : Obj)) ::
  (nat_lit 227, ({ cls := Value.type "tuple", data := Data.seq #[] } : Obj)) ::
  (nat_lit 229, ({ cls := Value.type "code", data := Data.fields #[Value.str (Str.ofString "_law_tables") 485, Value.str (Str.ofString "_law_tables") 486, Value.str (Str.ofString "/claim/cut.py") 487, Value.int 254 0, Value.int 1 0, Value.int 0 0, Value.int 0 0, Value.int 3 0, Value.ref 224, Value.bool true, Value.int 181 0, Value.ref 225, Value.none, Value.ref 226, Value.ref 227, Value.ref 228, Value.int 494 0, Value.int 254 0, Value.str (Str.ofString "/claim/cut.py") 495] } : Obj)) ::
  (nat_lit 230, ({ cls := Value.type "function", data := Data.func { name := Str.ofString "_law_tables", qualname := Str.ofString "_law_tables", params := pars (st 18), body := FuncBody.stmts (txt (st 18)), scope := scp (st 18), globals := 3, closure := [], defaults := Value.none, kwdefaults := Value.none, pyModule := Value.str (Str.ofString "law_mg0065_01") 483, code := Value.ref 229 } } : Obj)) ::
  (nat_lit 231, ({ cls := Value.type "tuple", data := Data.seq #[] } : Obj)) ::
  (nat_lit 233, ({ cls := Value.type "tuple", data := Data.seq #[Value.str (Str.ofString "table") 500, Value.str (Str.ofString "stats") 501, Value.str (Str.ofString "place") 502] } : Obj)) ::
  (nat_lit 234, ({ cls := Value.type "tuple", data := Data.seq #[] } : Obj)) ::
  (nat_lit 236, ({ cls := Value.type "code", data := Data.fields #[Value.str (Str.ofString "_law_stats") 497, Value.str (Str.ofString "_law_stats") 498, Value.str (Str.ofString "/claim/cut.py") 499, Value.int 267 0, Value.int 1 0, Value.int 0 0, Value.int 0 0, Value.int 3 0, Value.ref 231, Value.bool true, Value.int 181 0, Value.ref 232, Value.none, Value.ref 233, Value.ref 234, Value.ref 235, Value.int 503 0, Value.int 267 0, Value.str (Str.ofString "/claim/cut.py") 504] } : Obj)) ::
  (nat_lit 237, ({ cls := Value.type "function", data := Data.func { name := Str.ofString "_law_stats", qualname := Str.ofString "_law_stats", params := pars (st 19), body := FuncBody.stmts (txt (st 19)), scope := scp (st 19), globals := 3, closure := [], defaults := Value.none, kwdefaults := Value.none, pyModule := Value.str (Str.ofString "law_mg0065_01") 483, code := Value.ref 236 } } : Obj)) ::
  (nat_lit 238, ({ cls := Value.type "tuple", data := Data.seq #[] } : Obj)) ::
  (nat_lit 240, ({ cls := Value.type "tuple", data := Data.seq #[Value.str (Str.ofString "old") 509, Value.str (Str.ofString "new") 510, Value.str (Str.ofString "rows") 511, Value.str (Str.ofString "place") 512, Value.str (Str.ofString "size") 513, Value.str (Str.ofString "count") 514, Value.str (Str.ofString "more") 515, Value.str (Str.ofString "further") 516] } : Obj)) ::
  (nat_lit 241, ({ cls := Value.type "tuple", data := Data.seq #[] } : Obj)) ::
  (nat_lit 243, ({ cls := Value.type "code", data := Data.fields #[Value.str (Str.ofString "_law_due") 506, Value.str (Str.ofString "_law_due") 507, Value.str (Str.ofString "/claim/cut.py") 508, Value.int 272 0, Value.int 2 0, Value.int 0 0, Value.int 0 0, Value.int 3 0, Value.ref 238, Value.bool true, Value.int 181 0, Value.ref 239, Value.none, Value.ref 240, Value.ref 241, Value.ref 242, Value.int 517 0, Value.int 272 0, Value.str (Str.ofString "/claim/cut.py") 518] } : Obj)) ::
  (nat_lit 244, ({ cls := Value.type "function", data := Data.func { name := Str.ofString "_law_due", qualname := Str.ofString "_law_due", params := pars (st 20), body := FuncBody.stmts (txt (st 20)), scope := scp (st 20), globals := 3, closure := [], defaults := Value.none, kwdefaults := Value.none, pyModule := Value.str (Str.ofString "law_mg0065_01") 483, code := Value.ref 243 } } : Obj)) ::
  (nat_lit 245, ({ cls := Value.type "tuple", data := Data.seq #[] } : Obj)) ::
  (nat_lit 247, ({ cls := Value.type "tuple", data := Data.seq #[Value.str (Str.ofString "one") 523] } : Obj)) ::
  (nat_lit 248, ({ cls := Value.type "tuple", data := Data.seq #[] } : Obj)) ::
  (nat_lit 250, ({ cls := Value.type "code", data := Data.fields #[Value.str (Str.ofString "_law_fields") 520, Value.str (Str.ofString "_law_fields") 521, Value.str (Str.ofString "/claim/cut.py") 522, Value.int 281 0, Value.int 1 0, Value.int 0 0, Value.int 0 0, Value.int 3 0, Value.ref 245, Value.bool true, Value.int 181 0, Value.ref 246, Value.none, Value.ref 247, Value.ref 248, Value.ref 249, Value.int 524 0, Value.int 281 0, Value.str (Str.ofString "/claim/cut.py") 525] } : Obj)) ::
  (nat_lit 251, ({ cls := Value.type "function", data := Data.func { name := Str.ofString "_law_fields", qualname := Str.ofString "_law_fields", params := pars (st 21), body := FuncBody.stmts (txt (st 21)), scope := scp (st 21), globals := 3, closure := [], defaults := Value.none, kwdefaults := Value.none, pyModule := Value.str (Str.ofString "law_mg0065_01") 483, code := Value.ref 250 } } : Obj)) ::
  (nat_lit 252, ({ cls := Value.type "tuple", data := Data.seq #[] } : Obj)) ::
  (nat_lit 255, ({ cls := Value.type "code", data := Data.fields #[Value.str (Str.ofString "_law_few") 527, Value.str (Str.ofString "_law_few") 528, Value.str (Str.ofString "/claim/cut.py") 529, Value.int 283 0, Value.int 3 0, Value.int 0 0, Value.int 0 0, Value.int 3 0, Value.ref 252, Value.bool true, Value.int 181 0, Value.ref 253, Value.none, Value.none, Value.none, Value.ref 254, Value.int 530 0, Value.int 283 0, Value.str (Str.ofString "/claim/cut.py") 531] } : Obj)) ::
  (nat_lit 256, ({ cls := Value.type "function", data := Data.func { name := Str.ofString "_law_few", qualname := Str.ofString "_law_few", params := pars (st 22), body := FuncBody.stmts (txt (st 22)), scope := scp (st 22), globals := 3, closure := [], defaults := Value.none, kwdefaults := Value.none, pyModule := Value.str (Str.ofString "law_mg0065_01") 483, code := Value.ref 255 } } : Obj)) ::
  (nat_lit 257, ({ cls := Value.type "tuple", data := Data.seq #[] } : Obj)) ::
  (nat_lit 260, ({ cls := Value.type "code", data := Data.fields #[Value.str (Str.ofString "_law_heap") 533, Value.str (Str.ofString "_law_heap") 534, Value.str (Str.ofString "/claim/cut.py") 535, Value.int 292 0, Value.int 2 0, Value.int 0 0, Value.int 0 0, Value.int 3 0, Value.ref 257, Value.bool true, Value.int 181 0, Value.ref 258, Value.none, Value.none, Value.none, Value.ref 259, Value.int 536 0, Value.int 292 0, Value.str (Str.ofString "/claim/cut.py") 537] } : Obj)) ::
  (nat_lit 261, ({ cls := Value.type "function", data := Data.func { name := Str.ofString "_law_heap", qualname := Str.ofString "_law_heap", params := pars (st 23), body := FuncBody.stmts (txt (st 23)), scope := scp (st 23), globals := 3, closure := [], defaults := Value.none, kwdefaults := Value.none, pyModule := Value.str (Str.ofString "law_mg0065_01") 483, code := Value.ref 260 } } : Obj)) ::
  (nat_lit 262, ({ cls := Value.type "tuple", data := Data.seq #[] } : Obj)) ::
  (nat_lit 265, ({ cls := Value.type "code", data := Data.fields #[Value.str (Str.ofString "_law_sums") 539, Value.str (Str.ofString "_law_sums") 540, Value.str (Str.ofString "/claim/cut.py") 541, Value.int 299 0, Value.int 3 0, Value.int 0 0, Value.int 0 0, Value.int 3 0, Value.ref 262, Value.bool true, Value.int 181 0, Value.ref 263, Value.none, Value.none, Value.none, Value.ref 264, Value.int 542 0, Value.int 299 0, Value.str (Str.ofString "/claim/cut.py") 543] } : Obj)) ::
  (nat_lit 266, ({ cls := Value.type "function", data := Data.func { name := Str.ofString "_law_sums", qualname := Str.ofString "_law_sums", params := pars (st 24), body := FuncBody.stmts (txt (st 24)), scope := scp (st 24), globals := 3, closure := [], defaults := Value.none, kwdefaults := Value.none, pyModule := Value.str (Str.ofString "law_mg0065_01") 483, code := Value.ref 265 } } : Obj)) ::
  (nat_lit 267, ({ cls := Value.type "tuple", data := Data.seq #[] } : Obj)) ::
  (nat_lit 270, ({ cls := Value.type "code", data := Data.fields #[Value.str (Str.ofString "law") 545, Value.str (Str.ofString "law") 546, Value.str (Str.ofString "/claim/cut.py") 547, Value.int 303 0, Value.int 1 0, Value.int 0 0, Value.int 0 0, Value.int 3 0, Value.ref 267, Value.bool true, Value.int 181 0, Value.ref 268, Value.none, Value.none, Value.none, Value.ref 269, Value.int 548 0, Value.int 303 0, Value.str (Str.ofString "/claim/cut.py") 549] } : Obj)) ::
  (nat_lit 271, ({ cls := Value.type "function", data := Data.func { name := Str.ofString "law", qualname := Str.ofString "law", params := pars (st 25), body := FuncBody.stmts (txt (st 25)), scope := scp (st 25), globals := 3, closure := [], defaults := Value.none, kwdefaults := Value.none, pyModule := Value.str (Str.ofString "law_mg0065_01") 483, code := Value.ref 270 } } : Obj)) :: []

abbrev Kas : List Addr := nat_lit 2 :: nat_lit 3 :: nat_lit 15 :: nat_lit 17 :: nat_lit 18 :: nat_lit 20 :: nat_lit 21 :: nat_lit 29 :: nat_lit 30 :: nat_lit 32 :: nat_lit 33 :: nat_lit 35 :: nat_lit 36 :: nat_lit 37 :: nat_lit 39 :: nat_lit 40 :: nat_lit 42 :: nat_lit 43 :: nat_lit 44 :: nat_lit 46 :: nat_lit 47 :: nat_lit 49 :: nat_lit 50 :: nat_lit 51 :: nat_lit 53 :: nat_lit 54 :: nat_lit 56 :: nat_lit 57 :: nat_lit 58 :: nat_lit 60 :: nat_lit 61 :: nat_lit 63 :: nat_lit 64 :: nat_lit 65 :: nat_lit 67 :: nat_lit 68 :: nat_lit 70 :: nat_lit 71 :: nat_lit 72 :: nat_lit 74 :: nat_lit 75 :: nat_lit 76 :: nat_lit 77 :: nat_lit 78 :: nat_lit 88 :: nat_lit 89 :: nat_lit 91 :: nat_lit 92 :: nat_lit 94 :: nat_lit 95 :: nat_lit 96 :: nat_lit 98 :: nat_lit 99 :: nat_lit 101 :: nat_lit 102 :: nat_lit 103 :: nat_lit 105 :: nat_lit 106 :: nat_lit 108 :: nat_lit 109 :: nat_lit 110 :: nat_lit 112 :: nat_lit 113 :: nat_lit 115 :: nat_lit 116 :: nat_lit 117 :: nat_lit 119 :: nat_lit 120 :: nat_lit 122 :: nat_lit 123 :: nat_lit 124 :: nat_lit 126 :: nat_lit 127 :: nat_lit 129 :: nat_lit 130 :: nat_lit 131 :: nat_lit 133 :: nat_lit 134 :: nat_lit 135 :: nat_lit 136 :: nat_lit 137 :: nat_lit 138 :: nat_lit 139 :: nat_lit 142 :: nat_lit 144 :: nat_lit 145 :: nat_lit 147 :: nat_lit 148 :: nat_lit 149 :: nat_lit 151 :: nat_lit 152 :: nat_lit 154 :: nat_lit 155 :: nat_lit 156 :: nat_lit 158 :: nat_lit 159 :: nat_lit 161 :: nat_lit 162 :: nat_lit 163 :: nat_lit 165 :: nat_lit 166 :: nat_lit 168 :: nat_lit 169 :: nat_lit 170 :: nat_lit 172 :: nat_lit 173 :: nat_lit 175 :: nat_lit 176 :: nat_lit 177 :: nat_lit 179 :: nat_lit 180 :: nat_lit 182 :: nat_lit 183 :: nat_lit 184 :: nat_lit 186 :: nat_lit 187 :: nat_lit 189 :: nat_lit 190 :: nat_lit 191 :: nat_lit 193 :: nat_lit 194 :: nat_lit 196 :: nat_lit 197 :: nat_lit 198 :: nat_lit 200 :: nat_lit 201 :: nat_lit 203 :: nat_lit 204 :: nat_lit 205 :: nat_lit 207 :: nat_lit 208 :: nat_lit 210 :: nat_lit 211 :: nat_lit 212 :: nat_lit 213 :: nat_lit 216 :: nat_lit 217 :: nat_lit 218 :: nat_lit 219 :: nat_lit 222 :: nat_lit 223 :: nat_lit 224 :: nat_lit 226 :: nat_lit 227 :: nat_lit 229 :: nat_lit 230 :: nat_lit 231 :: nat_lit 233 :: nat_lit 234 :: nat_lit 236 :: nat_lit 237 :: nat_lit 238 :: nat_lit 240 :: nat_lit 241 :: nat_lit 243 :: nat_lit 244 :: nat_lit 245 :: nat_lit 247 :: nat_lit 248 :: nat_lit 250 :: nat_lit 251 :: nat_lit 252 :: nat_lit 255 :: nat_lit 256 :: nat_lit 257 :: nat_lit 260 :: nat_lit 261 :: nat_lit 262 :: nat_lit 265 :: nat_lit 266 :: nat_lit 267 :: nat_lit 270 :: nat_lit 271 :: []
end Mine

end
section
open PySem PySem.W PySem.Calls PyProof.Rows
namespace Mine

abbrev PR : Program := PySem.Challenge.rw_mg0065_01.row.prog
abbrev MM (w : World) : Model := model PR w

theorem fill (w : World) : K w.params = K w.params ∧ PySem.Challenge.rw_mg0065_01 = PySem.Challenge.rw_mg0065_01 := by
  k_fill
  exact ⟨rfl, rfl⟩

/-- the ground: what the top has left, and the built-in names -/
structure Gd (w : World) (h : Heap) : Prop where
  X : (K w.params).In h
  g : ∃ mg, h.Ns mainGlobals mg
  b : ∃ mb, h.Ns builtinsNs mb ∧ ∀ x : Str, x ≠ "__name__" → mb x = bootBuiltins x
  lim : h.NoLimit

theorem Gd.keeps {w : World} {h h' : Heap} (G : Gd w h) (hk : ∀ b o, h.get? b = some o → h'.get? b = some o) : Gd w h' :=
  ⟨G.X.keeps hk, let ⟨mg, e⟩ := G.g; ⟨mg, e.keeps hk⟩, let ⟨mb, e, r⟩ := G.b; ⟨mb, e.keeps hk, r⟩, G.lim.keeps hk⟩

/-- all but S stays -/
def Ext (S : List Addr) (h h' : Heap) : Prop := ∀ b o, b ∉ S → h.get? b = some o → h'.get? b = some o
theorem Ext.refl (S : List Addr) (h : Heap) : Ext S h h := fun _ _ _ e => e
theorem Ext.trans {S : List Addr} {h h' h'' : Heap} (a : Ext S h h') (b : Ext S h' h'') : Ext S h h'' := fun c o n e => b c o n (a c o n e)
theorem Ext.mono {S S' : List Addr} {h h' : Heap} (a : Ext S h h') (hs : ∀ b, b ∈ S → b ∈ S') : Ext S' h h' := fun c o n e => a c o (fun q => n (hs c q)) e
theorem Ext.nil {h h' : Heap} (a : Ext [] h h') : ∀ b o, h.get? b = some o → h'.get? b = some o := fun b o e => a b o (by simp) e

end Mine

end
section
open PySem PySem.W PySem.Calls PyProof.Rows PySem.SeqAt
open AutoSeq1 (wpAny_loadPart')
open MeetsSeq MeetsSeq2 MeetsSeq3 SeqRoads2
namespace Mine

/-- a comparison that changes nothing -/
def CmpAt (op : CmpOp) (A : Around) (s : Shared) (a b : Value) (k : Bool) : Prop :=
  ∀ (prog : Program) (w : World) (E : Value → Shared → Prop) (Q : Value → Shared → Prop), Q (.bool k) s → wpAny (model prog w) A (richCompare op a b) Q E s
abbrev LtAt (A : Around) (s : Shared) (a b : Value) (k : Bool) : Prop := CmpAt .Lt A s a b k
abbrev GtAt (A : Around) (s : Shared) (a b : Value) (k : Bool) : Prop := CmpAt .Gt A s a b k

inductive LexAt (op : CmpOp) (A : Around) (s : Shared) : List Value → List Value → Bool → Prop
  | nil : LexAt op A s [] [] false
  | diff {x y : Value} {xs ys : List Value} {k : Bool} : EqAt A s x y false → CmpAt op A s x y k → xs.length = ys.length → LexAt op A s (x :: xs) (y :: ys) k
  | same {x y : Value} {xs ys : List Value} {k : Bool} : EqAt A s x y true → LexAt op A s xs ys k → LexAt op A s (x :: xs) (y :: ys) k

theorem LexAt.len {op : CmpOp} {A : Around} {s : Shared} {xs ys : List Value} {k : Bool} (h : LexAt op A s xs ys k) : xs.length = ys.length := by
  induction h with
  | nil => rfl
  | diff _ _ h => simp [h]
  | same _ _ ih => simp [ih]

theorem tuple_ltAt (l b : Addr) (items items2 : Array Value) (n n2 : Nat) (dd dd2 : Option Addr) (sl sl2 : Array (Option Value)) (k : Bool) :
    Meets (Builtin.«tuple.__lt__» ⟨[.ref l, .ref b], []⟩)
      (fun A R s => s.heap.get? l = some { cls := .type "tuple", dict := dd, data := .seq items n, slots := sl } ∧ s.heap.get? b = some { cls := .type "tuple", dict := dd2, data := .seq items2 n2, slots := sl2 } ∧
        LexAt .Lt A.in1 s items.toList items2.toList k ∧
        R (.ok (.ret (.bool k))) s) :=
  .of_wp fun prog w A R s h => by
    obtain ⟨hp, g, d, tk, os⟩ := s; obtain ⟨hl, hb, he, h⟩ := h
    have f2 := AutoSeq1.sub_tuple_tuple
    have hlen := he.len
    have hz : items.size = items2.size := by simpa using hlen
    wp_walk using wpAny_loadPart' hl, wpAny_loadPart' hb, wpAny_forIn_list _ (fun rest b s' => b.1 = none ∧ s' = ⟨hp, g, d, tk, os⟩ ∧ ∃ xs ys, rest = xs.zip ys ∧ LexAt .Lt A.in1 ⟨hp, g, d, tk, os⟩ xs ys k) _
    case turn =>
      rintro ⟨y, x⟩ rest b s' ⟨hb', rfl, xs, ys, hz', hL⟩
      cases hL with
      | nil => simp at hz'
      | diff he hlt _ =>
        simp only [List.zip_cons_cons, List.cons.injEq, Prod.mk.injEq] at hz'
        obtain ⟨⟨rfl, rfl⟩, -⟩ := hz'
        refine wpAny_bind (he prog w _ _ ?_)
        refine wpAny_bind (wpAny_rule (wpAny_bind (hlt prog w _ _ (wpAny_bind (wpAny_pure (wpAny_pure ?_))))))
        wp_walk
        exact ⟨_, rfl, h⟩
      | same he hr =>
        simp only [List.zip_cons_cons, List.cons.injEq, Prod.mk.injEq] at hz'
        obtain ⟨⟨rfl, rfl⟩, rfl⟩ := hz'
        refine wpAny_bind (he prog w _ _ ?_)
        wp_walk
        exact ⟨rfl, rfl, _, _, rfl, hr⟩
    case fin =>
      rintro ⟨b1, b2⟩ s' ⟨hb', rfl, xs, ys, hz', hL⟩
      simp only at hb'
      subst hb'
      have hk : k = false := by
        cases hL with
        | nil => rfl
        | diff => simp at hz'
        | same => simp at hz'
      subst hk
      wp_walk
      exact ⟨_, rfl, by simpa [Builtin.Tuple.tupleCompareSizes, hz] using h⟩
    case h =>
      exact ⟨rfl, rfl, _, _, rfl, he⟩

theorem LtAt.tuples {A : Around} {s : Shared} {l b : Addr} {items items2 : Array Value} {k : Bool} (hl : s.heap.IsTuple l items) (hb : s.heap.IsTuple b items2) (hu : A.units < cLine)
    (he : LexAt .Lt A.in1 s items.toList items2.toList k) : LtAt A s (.ref l) (.ref b) k := fun prog w E Q h => by
  obtain ⟨⟨cls, dd, data, sl⟩, ho, hc, n, hd⟩ := id hl
  obtain ⟨⟨cls2, dd2, data2, sl2⟩, ho2, hc2, n2, hd2⟩ := id hb
  simp only at hc hd hc2 hd2
  subst hc hd hc2 hd2
  exact richCompare_meets_room (op := .Lt) ⟨_, ho, rfl⟩ ⟨_, ho2, rfl⟩ F.slot_tuple_lt F.entry_tuple_lt (F.args_tuple_lt_2 _ _) (tuple_ltAt l b items items2 n n2 dd dd2 sl sl2 k)
    ⟨ho, ho2, he, show Value.bool k ≠ Value.notImplemented ∧ Q (.bool k) s from ⟨(fun x => nomatch x), h⟩⟩ hu

theorem tuple_gtAt (l b : Addr) (items items2 : Array Value) (n n2 : Nat) (dd dd2 : Option Addr) (sl sl2 : Array (Option Value)) (k : Bool) :
    Meets (Builtin.«tuple.__gt__» ⟨[.ref l, .ref b], []⟩)
      (fun A R s => s.heap.get? l = some { cls := .type "tuple", dict := dd, data := .seq items n, slots := sl } ∧ s.heap.get? b = some { cls := .type "tuple", dict := dd2, data := .seq items2 n2, slots := sl2 } ∧
        LexAt .Gt A.in1 s items.toList items2.toList k ∧
        R (.ok (.ret (.bool k))) s) :=
  .of_wp fun prog w A R s h => by
    obtain ⟨hp, g, d, tk, os⟩ := s; obtain ⟨hl, hb, he, h⟩ := h
    have f2 := AutoSeq1.sub_tuple_tuple
    have hlen := he.len
    have hz : items.size = items2.size := by simpa using hlen
    wp_walk using wpAny_loadPart' hl, wpAny_loadPart' hb, wpAny_forIn_list _ (fun rest b s' => b.1 = none ∧ s' = ⟨hp, g, d, tk, os⟩ ∧ ∃ xs ys, rest = xs.zip ys ∧ LexAt .Gt A.in1 ⟨hp, g, d, tk, os⟩ xs ys k) _
    case turn =>
      rintro ⟨y, x⟩ rest b s' ⟨hb', rfl, xs, ys, hz', hL⟩
      cases hL with
      | nil => simp at hz'
      | diff he hlt _ =>
        simp only [List.zip_cons_cons, List.cons.injEq, Prod.mk.injEq] at hz'
        obtain ⟨⟨rfl, rfl⟩, -⟩ := hz'
        refine wpAny_bind (he prog w _ _ ?_)
        refine wpAny_bind (wpAny_rule (wpAny_bind (hlt prog w _ _ (wpAny_bind (wpAny_pure (wpAny_pure ?_))))))
        wp_walk
        exact ⟨_, rfl, h⟩
      | same he hr =>
        simp only [List.zip_cons_cons, List.cons.injEq, Prod.mk.injEq] at hz'
        obtain ⟨⟨rfl, rfl⟩, rfl⟩ := hz'
        refine wpAny_bind (he prog w _ _ ?_)
        wp_walk
        exact ⟨rfl, rfl, _, _, rfl, hr⟩
    case fin =>
      rintro ⟨b1, b2⟩ s' ⟨hb', rfl, xs, ys, hz', hL⟩
      simp only at hb'
      subst hb'
      have hk : k = false := by
        cases hL with
        | nil => rfl
        | diff => simp at hz'
        | same => simp at hz'
      subst hk
      wp_walk
      exact ⟨_, rfl, by simpa [Builtin.Tuple.tupleCompareSizes, hz] using h⟩
    case h =>
      exact ⟨rfl, rfl, _, _, rfl, he⟩

theorem GtAt.tuples {A : Around} {s : Shared} {l b : Addr} {items items2 : Array Value} {k : Bool} (hl : s.heap.IsTuple l items) (hb : s.heap.IsTuple b items2) (hu : A.units < cLine)
    (he : LexAt .Gt A.in1 s items.toList items2.toList k) : GtAt A s (.ref l) (.ref b) k := fun prog w E Q h => by
  obtain ⟨⟨cls, dd, data, sl⟩, ho, hc, n, hd⟩ := id hl
  obtain ⟨⟨cls2, dd2, data2, sl2⟩, ho2, hc2, n2, hd2⟩ := id hb
  simp only at hc hd hc2 hd2
  subst hc hd hc2 hd2
  exact richCompare_meets_room (op := .Gt) ⟨_, ho, rfl⟩ ⟨_, ho2, rfl⟩ F.slot_tuple_gt F.entry_tuple_gt (F.args_tuple_gt_2 _ _) (tuple_gtAt l b items items2 n n2 dd dd2 sl sl2 k)
    ⟨ho, ho2, he, show Value.bool k ≠ Value.notImplemented ∧ Q (.bool k) s from ⟨(fun x => nomatch x), h⟩⟩ hu

theorem LtAt.int {A : Around} {s : Shared} (a b : Int) (t u : Tok) : LtAt A s (.int a t) (.int b u) (decide (a < b)) := fun _ _ _ _ h => wpAny_lt_int h
theorem GtAt.int {A : Around} {s : Shared} (a b : Int) (t u : Tok) : GtAt A s (.int a t) (.int b u) (decide (b < a)) := fun _ _ _ _ h => PyProof.Rows.gt_int h

end Mine

end
section
open PySem PySem.W PySem.Calls PyProof.Rows PySem.SeqAt
namespace Mine

/-- what no step of ours touches -/
def Rest (s s' : Shared) : Prop := s'.gens = s.gens ∧ s'.drawn = s.drawn ∧ s'.os = s.os
theorem Rest.refl (s : Shared) : Rest s s := ⟨rfl, rfl, rfl⟩
theorem Rest.trans {a b c : Shared} (x : Rest a b) (y : Rest b c) : Rest a c := ⟨y.1.trans x.1, y.2.1.trans x.2.1, y.2.2.trans x.2.2⟩
theorem Rest.heap {s : Shared} {h : Heap} {tk : Nat} : Rest s { s with heap := h, toks := tk } := ⟨rfl, rfl, rfl⟩

def upd (m : Str → Option Value) (x : Str) (v : Value) : Str → Option Value := fun y => if y = x then some v else m y
theorem upd_same {m : Str → Option Value} {x : Str} {v : Value} : upd m x v x = some v := if_pos rfl
theorem upd_ne {m : Str → Option Value} {x y : Str} {v : Value} {r : Option Value} (h : y ≠ x) (e : m y = r) : upd m x v y = r := (if_neg h).trans e

/-- the frame, the ledger, and what stays -/
structure Fm (h₀ : Heap) (L : Addr) (s₀ : Shared) (news : List (Addr × Obj)) (m : Str → Option Value) (s : Shared) : Prop where
  ns : s.heap.Ns L m
  keep : ∀ b o, h₀.get? b = some o → s.heap.get? b = some o
  off : h₀.get? L = none
  nw : News h₀ L s.heap news
  rest : Rest s₀ s

/-- an expression that changes no object: its value -/
def Evs (w : World) (A : Around) (env : Env) (h : Heap) (e : Expr) (P : Value → Prop) : Prop :=
  ∀ (s : Shared) (Q : Value → Shared → Prop) (E : Value → Shared → Prop), s.heap = h → (∀ v s', P v → s'.heap = h → Rest s s' → Q v s') → wpAny (MM w) A (eval e env) Q E s
abbrev EvI (w : World) (A : Around) (env : Env) (h : Heap) (e : Expr) (i : Int) : Prop := Evs w A env h e fun v => ∃ t, v = .int i t
abbrev EvV (w : World) (A : Around) (env : Env) (h : Heap) (e : Expr) (x : Value) : Prop := Evs w A env h e fun v => v = x
/-- a test that changes no object -/
def Tst (w : World) (A : Around) (env : Env) (h : Heap) (e : Expr) (b : Bool) : Prop :=
  ∀ (s : Shared) (Q : Bool → Shared → Prop) (E : Value → Shared → Prop), s.heap = h → (∀ s', s'.heap = h → Rest s s' → Q b s') → wpAny (MM w) A (isTrue e env (eval e env)) Q E s

section
variable {w : World} {A : Around} {env : Env} {h : Heap} {h₀ : Heap} {L : Addr} {s₀ s : Shared} {news : List (Addr × Obj)} {m : Str → Option Value} {x : Str} {pos : Pos} {v : Value} {e e₁ e₂ : Expr} {i j : Int} {t : Tok} {P P₁ P₂ : Value → Prop}

theorem Evs.mono (a : Evs w A env h e P₁) (hp : ∀ v, P₁ v → P₂ v) : Evs w A env h e P₂ := fun s Q E hs k => a s Q E hs fun v s' p => k v s' (hp v p)
theorem EvI.cast (a : EvI w A env h e i) (q : i = j) : EvI w A env h e j := q ▸ a

theorem EvV.name (hn : h.Ns L m) (hv : m x = some v) (hL : env.locals = L := by rfl) (hk : env.scope.kind = .function := by rfl)
    (hl : env.kindOf x = some .local := by rfl) (hd : (x == ("__debug__" : Str)) = false := by decide) : EvV w A env h (.Name x pos) v := fun s Q E hs k => by
  subst hs
  exact wpAny_Name (wpAny_loadName_local hk hl (hL ▸ hn) hv (k _ _ rfl rfl (.refl _))) hd
theorem EvI.name (hn : h.Ns L m) (hv : m x = some (.int i t)) (hL : env.locals = L := by rfl) (hk : env.scope.kind = .function := by rfl)
    (hl : env.kindOf x = some .local := by rfl) (hd : (x == ("__debug__" : Str)) = false := by decide) : EvI w A env h (.Name x pos) i := (EvV.name hn hv hL hk hl hd).mono fun _ q => ⟨t, q⟩
theorem EvV.glob (G : Gd w h₀) (hk₀ : ∀ b o, h₀.get? b = some o → h.get? b = some o) (e : nsIn (K w.params) mainGlobals x = some (some v)) (hg : env.globals = mainGlobals := by rfl) (hk : env.scope.kind = .function := by rfl)
    (hx : env.kindOf x = some .globalImplicit := by rfl) (hd : (x == ("__debug__" : Str)) = false := by decide) : EvV w A env h (.Name x pos) v := fun s Q E hs k => by
  subst hs
  obtain ⟨_, g⟩ := G.g
  exact Calls.Name_function_global hk hx (Calls.loadGlobal_global (env := env) (by rw [hg]; exact g.keeps hk₀) (mg_of G.X g e) (k _ _ rfl rfl (.refl _))) hd
theorem EvV.blt (G : Gd w h₀) (hk₀ : ∀ b o, h₀.get? b = some o → h.get? b = some o) (e : nsIn (K w.params) mainGlobals x = some none) (hv : bootBuiltins x = some v) (hn : x ≠ "__name__") (hg : env.globals = mainGlobals := by rfl) (hb : env.builtins = builtinsNs := by rfl)
    (hk : env.scope.kind = .function := by rfl)
    (hx : env.kindOf x = some .globalImplicit := by rfl) (hd : (x == ("__debug__" : Str)) = false := by decide) : EvV w A env h (.Name x pos) v := fun s Q E hs k => by
  subst hs
  obtain ⟨_, g⟩ := G.g
  obtain ⟨_, b, r⟩ := G.b
  exact Calls.Name_function_global hk hx (Calls.loadGlobal_builtin (env := env) (by rw [hg]; exact g.keeps hk₀) (mg_none_of G.X g e) (by rw [hb]; exact b.keeps hk₀) ((r x hn).trans hv) (k _ _ rfl rfl (.refl _))) hd

theorem EvI.const {k : Nat} : EvI w A env h (.Constant (.int i) k pos) i := fun s Q E hs k => wpAny_Constant_int (k _ _ ⟨_, rfl⟩ hs .heap)
theorem EvV.none {k : Nat} : EvV w A env h (.Constant .none k pos) .none := fun s Q E hs k => wpAny_Constant_none (k _ _ rfl hs (.refl _))
theorem EvV.bool {k : Nat} {b : Bool} : EvV w A env h (.Constant (.bool b) k pos) (.bool b) := fun s Q E hs k => wpAny_Constant_bool (k _ _ rfl hs (.refl _))

theorem Evs.bin {op : Operator} (a : Evs w A env h e₁ P₁) (b : Evs w A env h e₂ P₂)
    (c : ∀ x y, P₁ x → P₂ y → ∀ (s : Shared) (Q : Value → Shared → Prop) (E : Value → Shared → Prop), s.heap = h → (∀ v s', P v → s'.heap = h → Rest s s' → Q v s') → wpAny (MM w) A (binaryOp op x y) Q E s) :
    Evs w A env h (.BinOp e₁ op e₂ pos) P := fun s Q E hs k =>
  wpAny_BinOp (a s _ E hs fun x s₁ hx h₁ r₁ => b s₁ _ E h₁ fun y s₂ hy h₂ r₂ => c x y hx hy s₂ Q E h₂ fun v s₃ hv h₃ r₃ => k v s₃ hv h₃ ((r₁.trans r₂).trans r₃))
theorem EvI.sub (a : EvI w A env h e₁ i) (b : EvI w A env h e₂ j) : EvI w A env h (.BinOp e₁ .Sub e₂ pos) (i - j) :=
  Evs.bin a b fun _ _ ⟨_, hx⟩ ⟨_, hy⟩ s Q E hs k => by subst hx hy; exact sub_int (k _ _ ⟨_, rfl⟩ hs .heap)
theorem EvI.add (a : EvI w A env h e₁ i) (b : EvI w A env h e₂ j) : EvI w A env h (.BinOp e₁ .Add e₂ pos) (i + j) :=
  Evs.bin a b fun _ _ ⟨_, hx⟩ ⟨_, hy⟩ s Q E hs k => by subst hx hy; exact wpAny_add_int (k _ _ ⟨_, rfl⟩ hs .heap)
theorem EvI.mul (a : EvI w A env h e₁ i) (b : EvI w A env h e₂ j) (hm : IntMulOk i j) : EvI w A env h (.BinOp e₁ .Mult e₂ pos) (i * j) :=
  Evs.bin a b fun _ _ ⟨_, hx⟩ ⟨_, hy⟩ s Q E hs k => by subst hx hy; exact mul_int (k _ _ ⟨_, rfl⟩ hs .heap) hm
theorem EvI.shr1 (a : EvI w A env h e₁ i) (b : EvI w A env h e₂ 1) (h0 : 0 ≤ i) : EvI w A env h (.BinOp e₁ .RShift e₂ pos) (i / 2) :=
  Evs.bin a b fun _ _ ⟨_, hx⟩ ⟨_, hy⟩ s Q E hs k => by subst hx hy; exact wpAny_rshift1_int h0 (k _ _ ⟨_, rfl⟩ hs .heap)

theorem EvV.item {D : Addr} {its : Array Value} {ep : Nat} {k : Nat} (a : EvV w A env h e₁ (.ref D)) (b : EvI w A env h e₂ (k : Int)) (hl : h.get? D = some (listOf its ep)) (hx : its[k]? = some v) (hf : (k : Int) < 2 ^ 63)
    (hs : ∀ (D k u), subscripted e₂ false (.ref D) (.int k u) = operate [.ref D, .int k u] (getItem (.ref D) (.int k u)) := by intros; with_unfolding_all rfl) : EvV w A env h (.Subscript e₁ e₂ pos) v := fun s Q E hh k => by
  subst hh
  refine Subscript_ (a s _ E rfl fun x s₁ hx₁ h₁ r₁ => b s₁ _ E h₁ fun y s₂ hy h₂ r₂ => ?_)
  obtain ⟨u, rfl⟩ := hy
  subst hx₁
  have hL : s₂.heap.IsList D its := ⟨_, h₂ ▸ hl, rfl, ep, rfl⟩
  exact tail_any hL.typeIs slot_list_getitem.lookup (wpAny_getItem_list hL (Int.natCast_nonneg _) hf (by simpa using hx) (k _ _ rfl h₂ (r₁.trans r₂))) (hs _ _ _)

theorem Tst.cmp {op : CmpOp} {b : Bool} (x : Evs w A env h e₁ P₁) (y : Evs w A env h e₂ P₂)
    (c : ∀ x y, P₁ x → P₂ y → ∀ (s : Shared) (Q : Value → Shared → Prop) (E : Value → Shared → Prop), s.heap = h → (∀ s', s'.heap = h → Rest s s' → Q (.bool b) s') → wpAny (MM w) A (compareOp op x y) Q E s)
    (hm : behindInMarks op e₂ = false := by with_unfolding_all rfl) : Tst w A env h (.Compare e₁ [op] [e₂] pos) b := fun s Q E hs k =>
  wpAny_isTrue_Compare1 (x s _ E hs fun x s₁ hx h₁ r₁ => y s₁ _ E h₁ fun y s₂ hy h₂ r₂ => c x y hx hy s₂ _ E h₂ fun s₃ h₃ r₃ => wpAny_truthy_bool (k s₃ h₃ ((r₁.trans r₂).trans r₃))) hm
theorem Tst.lt (a : EvI w A env h e₁ i) (b : EvI w A env h e₂ j) (hm : behindInMarks .Lt e₂ = false := by with_unfolding_all rfl) : Tst w A env h (.Compare e₁ [.Lt] [e₂] pos) (decide (i < j)) :=
  Tst.cmp a b (fun _ _ ⟨_, hx⟩ ⟨_, hy⟩ s Q E hs k => by subst hx hy; exact PyProof.Rows.lt_int (k _ hs (.refl _))) hm
theorem Tst.gt (a : EvI w A env h e₁ i) (b : EvI w A env h e₂ j) (hm : behindInMarks .Gt e₂ = false := by with_unfolding_all rfl) : Tst w A env h (.Compare e₁ [.Gt] [e₂] pos) (decide (j < i)) :=
  Tst.cmp a b (fun _ _ ⟨_, hx⟩ ⟨_, hy⟩ s Q E hs k => by subst hx hy; exact PyProof.Rows.gt_int (k _ hs (.refl _))) hm
theorem Tst.ltV {x y : Value} {b : Bool} (a : EvV w A env h e₁ x) (c : EvV w A env h e₂ y) (hlt : ∀ s : Shared, s.heap = h → LtAt A s x y b) (hm : behindInMarks .Lt e₂ = false := by with_unfolding_all rfl) : Tst w A env h (.Compare e₁ [.Lt] [e₂] pos) b :=
  Tst.cmp a c (fun _ _ hx hy s Q E hs k => by subst hx hy; exact hlt s hs _ _ _ _ (k _ hs (.refl _))) hm
theorem Tst.not {b : Bool} (a : Tst w A env h e b) : Tst w A env h (.UnaryOp .Not e pos) (!b) := fun s Q E hs k => wpAny_isTrue_Not (a s _ E hs fun s' h' r' => k s' h' r')
end

section
variable {w : World} {A : Around} {E : Value → Shared → Prop} {env : Env} {h₀ : Heap} {L : Addr} {s₀ s : Shared} {news : List (Addr × Obj)} {m : Str → Option Value} {rest : List Stmt} {Q : Flow → Shared → Prop} {P P₁ P₂ : Value → Prop} {e o i : Expr} {x : Str} {pos' pos : Pos}

theorem xs_nil (h : Q .next s) : wpAny (MM w) A (execs [] env) Q E s := wpAny_execs_nil h

theorem Fm.touch {s' : Shared} (Z : Fm h₀ L s₀ news m s) (hh : s'.heap = s.heap) (r : Rest s s') : Fm h₀ L s₀ news m s' := ⟨hh ▸ Z.ns, hh ▸ Z.keep, Z.off, hh ▸ Z.nw, Z.rest.trans r⟩

/-- one object of the ledger has changed -/
theorem Fm.chg {D : Addr} {ob o' : Obj} {h' : Heap} {tk : Nat} (Z : Fm h₀ L s₀ ((D, ob) :: news) m s) (hs : Heap.SameBut D s.heap h') (ho : h'.get? D = some o') (hn : ∀ p ∈ news, p.1 ≠ D) : Fm h₀ L s₀ ((D, o') :: news) m { s with heap := h', toks := tk } := by
  have z := Z.nw _ (List.Mem.head _)
  obtain ⟨oL, es, ep, hL, q⟩ := Z.ns
  refine ⟨⟨oL, es, ep, (hs.2 L (Ne.symm z.2.1)).trans hL, q⟩, fun b o e => (hs.2 b (by rintro rfl; rw [z.2.2] at e; cases e)).trans (Z.keep b o e), Z.off, fun p hp => ?_, Z.rest.trans .heap⟩
  rcases List.mem_cons.mp hp with rfl | hp
  · exact ⟨ho, z.2⟩
  · exact ⟨(hs.2 _ (hn p hp)).trans (Z.nw p (.tail _ hp)).1, (Z.nw p (.tail _ hp)).2⟩
/-- a new object -/
theorem Fm.new {ob : Obj} {tk : Nat} (Z : Fm h₀ L s₀ news m s) (hf : ob.isFreed = false := by rfl) : Fm h₀ L s₀ ((s.heap.objs.size, ob) :: news) m { s with heap := s.heap.push ob, toks := tk } ∧ ∀ p ∈ news, p.1 ≠ s.heap.objs.size := by
  obtain ⟨oL, es, ep, hL, q⟩ := Z.ns
  refine ⟨⟨⟨oL, es, ep, Heap.get?_push_of_some _ hL, q⟩, fun b o e => Heap.get?_push_of_some _ (Z.keep b o e), Z.off, fun p hp => ?_, Z.rest.trans .heap⟩, fun p hp => Nat.ne_of_lt (Heap.lt_size (Z.nw p hp).1)⟩
  rcases List.mem_cons.mp hp with rfl | hp
  · refine ⟨Heap.get?_push_size _ hf, Nat.ne_of_gt (Heap.lt_size hL), ?_⟩
    cases e : h₀.get? s.heap.objs.size with
    | none => rfl
    | some o => exact absurd (Heap.lt_size (Z.keep _ _ e)) (Nat.lt_irrefl _)
  · exact ⟨Heap.get?_push_of_some _ (Z.nw p hp).1, (Z.nw p hp).2⟩
theorem Fm.sub {news' : List (Addr × Obj)} (Z : Fm h₀ L s₀ news m s) (h : ∀ p ∈ news', p ∈ news) : Fm h₀ L s₀ news' m s := ⟨Z.ns, Z.keep, Z.off, fun p hp => Z.nw p (h p hp), Z.rest⟩
/-- a smaller base -/
theorem Fm.base {h₁ : Heap} (Z : Fm h₁ L s₀ news m s) (st : ∀ b o, h₀.get? b = some o → h₁.get? b = some o) : Fm h₀ L s₀ news m s :=
  have none (b : Addr) (e : h₁.get? b = none) : h₀.get? b = none := by
    cases q : h₀.get? b with
    | none => rfl
    | some o => rw [st _ _ q] at e; cases e
  ⟨Z.ns, fun b o e => Z.keep b o (st b o e), none _ Z.off, fun p hp => ⟨(Z.nw p hp).1, (Z.nw p hp).2.1, none _ (Z.nw p hp).2.2⟩, Z.rest⟩
/-- a greater base: all but the frame and the ledger -/
theorem Fm.rebase (Z : Fm h₀ L s₀ news m s) : ∃ h₁, (∀ b o, h₀.get? b = some o → h₁.get? b = some o) ∧ Ext (L :: news.map (·.1)) s.heap h₁ ∧ Fm h₁ L s₀ news m s := by
  refine ⟨hideAll s.heap (L :: news.map (·.1)), fun b o e => hideAll_get _ (Z.keep b o e) ?_, fun b o n e => hideAll_get _ e n, Z.ns, fun b o e => of_hideAll _ e, hideAll_none _ (.head _),
    fun p hp => ⟨(Z.nw p hp).1, (Z.nw p hp).2.1, hideAll_none _ (.tail _ (List.mem_map_of_mem hp))⟩, Z.rest⟩
  intro q
  rcases List.mem_cons.mp q with rfl | q
  · rw [Z.off] at e; cases e
  · obtain ⟨p, hp, rfl⟩ := List.mem_map.mp q
    rw [(Z.nw p hp).2.2] at e; cases e

def Then (w : World) (A : Around) (E : Value → Shared → Prop) (env : Env) (rest : List Stmt) (Q : Flow → Shared → Prop) : Flow → Shared → Prop
  | .next, s' => wpAny (MM w) A (execs rest env) Q E s'
  | f, s' => Q f s'

theorem xs_cons {st : Stmt} (h : wpAny (MM w) A (exec st env) (Then w A E env rest Q) E s) : wpAny (MM w) A (execs (st :: rest) env) Q E s :=
  wpAny_execs_cons (wpAny_mono h (fun f _ h' => by cases f <;> exact h') fun _ _ e => e)

/-- storing a local -/
theorem Fm.store {v : Value} {Q : Unit → Shared → Prop} (Z : Fm h₀ L s₀ news m s) (h : ∀ s', Fm h₀ L s₀ news (upd m x v) s' → Q () s')
    (hL : env.locals = L := by rfl) (hk : env.scope.kind = .function := by rfl) (hl : env.kindOf x = some .local := by rfl) : wpAny (MM w) A (storeName env x v) Q E s :=
  wpAny_storeName_local hl (hL ▸ Z.ns) (fun h' hn hs => h _ ⟨hL ▸ hn, fun b o e => ((hL ▸ hs : Heap.SameBut L s.heap h').2 b (by rintro rfl; rw [Z.off] at e; cases e)).trans (Z.keep b o e), Z.off, Z.nw.set (hL ▸ hs), Z.rest.trans .heap⟩)
    (by show (env.scope.kind == .class || (env.scope.kind == .module && env.locals != env.globals)) = false; rw [hk]; rfl)

theorem s_asg (Z : Fm h₀ L s₀ news m s) (a : Evs w A env s.heap e P) (h : ∀ v s', P v → Fm h₀ L s₀ news (upd m x v) s' → wpAny (MM w) A (execs rest env) Q E s')
    (hs : swapsWith e (some (.Name x pos')) pos.line env = pure false := by rfl) (hL : env.locals = L := by rfl) (hk : env.scope.kind = .function := by rfl) (hl : env.kindOf x = some .local := by rfl) :
    wpAny (MM w) A (execs (.Assign [.Name x pos'] e pos :: rest) env) Q E s :=
  xs_cons (wpAny_Assign_Name (a s _ E rfl fun v _ hv hh r => (Z.touch hh r).store (fun s' Z' => h v s' hv Z') hL hk hl) hs)

theorem s_set {D : Addr} {its : Array Value} {ep k : Nat} {v : Value} (Z : Fm h₀ L s₀ ((D, listOf its ep) :: news) m s) (c : EvV w A env s.heap e v) (a : EvV w A env s.heap o (.ref D)) (b : EvI w A env s.heap i (k : Int)) (hn : ∀ p ∈ news, p.1 ≠ D) (hx : k < its.size) (hf : (k : Int) < 2 ^ 63)
    (h : ∀ s', Fm h₀ L s₀ ((D, listOf (its.setIfInBounds k v) ep) :: news) m s' → wpAny (MM w) A (execs rest env) Q E s')
    (hs : swapsWith e (some (.Subscript o i pos')) pos.line env = pure false := by rfl) : wpAny (MM w) A (execs (.Assign [.Subscript o i pos'] e pos :: rest) env) Q E s := by
  refine xs_cons (wpAny_Assign_Subscript (c s _ E rfl fun x s₁ hx₁ h₁ r₁ => a s₁ _ E h₁ fun y s₂ hy h₂ r₂ => b s₂ _ E h₂ fun z s₃ hz h₃ r₃ => ?_) hs)
  obtain ⟨u, rfl⟩ := hz
  subst hx₁ hy
  have Z' := Z.touch h₃ ((r₁.trans r₂).trans r₃)
  have z := Z'.nw _ (List.Mem.head _)
  refine ki_setAt z.1 (Int.natCast_nonneg k) hf (by omega) (h _ (Z'.chg (Heap.SameBut.update ..) ?_ hn))
  have := ki_turn (pre := []) (post := news) (fun a => a.setIfInBounds k x) Z'.nw (by simp) hn rfl rfl
  simpa using (this _ (List.Mem.head _)).1

theorem s_if {test : Expr} {body orelse : List Stmt} {b : Bool} (Z : Fm h₀ L s₀ news m s) (a : Tst w A env s.heap test b)
    (h : ∀ (B : Flow → Shared → Prop) s', Fm h₀ L s₀ news m s' → (∀ s', wpAny (MM w) A (execs rest env) Q E s' → B .next s') → (∀ s', Q .cont s' → B .cont s') → (∀ s', Q .brk s' → B .brk s') → (∀ v s', Q (.ret v) s' → B (.ret v) s') →
      (b = true → wpAny (MM w) A (execs body env) B E s') ∧ (b = false → wpAny (MM w) A (execs orelse env) B E s')) :
    wpAny (MM w) A (execs (.If test body orelse pos :: rest) env) Q E s :=
  xs_cons (wpAny_If (a s _ E rfl fun s' hh r => by
    have := h (Then w A E env rest Q) s' (Z.touch hh r) (fun _ a => a) (fun _ a => a) (fun _ a => a) (fun _ _ a => a)
    cases b
    · exact this.2 rfl
    · exact this.1 rfl))

theorem xs_cont (h : Q .cont s) : wpAny (MM w) A (execs (.Continue pos :: rest) env) Q E s := xs_cons (wpAny_Continue h)
theorem xs_brk (h : Q .brk s) : wpAny (MM w) A (execs (.Break pos :: rest) env) Q E s := xs_cons (wpAny_Break h)

/-- a while, by an invariant that falls -/
theorem s_while {test : Expr} {body : List Stmt} (I : Nat → Shared → Prop) (n : Nat) (h : I n s)
    (turn : ∀ n s E (B : Flow → Shared → Prop) (C : Shared → Prop), I n s → (∀ m s₃, m < n → I m s₃ → B .next s₃) → (∀ m s₃, m < n → I m s₃ → B .cont s₃) → (∀ s₃, C s₃ → B .brk s₃) → (∀ v s₃, Q (.ret v) s₃ → B (.ret v) s₃) →
      (∀ s₃, (∀ E, wpAny (MM w) A (execs rest env) Q E s₃) → C s₃) →
      ∃ b, Tst w A env s.heap test b ∧ ∀ s₂, s₂.heap = s.heap → Rest s s₂ → (b = true → wpAny (MM w) A (execs body env) B E s₂) ∧ (b = false → C s₂)) :
    wpAny (MM w) A (execs (.While test body [] pos :: rest) env) Q E s := by
  refine xs_cons (wpAny_While (codeAny_whileLoop I (fun n s hI => ?_) n h))
  obtain ⟨b, ht, hb⟩ := turn n s (notedBy (MM w) A env fun e s' => cameBackBy (MM w) A env E e s') (fun f s₃ => match f with
            | .next | .cont => ∃ m, m < n ∧ I m s₃
            | .brk => ∀ E, wpAny (MM w) A (execs rest env) Q E s₃
            | .ret v => Q (.ret v) s₃) (fun s₂ => ∀ E, wpAny (MM w) A (execs rest env) Q E s₂) hI (fun m s₃ a b => ⟨m, a, b⟩) (fun m s₃ a b => ⟨m, a, b⟩) (fun _ a => a) (fun _ _ a => a) (fun _ a => a)
  refine ht s _ _ rfl fun s' hh r => ?_
  have h₂ := hb s' hh r
  cases b with
  | false => exact wpAny_execs_nil (h₂.2 rfl _)
  | true => exact wpAny_mono (h₂.1 rfl) (fun f s₃ h₃ => by cases f <;> first | exact h₃ | exact h₃ _) fun _ _ e => e
end

def mOf (l : List (Str × Value)) : Str → Option Value := fun y => l.reverse.lookup y

section
variable {w : World} {A : Around} {E : Value → Shared → Prop} {s : Shared}
  {name qual : Str} {params : Arguments} {body : List Stmt} {scope : Scope} {dV kV doc pm cdv ct oc : Value} {an od : Option Addr} {osl : Array (Option Value)} {f : Addr} {pos : List Value} {kw : List (Str × Value)} {binds : List (Str × Value)} {Q : Value → Shared → Prop}

/-- a call of one of the text's defs: its frame, upon the heap with the named objects hidden -/
theorem callFc {h₀ : Heap} (G : Gd w h₀) (hk₀ : ∀ b o, h₀.get? b = some o → s.heap.get? b = some o) (mu : List (Addr × Obj)) (hm : ∀ p ∈ mu, s.heap.get? p.1 = some p.2 ∧ h₀.get? p.1 = none)
    (ho : (K w.params).lookup f = some ⟨oc, od, .func (fnOf name qual params body scope dV kV doc pm an cdv ct), osl⟩) (hcd : codeIn (K w.params) cdv qual = true) (hroom : A.depth < recursionLimit)
    (hbind : BindsTo s (fnOf name qual params body scope dV kV doc pm an cdv ct) ⟨pos, kw⟩ binds) (hloc : (binds.all fun y => decide (scope.names.lookup y.1 = some .local)) = true)
    (h : ∀ h₁ L s₁ (A' : Around) (E' : Value → Shared → Prop) (Q' : Flow → Shared → Prop), A'.handled = A.handled → A'.units = A.units + 3 → A'.depth = A.depth + 1 →
      (∀ v s', Q v s' → Q' (.ret v) s') → (∀ s', Q .none s' → Q' .next s') →
      Gd w h₁ → (∀ b o, h₀.get? b = some o → h₁.get? b = some o) → Ext (mu.map (·.1)) s.heap h₁ → Fm h₁ L s mu (mOf binds) s₁ →
      wpAny (MM w) A' (execs body (envOf qual scope L f cdv)) Q' E' s₁)
    (hcell : ∀ x ∈ scope.names, x.2 ≠ .cell := by decide) (hco : scope.isCoroutine = false := by rfl) (hgen : scope.isGenerator = false := by rfl) (hk : scope.kind = .function := by rfl) :
    codeAny (MM w) A (.call (.ref f) ⟨pos, kw⟩) (fun r s' => match r with | .ok (.ret v) => Q v s' | .ok _ => False | .error e => E e s') s := by
  have X := G.X.keeps hk₀
  have hn : ∀ b o, h₀.get? b = some o → b ∉ mu.map (·.1) := fun b o e q => by
    obtain ⟨p, hp, rfl⟩ := List.mem_map.mp q
    rw [(hm p hp).2] at e; cases e
  refine (codeAny_call_def (fd := fnOf name qual params body scope dV kV doc pm an cdv ct) (body := body) (binds := binds) hroom (X _ _ ho) rfl (G.lim.keeps hk₀) (codeRec_of X hcd) rfl hbind hcell
    (locs hloc) (fun h₂ hns hk₂ => ?_) hco hgen hk)
  have st : ∀ b o, h₀.get? b = some o → (hideAll s.heap (mu.map (·.1))).get? b = some o := fun b o e => hideAll_get _ (hk₀ b o e) (hn b o e)
  exact h (hideAll s.heap (mu.map (·.1))) s.heap.objs.size _ (A.deeper (envOf qual scope s.heap.objs.size f cdv)) _ (fun fl s' => Q (match fl with | .ret v => v | _ => .none) s') rfl rfl rfl (fun _ _ q => q) (fun _ q => q)
    (G.keeps st) st (fun b o n e => hideAll_get _ e n)
    ⟨hns, fun b o e => hk₂ b o (of_hideAll _ e), Heap.get?_none_of_le (Nat.le_of_eq (hideAll_size _ _)),
    (fun p hp => ⟨hk₂ _ _ (hm p hp).1, Nat.ne_of_lt (Heap.lt_size (hm p hp).1), hideAll_none _ (List.mem_map_of_mem hp)⟩), .heap⟩
theorem callF {h₀ : Heap} (G : Gd w h₀) (hk₀ : ∀ b o, h₀.get? b = some o → s.heap.get? b = some o) (mu : List (Addr × Obj)) (hm : ∀ p ∈ mu, s.heap.get? p.1 = some p.2 ∧ h₀.get? p.1 = none)
    (ho : (K w.params).lookup f = some ⟨oc, od, .func (fnOf name qual params body scope dV kV doc pm an cdv ct), osl⟩) (hcd : codeIn (K w.params) cdv qual = true) (hroom : A.depth < recursionLimit)
    (hbind : BindsTo s (fnOf name qual params body scope dV kV doc pm an cdv ct) ⟨pos, kw⟩ binds) (hloc : (binds.all fun y => decide (scope.names.lookup y.1 = some .local)) = true)
    (h : ∀ h₁ L s₁ (A' : Around) (E' : Value → Shared → Prop) (Q' : Flow → Shared → Prop), A'.handled = A.handled → A'.units = A.units + 3 → A'.depth = A.depth + 1 →
      (∀ v s', Q v s' → Q' (.ret v) s') → (∀ s', Q .none s' → Q' .next s') →
      Gd w h₁ → (∀ b o, h₀.get? b = some o → h₁.get? b = some o) → Ext (mu.map (·.1)) s.heap h₁ → Fm h₁ L s mu (mOf binds) s₁ →
      wpAny (MM w) A' (execs body (envOf qual scope L f cdv)) Q' E' s₁)
    (hcell : ∀ x ∈ scope.names, x.2 ≠ .cell := by decide) (hco : scope.isCoroutine = false := by rfl) (hgen : scope.isGenerator = false := by rfl) (hk : scope.kind = .function := by rfl) :
    wpAny (MM w) A (call (.ref f) pos kw) Q E s := wpAny_call (callFc G hk₀ mu hm ho hcd hroom hbind hloc h hcell hco hgen hk)
end

end Mine

end
section
open PySem PySem.W PySem.Calls PyProof.Rows PySem.SeqAt
namespace Mine

/-- what a call may take as its callee: a thing that the machine keeps -/
def Kp (w : World) (h : Heap) (f : Value) : Prop := ∃ k, (k = Keeper.frame ∨ k = Keeper.machine ∨ k = Keeper.boundFrame) ∧ Looks (MM w) h (keeperOf f) k
theorem Kp.blt {w : World} {h : Heap} {id : String} : Kp w h (.builtin id) := ⟨.machine, .inr (.inl rfl), Looks.of_pure rfl⟩
theorem Kp.type {w : World} {h : Heap} {T : String} : Kp w h (.type T) := ⟨.machine, .inr (.inl rfl), Looks.of_pure rfl⟩
theorem Kp.K {w : World} {h₀ h : Heap} {f : Value} (G : Gd w h₀) (hk₀ : ∀ b o, h₀.get? b = some o → h.get? b = some o) (e : keepIn (K w.params) f = true) : Kp w h f := keeps_K e h (G.X.keeps hk₀)

section
variable {w : World} {A : Around} {E : Value → Shared → Prop} {env : Env} {h : Heap} {s : Shared} {e₁ e₂ e₃ : Expr} {P₁ P₂ P₃ : Value → Prop} {Q : Value → Shared → Prop} {x : Str} {p pos : Pos} {f : Value}

/-- a plain call of a name: the callee, then the arguments -/
theorem callN {e : Expr} {es : List Expr} (hf : EvV w A env s.heap (.Name x p) f)
    (h : ∀ s₁, s₁.heap = s.heap → Rest s s₁ → wpAny (MM w) A (spliced (backTo pos (starEach (e :: es) env))) (fun vs s₂ => Kp w s₂.heap f ∧ wpAny (MM w) A (call f vs) Q E s₂) E s₁)
    (he : starEach (e :: es) env = (false, eval e env) :: starEach es env := by rfl) (hplain : (backTo pos (starEach es env)).any (·.1) = false := by rfl) :
    wpAny (MM w) A (eval (.Call (.Name x p) (e :: es) [] pos) env) Q E s := by
  refine wpAny_Call_Name_kw (hf s _ E rfl fun v s₁ hv h₁ r₁ => ?_)
  subst hv
  refine callWith_of (P := fun h => Kp w h v) (by rw [he]; show ((false || (backTo pos (starEach es env)).any (·.1)) || false) = false; rw [hplain]; rfl) (fun _ k => k) ?_
  have := h s₁ h₁ r₁
  rw [he] at this ⊢
  exact evalArgs_plain this
theorem callN0 (hf : EvV w A env s.heap (.Name x p) f) (hk : Kp w s.heap f) (h : ∀ s₁, s₁.heap = s.heap → Rest s s₁ → wpAny (MM w) A (call f []) Q E s₁) :
    wpAny (MM w) A (eval (.Call (.Name x p) [] [] pos) env) Q E s := by
  refine wpAny_Call_Name_kw (hf s _ E rfl fun v s₁ hv h₁ r₁ => ?_)
  subst hv
  exact callWith_of (P := fun h => Kp w h v) rfl (fun _ k => k) (evalArgs_nil3 ⟨h₁ ▸ hk, h s₁ h₁ r₁⟩)

theorem callP1 (hf : EvV w A env s.heap (.Name x p) f) (hk : Kp w s.heap f) (a : Evs w A env s.heap e₁ P₁)
    (h : ∀ v s', P₁ v → s'.heap = s.heap → Rest s s' → wpAny (MM w) A (call f [v]) Q E s')
    (he : starEach [e₁] env = [(false, eval e₁ env)] := by rfl) : wpAny (MM w) A (eval (.Call (.Name x p) [e₁] [] pos) env) Q E s :=
  callN hf (fun s₁ h₁ r₁ => wpAny_items_cons (a s₁ _ E h₁ fun v s₂ hv h₂ r₂ => wpAny_items_nil ⟨h₂ ▸ hk, h v s₂ hv h₂ (r₁.trans r₂)⟩) he) he rfl
theorem callP2 (hf : EvV w A env s.heap (.Name x p) f) (hk : Kp w s.heap f) (a : Evs w A env s.heap e₁ P₁) (b : Evs w A env s.heap e₂ P₂)
    (h : ∀ v₁ v₂ s', P₁ v₁ → P₂ v₂ → s'.heap = s.heap → Rest s s' → wpAny (MM w) A (call f [v₁, v₂]) Q E s')
    (he : starEach [e₁, e₂] env = [(false, eval e₁ env), (false, eval e₂ env)] := by rfl) (he' : starEach [e₂] env = [(false, eval e₂ env)] := by rfl) : wpAny (MM w) A (eval (.Call (.Name x p) [e₁, e₂] [] pos) env) Q E s :=
  callN hf (fun s₁ h₁ r₁ => wpAny_items_cons (a s₁ _ E h₁ fun v s₂ hv h₂ r₂ => wpAny_items_cons (b s₂ _ E h₂ fun v' s₃ hv' h₃ r₃ => wpAny_items_nil ⟨h₃ ▸ hk, h v v' s₃ hv hv' h₃ ((r₁.trans r₂).trans r₃)⟩) he') (by rw [he, he'])) (by rw [he, he']) (by rw [he']; rfl)
theorem callP3 (hf : EvV w A env s.heap (.Name x p) f) (hk : Kp w s.heap f) (a : Evs w A env s.heap e₁ P₁) (b : Evs w A env s.heap e₂ P₂) (c : Evs w A env s.heap e₃ P₃)
    (h : ∀ v₁ v₂ v₃ s', P₁ v₁ → P₂ v₂ → P₃ v₃ → s'.heap = s.heap → Rest s s' → wpAny (MM w) A (call f [v₁, v₂, v₃]) Q E s')
    (he : starEach [e₁, e₂, e₃] env = [(false, eval e₁ env), (false, eval e₂ env), (false, eval e₃ env)] := by rfl) (he' : starEach [e₂, e₃] env = [(false, eval e₂ env), (false, eval e₃ env)] := by rfl) (he'' : starEach [e₃] env = [(false, eval e₃ env)] := by rfl) :
    wpAny (MM w) A (eval (.Call (.Name x p) [e₁, e₂, e₃] [] pos) env) Q E s :=
  callN hf (fun s₁ h₁ r₁ => wpAny_items_cons (a s₁ _ E h₁ fun v s₂ hv h₂ r₂ => wpAny_items_cons (b s₂ _ E h₂ fun v' s₃ hv' h₃ r₃ => wpAny_items_cons (c s₃ _ E h₃ fun v'' s₄ hv'' h₄ r₄ =>
    wpAny_items_nil ⟨h₄ ▸ hk, h v v' v'' s₄ hv hv' hv'' h₄ (((r₁.trans r₂).trans r₃).trans r₄)⟩) he'') (by rw [he', he''])) (by rw [he, he'])) (by rw [he, he']) (by rw [he']; rfl)

theorem Tst.and {b₁ b₂ : Bool} (a : Tst w A env h e₁ b₁) (c : b₁ = true → Tst w A env h e₂ b₂) : Tst w A env h (.BoolOp .And [e₁, e₂] pos) (b₁ && b₂) := fun s Q E hs k =>
  wpAny_isTrue_BoolOp (wpAny_allTrue_And_cons (a s _ E hs fun s' h' r' => by
    cases b₁ with
    | false => exact k s' h' r'
    | true => exact wpAny_allTrue_And_cons (c rfl s' _ E h' fun s'' h'' r'' => by
        cases b₂ with
        | false => exact k s'' h'' (r'.trans r'')
        | true => exact wpAny_allTrue_And_nil (k s'' h'' (r'.trans r'')))))

/-- len of a list -/
theorem EvI.len {h₀ : Heap} {D : Addr} {its : Array Value} {ep : Nat} (G : Gd w h₀) (hk₀ : ∀ b o, h₀.get? b = some o → h.get? b = some o) (a : EvV w A env h e₁ (.ref D)) (hl : h.get? D = some (listOf its ep)) (hf : its.size ≤ 1000)
    (hnm : nsIn (K w.params) mainGlobals "len" = some none := by k_is) (hg : env.globals = mainGlobals := by rfl) (hb : env.builtins = builtinsNs := by rfl) (hk : env.scope.kind = .function := by rfl)
    (hx : env.kindOf "len" = some .globalImplicit := by rfl) (he : starEach [e₁] env = [(false, eval e₁ env)] := by rfl) : EvI w A env h (.Call (.Name "len" p) [e₁] [] pos) its.size := fun s Q E hs k => by
  subst hs
  refine callP1 (f := .builtin "len") (EvV.blt G hk₀ hnm (by decide +kernel) (by decide) hg hb hk hx) .blt a (fun v s' hv h' r' => ?_) he
  subst hv
  exact call_len_list ⟨_, h' ▸ hl, rfl, ep, rfl⟩ (by omega) (k _ _ ⟨_, rfl⟩ h' (r'.trans .heap))
end

section
variable {w : World} {A : Around} {E : Value → Shared → Prop} {env : Env} {h₀ : Heap} {L : Addr} {s₀ s s' : Shared} {news : List (Addr × Obj)} {m : Str → Option Value} {rest : List Stmt} {Q : Flow → Shared → Prop} {e : Expr} {pos : Pos} {D : Addr} {o o' : Obj}

/-- a callee has changed D alone -/
theorem Fm.ext (Z : Fm h₀ L s₀ ((D, o) :: news) m s) (r : Rest s s') (x : Ext [D] s.heap s'.heap) (hD : s'.heap.get? D = some o') (hn : ∀ p ∈ news, p.1 ≠ D) : Fm h₀ L s₀ ((D, o') :: news) m s' := by
  have z := Z.nw _ (List.Mem.head _)
  obtain ⟨oL, es, ep, hL, q⟩ := Z.ns
  refine ⟨⟨oL, es, ep, x L oL (by simpa using Ne.symm z.2.1) hL, q⟩, fun b o e => x b o ?_ (Z.keep b o e), Z.off, fun p hp => ?_, Z.rest.trans r⟩
  · simp only [List.mem_singleton]; rintro rfl; rw [z.2.2] at e; cases e
  · rcases List.mem_cons.mp hp with rfl | hp
    · exact ⟨hD, z.2⟩
    · have y := Z.nw p (.tail _ hp)
      exact ⟨x _ _ (by simpa using hn p hp) y.1, y.2⟩
/-- a callee has changed nothing -/
theorem Fm.ext0 (Z : Fm h₀ L s₀ news m s) (r : Rest s s') (x : Ext [] s.heap s'.heap) : Fm h₀ L s₀ news m s' := by
  obtain ⟨oL, es, ep, hL, q⟩ := Z.ns
  exact ⟨⟨oL, es, ep, x.nil L oL hL, q⟩, fun b o e => x.nil b o (Z.keep b o e), Z.off, fun p hp => ⟨x.nil _ _ (Z.nw p hp).1, (Z.nw p hp).2⟩, Z.rest.trans r⟩

theorem s_expr (h : wpAny (MM w) A (eval e env) (fun v s' => v = .none ∧ wpAny (MM w) A (execs rest env) Q E s') E s)
    (hi : interactive env = false := by rfl) (hs : swapsWith e none pos.line env = pure false := by rfl) : wpAny (MM w) A (execs (.Expr e pos :: rest) env) Q E s :=
  xs_cons (wpAny_Expr (wpAny_mono h (fun v s' h' => by obtain ⟨rfl, h'⟩ := h'; exact h') fun _ _ e => e) hi hs)
theorem s_ret (h : wpAny (MM w) A (eval e env) (fun v s' => Q (.ret v) s') E s) : wpAny (MM w) A (execs (.Return (some e) pos :: rest) env) Q E s := xs_cons (wpAny_Return_some h)
theorem s_retE {P : Value → Prop} (Z : Fm h₀ L s₀ news m s) (a : Evs w A env s.heap e P) (h : ∀ v s', P v → Fm h₀ L s₀ news m s' → Q (.ret v) s') : wpAny (MM w) A (execs (.Return (some e) pos :: rest) env) Q E s :=
  s_ret (a s _ E rfl fun v s' hv hh r => h v s' hv (Z.touch hh r))
/-- a local is given what a call makes -/
theorem s_asgW {x : Str} {pos' : Pos} (h : wpAny (MM w) A (eval e env) (fun v s₁ => ∃ h₁ news' m', Fm h₁ L s₀ news' m' s₁ ∧ ∀ s', Fm h₁ L s₀ news' (upd m' x v) s' → wpAny (MM w) A (execs rest env) Q E s') E s)
    (hs : swapsWith e (some (.Name x pos')) pos.line env = pure false := by rfl) (hL : env.locals = L := by rfl) (hk : env.scope.kind = .function := by rfl) (hl : env.kindOf x = some .local := by rfl) :
    wpAny (MM w) A (execs (.Assign [.Name x pos'] e pos :: rest) env) Q E s :=
  xs_cons (wpAny_Assign_Name (wpAny_mono h (fun v s₁ h₁ => by obtain ⟨_, _, _, Z, k⟩ := h₁; exact Z.store k hL hk hl) fun _ _ e => e) hs)
end

end Mine

end
section
open PySem PySem.W PySem.Calls PyProof.Rows PySem.SeqAt
namespace Mine

section
variable {prog : Program} {w : World} {A : Around} {E : Value → Shared → Prop} {s : Shared}

theorem rev_meets (r : Addr) (a b c : Int) (t u v : Tok) (hc0 : ¬(!(Builtin.Range.rangeFitsLong a && Builtin.Range.rangeFitsLong b && Builtin.Range.rangeFitsLong c && Builtin.Range.rangeFitsLong (-c) && Builtin.Range.rangeFitsLong (a - c) && Builtin.Range.rangeFitsLong (Builtin.Range.rangeSize a b c))) = true) :
    Meets (Builtin.«range.__reversed__» ⟨[.ref r], []⟩) (fun _ R s => s.heap.get? r = some { cls := .type "range", dict := none, data := .fields #[.int a t, .int b u, .int c v], slots := #[] } ∧ R (.ok (.ret (Value.ref s.heap.objs.size))) { s with heap := s.heap.push { cls := Value.type (if (Builtin.Range.rangeFitsLong a && Builtin.Range.rangeFitsLong b && Builtin.Range.rangeFitsLong c && Builtin.Range.rangeFitsLong (-c) && Builtin.Range.rangeFitsLong (a - c) && Builtin.Range.rangeFitsLong (Builtin.Range.rangeSize a b c)) = true then "range_iterator" else "longrange_iterator"), data := .fields #[rawInt (a + (Builtin.Range.rangeSize a b c - 1) * c), rawInt (Builtin.Range.rangeSize a b c), rawInt (-c)] } }) :=
  .of_wp fun prog w A R s h => by obtain ⟨hp, g, d, tk, os⟩ := s; obtain ⟨hl, h⟩ := h; wp_walk; exact ⟨_, rfl, h⟩

theorem rev_range_call {r : Addr} {n : Nat} {t u v : Tok} {Q : Value → Shared → Prop} (hr : IsRange s.heap r 0 n 1 t u v) (hn : n ≤ 1000)
    (h : Q (.ref s.heap.objs.size) { s with heap := s.heap.push { cls := .type "range_iterator", data := .fields #[rawInt (0 + ((n : Int) - 1) * 1), rawInt n, rawInt (-1)] } }) : wpAny (model prog w) A (call (.builtin "range.__reversed__") [.ref r]) Q E s := by
  have hT : s.TypeIs (.ref r) "range" := ⟨_, hr, rfl⟩
  have e : Builtin.Range.rangeSize 0 n 1 = n := by unfold Builtin.Range.rangeSize; split <;> (try split) <;> omega
  have f : ∀ x : Int, -2000 ≤ x → x ≤ 2000 → Builtin.Range.rangeFitsLong x = true := fun x h1 h2 => by unfold Builtin.Range.rangeFitsLong; simp; omega
  have hsm : (Builtin.Range.rangeFitsLong 0 && Builtin.Range.rangeFitsLong n && Builtin.Range.rangeFitsLong 1 && Builtin.Range.rangeFitsLong (-1) && Builtin.Range.rangeFitsLong (0 - 1) && Builtin.Range.rangeFitsLong (Builtin.Range.rangeSize 0 n 1)) = true := by
    rw [e, f 0 (by omega) (by omega), f n (by omega) (by omega), f 1 (by omega) (by omega), f (-1) (by omega) (by omega), f (0 - 1) (by omega) (by omega)]; rfl
  refine call_meets F.slot_range_reversed hT F.entry_range_reversed (F.args_range_reversed_1 _) (rev_meets r 0 n 1 t u v (by rw [hsm]; decide)) ⟨hr, ?_⟩
  show Q _ { s with heap := s.heap.push { cls := Value.type (if _ = true then _ else _), data := .fields #[rawInt (0 + (Builtin.Range.rangeSize 0 n 1 - 1) * 1), rawInt (Builtin.Range.rangeSize 0 n 1), rawInt (-1)] } }
  rw [if_pos hsm, e]
  exact h

theorem sub_ri_reversed : isSubtype (.type "range_iterator") (.type "reversed") = pure false := by rw [isSubtype_type]; kernel_rfl
theorem code_rev_range {r : Addr} {n : Nat} {t u v : Tok} {Q₁ : Value → Shared → Prop} (hr : IsRange s.heap r 0 n 1 t u v) (hn : n ≤ 1000)
    (h : Q₁ (.ref s.heap.objs.size) { s with heap := s.heap.push { cls := .type "range_iterator", data := .fields #[rawInt (0 + ((n : Int) - 1) * 1), rawInt n, rawInt (-1)] } }) :
    codeAny (model prog w) A (.call (.builtin "reversed.__new__") ⟨[.type "reversed", .ref r], []⟩) (wants Q₁ E) s := by
  have hT : s.TypeIs (.ref r) "range" := ⟨_, hr, rfl⟩
  refine codeAny_of_tree ?_
  show wpAny _ A.in1 (do checkBuiltinCall "reversed.__new__" ⟨[.type "reversed", .ref r], []⟩; again (.builtin "reversed.__new__" ⟨[.type "reversed", .ref r], []⟩)) _ _ s
  refine wpAny_bind (wpAny_of_eq (F.newCall_reversed_1 _) (wpAny_pure ⟨plainId_quiet F.plain_reversed_new _, codeAny_builtin F.entry_reversed_new ?_⟩))
  rw [Around.under_plainId F.plain_reversed_new _]
  unfold Builtin.«reversed.__new__»
  refine wpAny_bind (wpAny_of_eq (newClass_reversed _) ?_)
  try dsimp only
  refine wpAny_bind (wpAny_of_eq (a := ()) (by first | rfl | kernel_rfl) ?_)
  refine wpAny_bind (wpAny_of_eq (a := ()) (by first | rfl | kernel_rfl) ?_)
  try dsimp only
  refine wpAny_bind (wpAny_specialOf hT F.slot_range_reversed.lookup ?_)
  try dsimp only
  refine wpAny_bind (wpAny_of_eq (F.slot_range_reversed.bind _) ?_)
  try dsimp only
  first
  | rw [if_neg (show ¬ ((Value.builtin "range.__reversed__" == Value.none) = true) from Bool.false_ne_true)]
  | (show wpAny _ _ (if (Value.builtin "range.__reversed__" == Value.none) = true then _ else _) _ _ _; rw [if_neg (show ¬ ((Value.builtin "range.__reversed__" == Value.none) = true) from Bool.false_ne_true)])
  refine wpAny_bind (wpAny_rule ?_)
  refine wpAny_bind (m := runValue (.call (.builtin "range.__reversed__") ⟨[.ref r], []⟩)) (show wpAny _ _ (call (.builtin "range.__reversed__") [.ref r]) _ _ _ from rev_range_call hr hn ?_)
  first
  | exact wpAny_pure h
  | exact wpAny_bind (wpAny_pure (wpAny_pure h))

theorem call_reversed_range {r : Addr} {n : Nat} {t u v : Tok} {Q : Value → Shared → Prop} (hr : IsRange s.heap r 0 n 1 t u v) (hn : n ≤ 1000)
    (h : Q (.ref s.heap.objs.size) { s with heap := s.heap.push { cls := .type "range_iterator", data := .fields #[rawInt (0 + ((n : Int) - 1) * 1), rawInt n, rawInt (-1)] } }) : wpAny (model prog w) A (call (.type "reversed") [.ref r]) Q E s := by
  refine callType_other (U := "range_iterator") (Q₁ := fun obj s₁ => obj = .ref s.heap.objs.size ∧ s₁ = { s with heap := s.heap.push { cls := .type "range_iterator", data := .fields #[rawInt (0 + ((n : Int) - 1) * 1), rawInt n, rawInt (-1)] } }) (by decide +kernel) F.create_reversed ⟨_, _, F.mro_reversed⟩ F.made_reversed sub_ri_reversed (F.typeCall_reversed_1 _) (code_rev_range hr hn ⟨rfl, rfl⟩) ?_
  rintro obj s₁ ⟨rfl, rfl⟩
  exact ⟨⟨_, Heap.get?_push_size _ rfl, rfl⟩, h⟩
end

section
variable {w : World} {A : Around} {E : Value → Shared → Prop} {env : Env} {h₀ : Heap} {L : Addr} {s₀ s : Shared} {news : List (Addr × Obj)} {m : Str → Option Value} {rest body : List Stmt} {Q : Flow → Shared → Prop} {x : Str} {px : Pos}
  {I : Addr} {fp wr : List Addr} {n : Nat} {P : Nat → Value → Prop} {St : Nat → Heap → Prop}

/-- what a callee or an iterator has done: all but S stays -/
theorem Fm.extS {s' : Shared} {S : List Addr} (Z : Fm h₀ L s₀ news m s) (r : Rest s s') (x : Ext S s.heap s'.heap) (hL : L ∉ S) (h0 : ∀ b ∈ S, h₀.get? b = none) (hn : ∀ p ∈ news, p.1 ∉ S) : Fm h₀ L s₀ news m s' := by
  obtain ⟨oL, es, ep, hL', q⟩ := Z.ns
  refine ⟨⟨oL, es, ep, x _ _ hL hL', q⟩, fun b o e => x b o (fun hb => ?_) (Z.keep b o e), Z.off, fun p hp => ⟨x _ _ (hn p hp) (Z.nw p hp).1, (Z.nw p hp).2⟩, Z.rest.trans r⟩
  rw [h0 b hb] at e; cases e

/-- a for over an iterator, by an invariant over the ledger and the frame -/
theorem for_walk (W : Walks PR w A I fp wr n P St) (J : Nat → List (Addr × Obj) → (Str → Option Value) → Prop) (Z : Fm h₀ L s₀ news m s) (hst : St 0 s.heap) (hJ : J 0 news m)
    (hfp : ∀ b ∈ fp, b ≠ L ∧ b ∉ news.map (·.1)) (hwr : ∀ b ∈ wr, h₀.get? b = none) (hal : ∀ i h, St i h → ∀ b ∈ fp, ∃ o, h.get? b = some o)
    (turn : ∀ i v news m s h₁ E (B : Flow → Shared → Prop), i < n → P i v → J i news m → (∀ b o, h₀.get? b = some o → h₁.get? b = some o) → Fm h₁ L s₀ news (upd m x v) s →
      (∀ news' m' s', Fm h₁ L s₀ news' m' s' → J (i + 1) news' m' → B .next s') → (∀ news' m' s', Fm h₁ L s₀ news' m' s' → J (i + 1) news' m' → B .cont s') → (∀ v news' m' s', Fm h₁ L s₀ news' m' s' → Q (.ret v) s' → B (.ret v) s') → wpAny (MM w) A (execs body env) B E s)
    (done : ∀ news m s' E, J n news m → Fm h₀ L s₀ news m s' → wpAny (MM w) A (execs rest env) Q E s')
    (hL : env.locals = L := by rfl) (hk : env.scope.kind = .function := by rfl) (hl : env.kindOf x = some .local := by rfl) :
    codeAny (MM w) A (.forLoop (.Name x px) (.ref I) body [] env) (fun r s' => match r with | .ok f => Then w A E env rest Q f s' | .error e => cameBackBy (MM w) A env E e s') s := by
  refine codeAny_forLoop (fun k s' => ∃ i news m, k = n - i ∧ i ≤ n ∧ Fm h₀ L s₀ news m s' ∧ St i s'.heap ∧ J i news m ∧ ∀ b ∈ fp, b ≠ L ∧ b ∉ news.map (·.1)) ?_ n ⟨0, news, m, rfl, Nat.zero_le _, Z, hst, hJ, hfp⟩
  rintro k s' ⟨i, news, m, rfl, hi, Z, hst, hJ, hfp⟩
  have hS : ∀ s'', (∀ b o, b ∉ wr → s'.heap.get? b = some o → s''.heap.get? b = some o) → Rest s' s'' → Fm h₀ L s₀ news m s'' := fun s'' hx r =>
    Z.extS r hx (fun q => (hfp L (W.sub _ q)).1 rfl) hwr fun p hp q => (hfp _ (W.sub _ q)).2 (List.mem_map_of_mem hp)
  by_cases hlt : i < n
  · refine W.item i s' _ _ hlt hst fun v h' tk hv hst' hx => ?_
    have Z' := hS { s' with heap := h', toks := tk } hx .heap
    obtain ⟨h₁, st, hx₁, Z₁⟩ := Z'.rebase
    refine wpAny_assign_Name (Z₁.store (fun s₂ Z₂ => ?_) hL hk hl)
    have stay : ∀ b ∈ fp, ∀ o, h'.get? b = some o → h₁.get? b = some o := fun b hb o e => hx₁ b o (fun q => by
      rcases List.mem_cons.mp q with rfl | q
      · exact (hfp _ hb).1 rfl
      · exact (hfp _ hb).2 q) e
    have next : ∀ news' m' s', Fm h₁ L s₀ news' m' s' → J (i + 1) news' m' → ∃ m, m < n - i ∧ ∃ i news m_1, m = n - i ∧ i ≤ n ∧ Fm h₀ L s₀ news m_1 s' ∧ St i s'.heap ∧ J i news m_1 ∧ ∀ b ∈ fp, b ≠ L ∧ b ∉ news.map (·.1) := fun news' m' s' Z' hJ' =>
      ⟨n - (i + 1), by omega, i + 1, news', m', rfl, hlt, Z'.base st, W.frame _ _ _ hst' fun b hb o e => Z'.keep b o (stay b hb o e), hJ', fun b hb => ⟨(hfp b hb).1, fun q => by
        obtain ⟨p, hp, rfl⟩ := List.mem_map.mp q
        obtain ⟨o, e⟩ := hal _ _ hst' _ hb
        have e1 := (Z'.nw p hp).2.2
        rw [stay _ hb _ e] at e1
        cases e1⟩⟩
    refine wpAny_mono (turn i v news m s₂ h₁ _ (fun f s₃ => match f with
          | .next | .cont => ∃ m, m < n - i ∧ ∃ i news m_1, m = n - i ∧ i ≤ n ∧ Fm h₀ L s₀ news m_1 s₃ ∧ St i s₃.heap ∧ J i news m_1 ∧ ∀ b ∈ fp, b ≠ L ∧ b ∉ news.map (·.1)
          | .brk => False
          | .ret v => Q (.ret v) s₃) hlt hv hJ st Z₂ next next fun v _ _ _ _ q => q) (fun f s₃ h₃ => ?_) fun _ _ e => e
    cases f with
    | next => exact h₃
    | cont => exact h₃
    | brk => exact h₃.elim
    | ret v => exact h₃
  · have hin : i = n := Nat.le_antisymm hi (Nat.le_of_not_lt hlt)
    subst hin
    refine W.done s' _ _ hst fun h' tk hx => ?_
    exact wpAny_execs_nil (done news m _ _ hJ (hS { s' with heap := h', toks := tk } hx .heap))
end

section
variable {w : World} {A : Around} {env : Env} {h h₀ : Heap} {pos p : Pos} {e₁ e₂ : Expr} {i j : Int}
theorem EvI.fdiv (a : EvI w A env h e₁ i) (b : EvI w A env h e₂ j) (hj : j ≠ 0) (hp : j.natAbs < 1073741824) : EvI w A env h (.BinOp e₁ .FloorDiv e₂ pos) (i.fdiv j) :=
  Evs.bin a b fun _ _ ⟨_, hx⟩ ⟨_, hy⟩ s Q E hs k => by subst hx hy; exact floordiv_int hj (k _ _ ⟨_, rfl⟩ hs .heap) (.inl (PyProof.noPylong_small hp))
theorem EvI.fmod (a : EvI w A env h e₁ i) (b : EvI w A env h e₂ j) (hj : j ≠ 0) : EvI w A env h (.BinOp e₁ .Mod e₂ pos) (i.fmod j) :=
  Evs.bin a b fun _ _ ⟨_, hx⟩ ⟨_, hy⟩ s Q E hs k => by subst hx hy; exact mod_int' hj (k _ _ ⟨_, rfl⟩ hs .heap)
theorem EvV.bltN {x : Str} {v : Value} (G : Gd w h₀) (hk₀ : ∀ b o, h₀.get? b = some o → h.get? b = some o) (e : nsIn (K w.params) mainGlobals x = some Option.none := by k_is) (hv : bootBuiltins x = some v := by decide +kernel) (hn : x ≠ "__name__" := by decide) (hg : env.globals = mainGlobals := by rfl) (hb : env.builtins = builtinsNs := by rfl)
    (hk : env.scope.kind = .function := by rfl) (hx : env.kindOf x = some .globalImplicit := by rfl) (hd : (x == ("__debug__" : Str)) = false := by decide) : EvV w A env h (.Name x pos) v := EvV.blt G hk₀ e hv hn hg hb hk hx hd
end

section
variable {w : World} {A : Around} {E : Value → Shared → Prop} {env : Env} {h₀ : Heap} {L : Addr} {s₀ s : Shared} {news : List (Addr × Obj)} {m : Str → Option Value} {rest body : List Stmt} {Q : Flow → Shared → Prop} {x : Str} {px pr p1 p2 pc pp : Pos} {e : Expr} {k : Nat}

def rangeIt (x left step : Int) : Obj := { cls := .type "range_iterator", data := .fields #[rawInt x, rawInt left, rawInt step] }

/-- «for x in reversed(range(e))» -/
theorem s_forRevRange (G : Gd w h₀) (Z : Fm h₀ L s₀ news m s) (hh : A.handled = none) (a : EvI w A env s.heap e (k : Int)) (hk1 : k ≤ 1000) (J : Nat → List (Addr × Obj) → (Str → Option Value) → Prop) (hJ : J 0 news m)
    (turn : ∀ i news m s h₁ t E (B : Flow → Shared → Prop), i < k → J i news m → (∀ b o, h₀.get? b = some o → h₁.get? b = some o) → Fm h₁ L s₀ news (upd m x (.int ((k - 1 - i : Nat) : Int) t)) s →
      (∀ news' m' s', Fm h₁ L s₀ news' m' s' → J (i + 1) news' m' → B .next s') → wpAny (MM w) A (execs body env) B E s)
    (done : ∀ news m s' E, J k news m → Fm h₀ L s₀ news m s' → wpAny (MM w) A (execs rest env) Q E s')
    (n1 : nsIn (K w.params) mainGlobals "reversed" = some none := by k_is) (n2 : nsIn (K w.params) mainGlobals "range" = some none := by k_is)
    (hg : env.globals = mainGlobals := by rfl) (hb : env.builtins = builtinsNs := by rfl) (hL : env.locals = L := by rfl) (hk : env.scope.kind = .function := by rfl) (hl : env.kindOf x = some .local := by rfl)
    (x1 : env.kindOf "reversed" = some .globalImplicit := by rfl) (x2 : env.kindOf "range" = some .globalImplicit := by rfl) (he : starEach [e] env = [(false, eval e env)] := by rfl) :
    wpAny (MM w) A (execs (.For (.Name x px) (.Call (.Name "reversed" p1) [.Call (.Name "range" p2) [e] [] pc] [] pr) body [] pp :: rest) env) Q E s := by
  refine xs_cons (wpAny_For ?_ fun _ => rfl)
  refine callN (EvV.bltN (v := .type "reversed") G Z.keep n1 (hg := hg) (hb := hb) (hk := hk) (hx := x1)) (fun s₁ h₁ r₁ => ?_) rfl rfl
  have Z₁ := Z.touch h₁ r₁
  refine wpAny_items_cons (callP1 (EvV.bltN (v := .type "range") G Z₁.keep n2 (hg := hg) (hb := hb) (hk := hk) (hx := x2)) .type (h₁ ▸ a) (fun v s₂ hv h₂ r₂ => ?_) he)
  obtain ⟨t, rfl⟩ := hv
  have Z₂ := Z₁.touch h₂ r₂
  refine call_range_1 (wpAny_items_nil ⟨.type, ?_⟩)
  obtain ⟨Z₃, n3⟩ := Z₂.new (ob := { cls := .type "range", data := .fields #[.int 0 s₂.toks, .int k t, .int 1 (s₂.toks + 1)] }) (tk := s₂.toks + 1 + 1)
  refine call_reversed_range (n := k) (Heap.get?_push_size _ rfl) hk1 ?_
  obtain ⟨Z₄, n4⟩ := Z₃.new (ob := rangeIt (0 + ((k : Int) - 1) * 1) k (-1)) (tk := s₂.toks + 1 + 1)
  refine wpAny_pyIter_rangeiter (x := 0 + ((k : Int) - 1) * 1) (left := k) (step := -1) (Heap.get?_push_size _ rfl) ?_
  have z := Z₄.nw _ (.head _)
  refine for_walk (Walks.range hh _ (0 + ((k : Int) - 1) * 1) (-1) k) J (Z₄.sub fun p hp => .tail _ (.tail _ hp)) ?_ hJ ?_ ?_ ?_ (fun i v news m s h₁ E B hi hv hJ st Z bn bc br => ?_) done hL hk hl
  · have e0 : (0 : Int) + ((k : Int) - 1) * 1 + ((0 : Nat) : Int) * -1 = 0 + ((k : Int) - 1) * 1 := by omega
    have e1 : (k : Int) - ((0 : Nat) : Int) = k := by omega
    rw [e0, e1]; exact z.1
  · intro b hb
    simp only [List.mem_singleton] at hb
    subst hb
    exact ⟨z.2.1, fun q => by obtain ⟨p, hp, e⟩ := List.mem_map.mp q; exact n4 p (.tail _ hp) e⟩
  · intro b hb
    simp only [List.mem_singleton] at hb
    subst hb
    exact z.2.2
  · intro i h hi b hb
    simp only [List.mem_singleton] at hb
    subst hb
    exact ⟨_, hi⟩
  · obtain ⟨t, rfl⟩ := hv
    rw [show (0 : Int) + ((k : Int) - 1) * 1 + (i : Int) * -1 = ((k - 1 - i : Nat) : Int) by omega] at Z
    exact turn i news m s h₁ t E B hi hJ st Z bn
end

end Mine

end
local macro_rules | `(tactic| walk_at "lk") => `(tactic| first | exact Mine.upd_same | (refine Mine.upd_ne (by decide) ?_; walk_at "lk") | assumption | rfl)
section
open PySem PySem.W PySem.Calls PyProof.Rows PySem.SeqAt
namespace Mine

def ltN (a b : Nat) : Bool := decide (a < b)
def gtN (a b : Nat) : Bool := decide (b < a)
/-- ranks: the pure shape of the sift functions -/
def sd (lt : Nat → Nat → Bool) (ni sp : Nat) : Nat → List Nat → Nat → List Nat
  | 0, xs, p => xs.set p ni
  | f + 1, xs, p => if sp < p then (if lt ni (xs.getD ((p - 1) / 2) 0) then sd lt ni sp f (xs.set p (xs.getD ((p - 1) / 2) 0)) ((p - 1) / 2) else xs.set p ni) else xs.set p ni


def Ord (h : Heap) (n : Nat → Prop) (item : Nat → Value) : Prop :=
  ∀ i j, n i → n j → ∀ (A : Around) (s : Shared), (∀ b o, h.get? b = some o → s.heap.get? b = some o) → A.units + 4 < cLine → LtAt A s (item i) (item j) (ltN i j)

theorem Ord.keeps {h h' : Heap} {n : Nat → Prop} {item : Nat → Value} (O : Ord h n item) (hk : ∀ b o, h.get? b = some o → h'.get? b = some o) : Ord h' n item :=
  fun i j hi hj A s hs hu => O i j hi hj A s (fun b o e => hs b o (hk b o e)) hu

abbrev ranked (item : Nat → Value) (rs : List Nat) : Array Value := (rs.map item).toArray

theorem ranked_get {item : Nat → Value} {rs : List Nat} {k : Nat} (h : k < rs.length) : (ranked item rs)[k]? = some (item (rs.getD k 0)) := by
  simp [ranked, h]
theorem ranked_set {item : Nat → Value} {rs : List Nat} {k r : Nat} : (ranked item rs).setIfInBounds k (item r) = ranked item (rs.set k r) := by
  apply Array.toList_inj.mp
  simp [ranked, List.map_set]


theorem sd_stop {lt : Nat → Nat → Bool} {ni sp f : Nat} {xs : List Nat} {p : Nat} (h : ¬ sp < p) : sd lt ni sp f xs p = xs.set p ni := by
  cases f <;> simp [sd, h]
theorem sd_go {lt : Nat → Nat → Bool} {ni sp f : Nat} {xs : List Nat} {p : Nat} (h : sp < p) (hb : lt ni (xs.getD ((p - 1) / 2) 0) = true) :
    sd lt ni sp (f + 1) xs p = sd lt ni sp f (xs.set p (xs.getD ((p - 1) / 2) 0)) ((p - 1) / 2) := by
  show (if sp < p then (if lt ni (xs.getD ((p - 1) / 2) 0) = true then _ else _) else _) = _
  rw [if_pos h, if_pos hb]
theorem sd_brk {lt : Nat → Nat → Bool} {ni sp f : Nat} {xs : List Nat} {p : Nat} (h : sp < p) (hb : lt ni (xs.getD ((p - 1) / 2) 0) = false) : sd lt ni sp (f + 1) xs p = xs.set p ni := by
  show (if sp < p then (if lt ni (xs.getD ((p - 1) / 2) 0) = true then _ else _) else _) = _
  rw [if_pos h, if_neg (by rw [hb]; decide)]

/-- a list of ranks, all below n, of a small length -/
structure Rk (n : Nat → Prop) (rs : List Nat) : Prop where
  lt : ∀ r ∈ rs, n r
  small : rs.length ≤ 8
theorem Rk.get {n : Nat → Prop} {rs : List Nat} {k : Nat} (R : Rk n rs) (h : k < rs.length) : n (rs.getD k 0) := R.lt _ (by simp [h])
theorem Rk.set {n : Nat → Prop} {rs : List Nat} {k r : Nat} (R : Rk n rs) (h : n r) : Rk n (rs.set k r) :=
  ⟨fun x hx => (List.mem_or_eq_of_mem_set hx).elim (R.lt x) fun q => q ▸ h, by simpa using R.small⟩
theorem Rk.fit {n : Nat → Prop} {rs : List Nat} {k : Nat} (R : Rk n rs) (h : k < rs.length) : (k : Int) < 2 ^ 63 := by have := R.small; omega
theorem Rk.size {item : Nat → Value} {rs : List Nat} {k : Nat} (h : k < rs.length) : k < (ranked item rs).size := by simpa using h
theorem par_lt {p k : Nat} (h : p < k) : (p - 1) / 2 < k := by omega
theorem par_lt' {p k sp : Nat} (h : p < k + 1) (q : sp < p) : (p - 1) / 2 < k := by omega
theorem par_cast {p sp : Nat} (h : sp < p) : ((p : Int) - 1) / 2 = (((p - 1) / 2 : Nat) : Int) := by omega
theorem par_nn {p sp : Nat} (h : sp < p) : (0 : Int) ≤ (p : Int) - 1 := by omega
theorem cast_lt {a b : Nat} (h : decide ((a : Int) < (b : Int)) = true) : a < b := by simpa using h
theorem cast_ge {a b : Nat} (h : decide ((a : Int) < (b : Int)) = false) : ¬ a < b := by simpa using h

inductive SdI (h₁ : Heap) (L : Addr) (s₀ : Shared) (item : Nat → Value) (n : Nat → Prop) (D : Addr) (ep sp : Nat) (ni : Nat) (lt : Nat → Nat → Bool) (R : List Nat) : Nat → Shared → Prop
  | mk {s : Shared} (m : Str → Option Value) (rs' : List Nat) (p k : Nat) (t t1 : Tok) : Fm h₁ L s₀ [(D, listOf (ranked item rs') ep)] m s → m "heap" = some (.ref D) → m "startpos" = some (.int (sp : Nat) t1) → m "pos" = some (.int (p : Nat) t) → m "newitem" = some (item ni) →
      p < rs'.length → Rk n rs' → p < k + 1 → sd lt ni sp (k + 1) rs' p = R → SdI h₁ L s₀ item n D ep sp ni lt R (k + 1) s

section
variable {w : World} {A : Around} {E : Value → Shared → Prop} {s : Shared} {Q : Value → Shared → Prop} {h₀ : Heap} {n : Nat → Prop} {item : Nat → Value} {D : Addr} {rs : List Nat} {ep : Nat}
theorem not_nil {p : Addr × Obj} {D : Addr} : p ∈ ([] : List (Addr × Obj)) → p.1 ≠ D := fun h => nomatch h

set_option maxHeartbeats 4000000 in
theorem siftdown_spec {sp ps : Nat} {t1 t2 : Tok} (G : Gd w h₀) (hk₀ : ∀ b o, h₀.get? b = some o → s.heap.get? b = some o) (O : Ord h₀ n item)
    (hD : s.heap.get? D = some (listOf (ranked item rs) ep)) (hD0 : h₀.get? D = none) (hR : Rk n rs) (hp : ps < rs.length)
    (hroom : A.depth < recursionLimit) (hu : A.units + 20 < cLine)
    (ret : ∀ s', Rest s s' → Ext [D] s.heap s'.heap → s'.heap.get? D = some (listOf (ranked item (sd ltN (rs.getD ps 0) sp 8 rs ps)) ep) → Q .none s') :
    wpAny (MM w) A (call (.ref 190) [.ref D, .int sp t1, .int ps t2]) Q E s := by
  refine' callF (binds := [("heap", .ref D), ("startpos", .int sp t1), ("pos", .int ps t2)]) G hk₀ [(D, listOf (ranked item rs) ep)] ?hm ?ho ?hc hroom ?hb ?hl ?_ ?c1 ?c2 ?c3 ?c4; (case ho => k_is); (case hc => k_is); (case hb => exact BindsTo.of_eq rfl); (case hl => exact rfl); (case c1 => decide); (case c2 => exact rfl); (case c3 => exact rfl); (case c4 => exact rfl); (case hm => exact List.forall_mem_singleton.mpr ⟨hD, hD0⟩)
  intro h₁ L s₁ A' E' Q' _ hu' _ _ hQn G₁ st hext Z
  have O₁ : Ord h₁ n item := O.keeps st
  have hni := hR.get hp
  refine s_asg Z (EvV.item (.name Z.ns rfl) (.name Z.ns rfl) (Z.nw _ (.head _)).1 (ranked_get hp) (hR.fit hp)) ?_
  rintro _ s₂ rfl Z
  generalize rs.getD ps 0 = ni at *
  have hp8 : ps < 7 + 1 := Nat.lt_of_lt_of_le hp hR.small
  refine s_while (SdI h₁ L s item n D ep sp ni ltN (sd ltN ni sp 8 rs ps)) 8 (.mk _ rs ps 7 t2 t1 Z (by walk_at "lk") (by walk_at "lk") (by walk_at "lk") (by walk_at "lk") hp hR hp8 rfl) ?_
  clear Z hp hp8
  rintro _ s₃ E' B C ⟨m, rs', p, k, t, t1, Z, m1, m2, m3, m4, hp, hR, hpk, hsd⟩ _ Bc Bb _ hC
  refine ⟨_, .gt (.name Z.ns m3) (.name Z.ns m2), fun s₄ hh r => ?_⟩
  have Z := Z.touch hh r
  clear hh r
  refine ⟨fun hb => ?_, fun hb => hC _ fun E'' => ?_⟩
  · have hlt := cast_lt hb
    refine s_asg Z (EvI.cast (.shr1 (.sub (.name Z.ns m3) .const) .const (par_nn hlt)) (par_cast hlt)) ?_
    rintro _ s₅ ⟨t2, rfl⟩ Z
    have hpp : (p - 1) / 2 < rs'.length := par_lt hp
    refine s_asg Z (EvV.item (.name Z.ns (by walk_at "lk")) (.name Z.ns (by walk_at "lk")) (Z.nw _ (.head _)).1 (ranked_get hpp) (hR.fit hpp)) ?_
    rintro _ s₆ rfl Z
    have hr := hR.get hpp
    refine s_if Z (.ltV (.name Z.ns (by walk_at "lk")) (.name Z.ns (by walk_at "lk")) fun s hs => O₁ ni _ hni hr _ _ (hs ▸ Z.keep) (by omega)) fun B' s₇ Z b1 b2 _ _ => ⟨fun hb => ?_, fun hb => ?_⟩
    · refine s_set Z (.name Z.ns (by walk_at "lk")) (.name Z.ns (by walk_at "lk")) (.name Z.ns (by walk_at "lk")) (fun _ => not_nil) (Rk.size hp) (hR.fit hp) fun s₈ Z => ?_
      rw [ranked_set] at Z
      refine s_asg Z (EvV.name Z.ns (by walk_at "lk")) ?_
      rintro _ s₉ rfl Z
      obtain ⟨k, rfl⟩ : ∃ k', k = k' + 1 := ⟨k - 1, by omega⟩
      refine xs_cont (b2 _ (Bc _ _ (Nat.lt_succ_self _) (.mk _ _ _ _ _ _ Z (by walk_at "lk") (by walk_at "lk") (by walk_at "lk") (by walk_at "lk") (by simpa using hpp) (hR.set hr) (par_lt' hpk hlt) (hsd ▸ (sd_go hlt hb).symm))))
    · refine xs_nil (b1 _ (xs_brk (Bb _ (hC _ fun E'' => ?_))))
      refine s_set Z (.name Z.ns (by walk_at "lk")) (.name Z.ns (by walk_at "lk")) (.name Z.ns (by walk_at "lk")) (fun _ => not_nil) (Rk.size hp) (hR.fit hp) fun s₈ Z => ?_
      rw [ranked_set, ← sd_brk hlt hb, hsd] at Z
      exact xs_nil (hQn _ (ret _ Z.rest (fun b o hb' e => Z.keep b o (hext b o hb' e)) (Z.nw _ (.head _)).1))
  · refine s_set Z (.name Z.ns m4) (.name Z.ns m1) (.name Z.ns m3) (fun _ => not_nil) (Rk.size hp) (hR.fit hp) fun s₈ Z => ?_
    rw [ranked_set, ← sd_stop (cast_ge hb), hsd] at Z
    exact xs_nil (hQn _ (ret _ Z.rest (fun b o hb' e => Z.keep b o (hext b o hb' e)) (Z.nw _ (.head _)).1))

set_option maxHeartbeats 4000000 in
theorem siftdownM_spec {sp ps : Nat} {t1 t2 : Tok} (G : Gd w h₀) (hk₀ : ∀ b o, h₀.get? b = some o → s.heap.get? b = some o) (O : Ord h₀ n item)
    (hD : s.heap.get? D = some (listOf (ranked item rs) ep)) (hD0 : h₀.get? D = none) (hR : Rk n rs) (hp : ps < rs.length)
    (hroom : A.depth < recursionLimit) (hu : A.units + 20 < cLine)
    (ret : ∀ s', Rest s s' → Ext [D] s.heap s'.heap → s'.heap.get? D = some (listOf (ranked item (sd gtN (rs.getD ps 0) sp 8 rs ps)) ep) → Q .none s') :
    wpAny (MM w) A (call (.ref 204) [.ref D, .int sp t1, .int ps t2]) Q E s := by
  refine' callF (binds := [("heap", .ref D), ("startpos", .int sp t1), ("pos", .int ps t2)]) G hk₀ [(D, listOf (ranked item rs) ep)] ?hm ?ho ?hc hroom ?hb ?hl ?_ ?c1 ?c2 ?c3 ?c4; (case ho => k_is); (case hc => k_is); (case hb => exact BindsTo.of_eq rfl); (case hl => exact rfl); (case c1 => decide); (case c2 => exact rfl); (case c3 => exact rfl); (case c4 => exact rfl); (case hm => exact List.forall_mem_singleton.mpr ⟨hD, hD0⟩)
  intro h₁ L s₁ A' E' Q' _ hu' _ _ hQn G₁ st hext Z
  have O₁ : Ord h₁ n item := O.keeps st
  have hni := hR.get hp
  refine s_asg Z (EvV.item (.name Z.ns rfl) (.name Z.ns rfl) (Z.nw _ (.head _)).1 (ranked_get hp) (hR.fit hp)) ?_
  rintro _ s₂ rfl Z
  generalize rs.getD ps 0 = ni at *
  have hp8 : ps < 7 + 1 := Nat.lt_of_lt_of_le hp hR.small
  refine s_while (SdI h₁ L s item n D ep sp ni gtN (sd gtN ni sp 8 rs ps)) 8 (.mk _ rs ps 7 t2 t1 Z (by walk_at "lk") (by walk_at "lk") (by walk_at "lk") (by walk_at "lk") hp hR hp8 rfl) ?_
  clear Z hp hp8
  rintro _ s₃ E' B C ⟨m, rs', p, k, t, t1, Z, m1, m2, m3, m4, hp, hR, hpk, hsd⟩ _ Bc Bb _ hC
  refine ⟨_, .gt (.name Z.ns m3) (.name Z.ns m2), fun s₄ hh r => ?_⟩
  have Z := Z.touch hh r
  clear hh r
  refine ⟨fun hb => ?_, fun hb => hC _ fun E'' => ?_⟩
  · have hlt := cast_lt hb
    refine s_asg Z (EvI.cast (.shr1 (.sub (.name Z.ns m3) .const) .const (par_nn hlt)) (par_cast hlt)) ?_
    rintro _ s₅ ⟨t2, rfl⟩ Z
    have hpp : (p - 1) / 2 < rs'.length := par_lt hp
    refine s_asg Z (EvV.item (.name Z.ns (by walk_at "lk")) (.name Z.ns (by walk_at "lk")) (Z.nw _ (.head _)).1 (ranked_get hpp) (hR.fit hpp)) ?_
    rintro _ s₆ rfl Z
    have hr := hR.get hpp
    refine s_if Z (.ltV (.name Z.ns (by walk_at "lk")) (.name Z.ns (by walk_at "lk")) fun s hs => O₁ _ ni hr hni _ _ (hs ▸ Z.keep) (by omega)) fun B' s₇ Z b1 b2 _ _ => ⟨fun hb => ?_, fun hb => ?_⟩
    · refine s_set Z (.name Z.ns (by walk_at "lk")) (.name Z.ns (by walk_at "lk")) (.name Z.ns (by walk_at "lk")) (fun _ => not_nil) (Rk.size hp) (hR.fit hp) fun s₈ Z => ?_
      rw [ranked_set] at Z
      refine s_asg Z (EvV.name Z.ns (by walk_at "lk")) ?_
      rintro _ s₉ rfl Z
      obtain ⟨k, rfl⟩ : ∃ k', k = k' + 1 := ⟨k - 1, by omega⟩
      refine xs_cont (b2 _ (Bc _ _ (Nat.lt_succ_self _) (.mk _ _ _ _ _ _ Z (by walk_at "lk") (by walk_at "lk") (by walk_at "lk") (by walk_at "lk") (by simpa using hpp) (hR.set hr) (par_lt' hpk hlt) (hsd ▸ (sd_go (lt := gtN) hlt hb).symm))))
    · refine xs_nil (b1 _ (xs_brk (Bb _ (hC _ fun E'' => ?_))))
      refine s_set Z (.name Z.ns (by walk_at "lk")) (.name Z.ns (by walk_at "lk")) (.name Z.ns (by walk_at "lk")) (fun _ => not_nil) (Rk.size hp) (hR.fit hp) fun s₈ Z => ?_
      rw [ranked_set, ← sd_brk (lt := gtN) hlt hb, hsd] at Z
      exact xs_nil (hQn _ (ret _ Z.rest (fun b o hb' e => Z.keep b o (hext b o hb' e)) (Z.nw _ (.head _)).1))
  · refine s_set Z (.name Z.ns m4) (.name Z.ns m1) (.name Z.ns m3) (fun _ => not_nil) (Rk.size hp) (hR.fit hp) fun s₈ Z => ?_
    rw [ranked_set, ← sd_stop (cast_ge hb), hsd] at Z
    exact xs_nil (hQn _ (ret _ Z.rest (fun b o hb' e => Z.keep b o (hext b o hb' e)) (Z.nw _ (.head _)).1))
end

end Mine

end
section
open PySem PySem.W PySem.Calls PyProof.Rows PySem.SeqAt
namespace Mine

def suC (lt : Nat → Nat → Bool) (xs : List Nat) (p : Nat) : Nat := if (decide (2 * p + 2 < xs.length) && !lt (xs.getD (2 * p + 1) 0) (xs.getD (2 * p + 2) 0)) = true then 2 * p + 2 else 2 * p + 1
def suL (lt : Nat → Nat → Bool) : Nat → List Nat → Nat → List Nat × Nat
  | 0, xs, p => (xs, p)
  | f + 1, xs, p => if 2 * p + 1 < xs.length then suL lt f (xs.set p (xs.getD (suC lt xs p) 0)) (suC lt xs p) else (xs, p)
def su (lt : Nat → Nat → Bool) (rs : List Nat) (ps : Nat) : List Nat :=
  sd lt (rs.getD ps 0) ps 8 ((suL lt 8 rs ps).1.set (suL lt 8 rs ps).2 (rs.getD ps 0)) (suL lt 8 rs ps).2

theorem suL_stop {lt : Nat → Nat → Bool} {f : Nat} {xs : List Nat} {p : Nat} (h : ¬ 2 * p + 1 < xs.length) : suL lt f xs p = (xs, p) := by cases f <;> simp [suL, h]
theorem suL_go {lt : Nat → Nat → Bool} {f : Nat} {xs : List Nat} {p : Nat} (h : 2 * p + 1 < xs.length) : suL lt (f + 1) xs p = suL lt f (xs.set p (xs.getD (suC lt xs p) 0)) (suC lt xs p) := by simp only [suL, if_pos h]
theorem suC_lt {lt : Nat → Nat → Bool} {xs : List Nat} {p : Nat} (h : 2 * p + 1 < xs.length) : suC lt xs p < xs.length := by
  unfold suC; split
  · rename_i q; simp at q; exact q.1
  · exact h
theorem suC_gt {lt : Nat → Nat → Bool} {xs : List Nat} {p : Nat} : p < suC lt xs p := by unfold suC; split <;> omega
theorem su_meas {lt : Nat → Nat → Bool} {xs : List Nat} {p k n : Nat} (h : n ≤ p + (k + 1)) : n ≤ suC lt xs p + k := by have := suC_gt (lt := lt) (xs := xs) (p := p); omega
theorem su_fuel {n p k : Nat} (h : p < n) (q : n ≤ p + k) : ∃ k', k = k' + 1 := ⟨k - 1, by omega⟩
theorem cast1 {p : Nat} : 2 * (p : Int) + 1 = ((2 * p + 1 : Nat) : Int) := by omega
theorem cast2 {p : Nat} : ((2 * p + 1 : Nat) : Int) + 1 = ((2 * p + 2 : Nat) : Int) := by omega
theorem cast_cmp {a b : Nat} : decide ((a : Int) < (b : Int)) = decide (a < b) := by simp
theorem sizeR {item : Nat → Value} {rs : List Nat} : (ranked item rs).size = rs.length := by simp
theorem mul2 {p n : Nat} (h : p < n) (q : n ≤ 8) : IntMulOk 2 (p : Int) := by mul_fits
theorem dec_lt {a b : Nat} (h : decide (a < b) = true) : a < b := of_decide_eq_true h
theorem dec_ge {a b : Nat} (h : decide (a < b) = false) : ¬ a < b := of_decide_eq_false h
theorem setd {rs : List Nat} {p x : Nat} (h : p < rs.length) : (rs.set p x).getD p 0 = x := by simp [h]

inductive SuI (h₁ : Heap) (L : Addr) (s₀ : Shared) (item : Nat → Value) (n : Nat → Prop) (D : Addr) (ep sp : Nat) (ni len : Nat) (lt : Nat → Nat → Bool) (R : List Nat × Nat) : Nat → Shared → Prop
  | mk {s : Shared} (m : Str → Option Value) (rs' : List Nat) (p k : Nat) (t t1 t2 t3 : Tok) : Fm h₁ L s₀ [(D, listOf (ranked item rs') ep)] m s → m "heap" = some (.ref D) → m "startpos" = some (.int (sp : Nat) t1) → m "pos" = some (.int (p : Nat) t) → m "newitem" = some (item ni) →
      m "endpos" = some (.int (len : Nat) t2) → m "childpos" = some (.int ((2 * p + 1 : Nat) : Int) t3) → rs'.length = len → p < rs'.length → Rk n rs' → rs'.length ≤ p + k → suL lt k rs' p = R → SuI h₁ L s₀ item n D ep sp ni len lt R k s

section
variable {w : World} {A : Around} {E : Value → Shared → Prop} {s : Shared} {Q : Value → Shared → Prop} {h₀ : Heap} {n : Nat → Prop} {item : Nat → Value} {D : Addr} {rs : List Nat} {ep : Nat}

set_option maxHeartbeats 4000000 in
theorem siftup_spec {ps : Nat} {t2 : Tok} (G : Gd w h₀) (hk₀ : ∀ b o, h₀.get? b = some o → s.heap.get? b = some o) (O : Ord h₀ n item)
    (hD : s.heap.get? D = some (listOf (ranked item rs) ep)) (hD0 : h₀.get? D = none) (hR : Rk n rs) (hp : ps < rs.length)
    (hroom : A.depth + 1 < recursionLimit) (hu : A.units + 40 < cLine)
    (ret : ∀ s', Rest s s' → Ext [D] s.heap s'.heap → s'.heap.get? D = some (listOf (ranked item (su ltN rs ps)) ep) → Q .none s') :
    wpAny (MM w) A (call (.ref 197) [.ref D, .int ps t2]) Q E s := by
  refine' callF (binds := [("heap", .ref D), ("pos", .int ps t2)]) G hk₀ [(D, listOf (ranked item rs) ep)] ?hm ?ho ?hc (Nat.lt_of_succ_lt hroom) ?hb ?hl ?_ ?c1 ?c2 ?c3 ?c4; (case ho => k_is); (case hc => k_is); (case hb => exact BindsTo.of_eq rfl); (case hl => exact rfl); (case c1 => decide); (case c2 => exact rfl); (case c3 => exact rfl); (case c4 => exact rfl); (case hm => exact List.forall_mem_singleton.mpr ⟨hD, hD0⟩)
  intro h₁ L s₁ A' E' Q' _ hu' hdp _ hQn G₁ st hext Z
  have O₁ : Ord h₁ n item := O.keeps st
  have hni := hR.get hp
  refine s_asg Z (EvI.cast (EvI.len G₁ Z.keep (.name Z.ns rfl) (Z.nw _ (.head _)).1 (by rw [sizeR]; exact Nat.le_trans hR.small (by decide))) (congrArg Nat.cast sizeR)) ?_
  rintro _ s₂ ⟨t3, rfl⟩ Z
  refine s_asg Z (EvV.name Z.ns (by walk_at "lk")) ?_
  rintro _ s₃ rfl Z
  refine s_asg Z (EvV.item (.name Z.ns (by walk_at "lk")) (.name Z.ns (by walk_at "lk")) (Z.nw _ (.head _)).1 (ranked_get hp) (hR.fit hp)) ?_
  rintro _ s₄ rfl Z
  refine s_asg Z (EvI.cast (.add (.mul .const (.name Z.ns (by walk_at "lk")) (mul2 hp hR.small)) .const) cast1) ?_
  rintro _ s₅ ⟨t4, rfl⟩ Z
  unfold su at ret
  generalize rs.getD ps 0 = ni at *
  refine s_while (SuI h₁ L s item n D ep ps ni rs.length ltN (suL ltN 8 rs ps)) 8 (.mk _ rs ps 8 _ _ _ _ Z (by walk_at "lk") (by walk_at "lk") (by walk_at "lk") (by walk_at "lk") (by walk_at "lk") (by walk_at "lk") rfl hp hR (Nat.le_trans hR.small (Nat.le_add_left _ _)) rfl) ?_
  clear Z
  rintro k s₆ E' B C ⟨m, rs', p, k, t, t1, t2, t3, Z, m1, m2, m3, m4, m5, m6, hlen, hp', hR', hk, hsu⟩ Bn _ _ _ hC
  obtain ⟨k, rfl⟩ := su_fuel hp' hk
  refine ⟨decide (2 * p + 1 < rs'.length), cast_cmp ▸ hlen ▸ .lt (.name Z.ns m6) (.name Z.ns m5), fun s₇ hh r => ?_⟩
  have Z := Z.touch hh r
  clear hh r
  refine ⟨fun hb => ?_, fun hb => hC _ fun E'' => ?_⟩
  · have hlt := dec_lt hb
    refine s_asg Z (EvI.cast (.add (.name Z.ns m6) .const) cast2) ?_
    rintro _ s₈ ⟨t5, rfl⟩ Z
    refine s_if (b := decide (2 * p + 2 < rs'.length) && !ltN (rs'.getD (2 * p + 1) 0) (rs'.getD (2 * p + 2) 0)) Z (.and (cast_cmp ▸ hlen ▸ .lt (.name Z.ns (by walk_at "lk")) (.name Z.ns (by walk_at "lk"))) fun hb => ?_) fun B' s₉ Z b1 _ _ _ => ?_
    · have hlt' := dec_lt hb
      exact .not (.ltV (.item (.name Z.ns (by walk_at "lk")) (.name Z.ns (by walk_at "lk")) (Z.nw _ (.head _)).1 (ranked_get hlt) (hR'.fit hlt)) (.item (.name Z.ns (by walk_at "lk")) (.name Z.ns (by walk_at "lk")) (Z.nw _ (.head _)).1 (ranked_get hlt') (hR'.fit hlt'))
        fun s hs => O₁ _ _ (hR'.get hlt) (hR'.get hlt') _ _ (hs ▸ Z.keep) (by omega))
    · have hc := suC_lt (lt := ltN) hlt
      have tail : ∀ s₉ m' t', Fm h₁ L s [(D, listOf (ranked item rs') ep)] m' s₉ → m' "heap" = some (.ref D) → m' "startpos" = some (.int (ps : Nat) t1) → m' "pos" = some (.int (p : Nat) t) → m' "newitem" = some (item ni) →
          m' "endpos" = some (.int (rs.length : Nat) t2) → m' "childpos" = some (.int (suC ltN rs' p : Nat) t') → B' .next s₉ := fun s₉ m' t' Z m1 m2 m3 m4 m5 m6 => b1 _ (by
        refine s_set Z (.item (.name Z.ns m1) (.name Z.ns m6) (Z.nw _ (.head _)).1 (ranked_get hc) (hR'.fit hc)) (.name Z.ns m1) (.name Z.ns m3) (fun _ => not_nil) (Rk.size hp') (hR'.fit hp') fun s₁₀ Z => ?_
        rw [ranked_set] at Z
        refine s_asg Z (EvV.name Z.ns m6) ?_
        rintro _ s₁₁ rfl Z
        refine s_asg Z (EvI.cast (.add (.mul .const (.name Z.ns (by walk_at "lk")) (mul2 hc hR'.small)) .const) cast1) ?_
        rintro _ s₁₂ ⟨t6, rfl⟩ Z
        refine xs_nil (Bn k _ (Nat.lt_succ_self _) (.mk _ _ _ _ _ _ _ _ Z (by walk_at "lk") (by walk_at "lk") (by walk_at "lk") (by walk_at "lk") (by walk_at "lk") (by walk_at "lk") ((List.length_set ..).trans hlen) ?_ (hR'.set (hR'.get hc)) ?_ (hsu ▸ (suL_go hlt).symm)))
        · rw [List.length_set]; exact hc
        · rw [List.length_set]; exact su_meas hk)
      refine ⟨fun hb => ?_, fun hb => xs_nil (tail _ _ t3 Z (by walk_at "lk") (by walk_at "lk") (by walk_at "lk") (by walk_at "lk") (by walk_at "lk") ?_)⟩
      · refine s_asg Z (EvV.name Z.ns (by walk_at "lk")) ?_
        rintro _ s₁₀ rfl Z
        refine xs_nil (tail _ _ t5 Z (by walk_at "lk") (by walk_at "lk") (by walk_at "lk") (by walk_at "lk") (by walk_at "lk") ?_)
        rw [suC, if_pos hb]; exact upd_same
      · rw [suC, if_neg (by rw [hb]; decide)]; exact upd_ne (by decide) m6
  · rw [suL_stop (dec_ge hb)] at hsu
    rw [← hsu] at ret
    refine s_set Z (.name Z.ns m4) (.name Z.ns m1) (.name Z.ns m3) (fun _ => not_nil) (Rk.size hp') (hR'.fit hp') fun s₈ Z => ?_
    rw [ranked_set] at Z
    refine s_expr (callP3 (EvV.glob G₁ Z.keep (by k_is)) (.K G₁ Z.keep (by k_is)) (EvV.name Z.ns m1) (EvV.name Z.ns m2) (EvV.name Z.ns m3) ?_)
    rintro _ _ _ s₉ rfl rfl rfl hh r
    have Z := Z.touch hh r
    refine siftdown_spec G₁ Z.keep O₁ (Z.nw _ (.head _)).1 (Z.nw _ (.head _)).2.2 (hR'.set hni) (by rw [List.length_set]; exact hp') (by omega) (by omega) fun s₁₀ r x hD => ⟨rfl, ?_⟩
    rw [setd hp'] at hD
    have Z := Z.ext r x hD fun _ => not_nil
    exact xs_nil (hQn _ (ret _ Z.rest (fun b o hb' e => Z.keep b o (hext b o hb' e)) (Z.nw _ (.head _)).1))

set_option maxHeartbeats 4000000 in
theorem siftupM_spec {ps : Nat} {t2 : Tok} (G : Gd w h₀) (hk₀ : ∀ b o, h₀.get? b = some o → s.heap.get? b = some o) (O : Ord h₀ n item)
    (hD : s.heap.get? D = some (listOf (ranked item rs) ep)) (hD0 : h₀.get? D = none) (hR : Rk n rs) (hp : ps < rs.length)
    (hroom : A.depth + 1 < recursionLimit) (hu : A.units + 40 < cLine)
    (ret : ∀ s', Rest s s' → Ext [D] s.heap s'.heap → s'.heap.get? D = some (listOf (ranked item (su gtN rs ps)) ep) → Q .none s') :
    wpAny (MM w) A (call (.ref 211) [.ref D, .int ps t2]) Q E s := by
  refine' callF (binds := [("heap", .ref D), ("pos", .int ps t2)]) G hk₀ [(D, listOf (ranked item rs) ep)] ?hm ?ho ?hc (Nat.lt_of_succ_lt hroom) ?hb ?hl ?_ ?c1 ?c2 ?c3 ?c4; (case ho => k_is); (case hc => k_is); (case hb => exact BindsTo.of_eq rfl); (case hl => exact rfl); (case c1 => decide); (case c2 => exact rfl); (case c3 => exact rfl); (case c4 => exact rfl); (case hm => exact List.forall_mem_singleton.mpr ⟨hD, hD0⟩)
  intro h₁ L s₁ A' E' Q' _ hu' hdp _ hQn G₁ st hext Z
  have O₁ : Ord h₁ n item := O.keeps st
  have hni := hR.get hp
  refine s_asg Z (EvI.cast (EvI.len G₁ Z.keep (.name Z.ns rfl) (Z.nw _ (.head _)).1 (by rw [sizeR]; exact Nat.le_trans hR.small (by decide))) (congrArg Nat.cast sizeR)) ?_
  rintro _ s₂ ⟨t3, rfl⟩ Z
  refine s_asg Z (EvV.name Z.ns (by walk_at "lk")) ?_
  rintro _ s₃ rfl Z
  refine s_asg Z (EvV.item (.name Z.ns (by walk_at "lk")) (.name Z.ns (by walk_at "lk")) (Z.nw _ (.head _)).1 (ranked_get hp) (hR.fit hp)) ?_
  rintro _ s₄ rfl Z
  refine s_asg Z (EvI.cast (.add (.mul .const (.name Z.ns (by walk_at "lk")) (mul2 hp hR.small)) .const) cast1) ?_
  rintro _ s₅ ⟨t4, rfl⟩ Z
  unfold su at ret
  generalize rs.getD ps 0 = ni at *
  refine s_while (SuI h₁ L s item n D ep ps ni rs.length gtN (suL gtN 8 rs ps)) 8 (.mk _ rs ps 8 _ _ _ _ Z (by walk_at "lk") (by walk_at "lk") (by walk_at "lk") (by walk_at "lk") (by walk_at "lk") (by walk_at "lk") rfl hp hR (Nat.le_trans hR.small (Nat.le_add_left _ _)) rfl) ?_
  clear Z
  rintro k s₆ E' B C ⟨m, rs', p, k, t, t1, t2, t3, Z, m1, m2, m3, m4, m5, m6, hlen, hp', hR', hk, hsu⟩ Bn _ _ _ hC
  obtain ⟨k, rfl⟩ := su_fuel hp' hk
  refine ⟨decide (2 * p + 1 < rs'.length), cast_cmp ▸ hlen ▸ .lt (.name Z.ns m6) (.name Z.ns m5), fun s₇ hh r => ?_⟩
  have Z := Z.touch hh r
  clear hh r
  refine ⟨fun hb => ?_, fun hb => hC _ fun E'' => ?_⟩
  · have hlt := dec_lt hb
    refine s_asg Z (EvI.cast (.add (.name Z.ns m6) .const) cast2) ?_
    rintro _ s₈ ⟨t5, rfl⟩ Z
    refine s_if (b := decide (2 * p + 2 < rs'.length) && !gtN (rs'.getD (2 * p + 1) 0) (rs'.getD (2 * p + 2) 0)) Z (.and (cast_cmp ▸ hlen ▸ .lt (.name Z.ns (by walk_at "lk")) (.name Z.ns (by walk_at "lk"))) fun hb => ?_) fun B' s₉ Z b1 _ _ _ => ?_
    · have hlt' := dec_lt hb
      exact .not (.ltV (.item (.name Z.ns (by walk_at "lk")) (.name Z.ns (by walk_at "lk")) (Z.nw _ (.head _)).1 (ranked_get hlt') (hR'.fit hlt')) (.item (.name Z.ns (by walk_at "lk")) (.name Z.ns (by walk_at "lk")) (Z.nw _ (.head _)).1 (ranked_get hlt) (hR'.fit hlt))
        fun s hs => O₁ _ _ (hR'.get hlt') (hR'.get hlt) _ _ (hs ▸ Z.keep) (by omega))
    · have hc := suC_lt (lt := gtN) hlt
      have tail : ∀ s₉ m' t', Fm h₁ L s [(D, listOf (ranked item rs') ep)] m' s₉ → m' "heap" = some (.ref D) → m' "startpos" = some (.int (ps : Nat) t1) → m' "pos" = some (.int (p : Nat) t) → m' "newitem" = some (item ni) →
          m' "endpos" = some (.int (rs.length : Nat) t2) → m' "childpos" = some (.int (suC gtN rs' p : Nat) t') → B' .next s₉ := fun s₉ m' t' Z m1 m2 m3 m4 m5 m6 => b1 _ (by
        refine s_set Z (.item (.name Z.ns m1) (.name Z.ns m6) (Z.nw _ (.head _)).1 (ranked_get hc) (hR'.fit hc)) (.name Z.ns m1) (.name Z.ns m3) (fun _ => not_nil) (Rk.size hp') (hR'.fit hp') fun s₁₀ Z => ?_
        rw [ranked_set] at Z
        refine s_asg Z (EvV.name Z.ns m6) ?_
        rintro _ s₁₁ rfl Z
        refine s_asg Z (EvI.cast (.add (.mul .const (.name Z.ns (by walk_at "lk")) (mul2 hc hR'.small)) .const) cast1) ?_
        rintro _ s₁₂ ⟨t6, rfl⟩ Z
        refine xs_nil (Bn k _ (Nat.lt_succ_self _) (.mk _ _ _ _ _ _ _ _ Z (by walk_at "lk") (by walk_at "lk") (by walk_at "lk") (by walk_at "lk") (by walk_at "lk") (by walk_at "lk") ((List.length_set ..).trans hlen) ?_ (hR'.set (hR'.get hc)) ?_ (hsu ▸ (suL_go hlt).symm)))
        · rw [List.length_set]; exact hc
        · rw [List.length_set]; exact su_meas hk)
      refine ⟨fun hb => ?_, fun hb => xs_nil (tail _ _ t3 Z (by walk_at "lk") (by walk_at "lk") (by walk_at "lk") (by walk_at "lk") (by walk_at "lk") ?_)⟩
      · refine s_asg Z (EvV.name Z.ns (by walk_at "lk")) ?_
        rintro _ s₁₀ rfl Z
        refine xs_nil (tail _ _ t5 Z (by walk_at "lk") (by walk_at "lk") (by walk_at "lk") (by walk_at "lk") (by walk_at "lk") ?_)
        rw [suC, if_pos hb]; exact upd_same
      · rw [suC, if_neg (by rw [hb]; decide)]; exact upd_ne (by decide) m6
  · rw [suL_stop (dec_ge hb)] at hsu
    rw [← hsu] at ret
    refine s_set Z (.name Z.ns m4) (.name Z.ns m1) (.name Z.ns m3) (fun _ => not_nil) (Rk.size hp') (hR'.fit hp') fun s₈ Z => ?_
    rw [ranked_set] at Z
    refine s_expr (callP3 (EvV.glob G₁ Z.keep (by k_is)) (.K G₁ Z.keep (by k_is)) (EvV.name Z.ns m1) (EvV.name Z.ns m2) (EvV.name Z.ns m3) ?_)
    rintro _ _ _ s₉ rfl rfl rfl hh r
    have Z := Z.touch hh r
    refine siftdownM_spec G₁ Z.keep O₁ (Z.nw _ (.head _)).1 (Z.nw _ (.head _)).2.2 (hR'.set hni) (by rw [List.length_set]; exact hp') (by omega) (by omega) fun s₁₀ r x hD => ⟨rfl, ?_⟩
    rw [setd hp'] at hD
    have Z := Z.ext r x hD fun _ => not_nil
    exact xs_nil (hQn _ (ret _ Z.rest (fun b o hb' e => Z.keep b o (hext b o hb' e)) (Z.nw _ (.head _)).1))
end

end Mine

end
section
open PySem PySem.W PySem.Calls PyProof.Rows PySem.SeqAt
namespace Mine

theorem sd_len {lt : Nat → Nat → Bool} {ni sp : Nat} : ∀ (f : Nat) (xs : List Nat) (p : Nat), (sd lt ni sp f xs p).length = xs.length
  | 0, xs, p => by simp [sd]
  | f + 1, xs, p => by
    unfold sd
    split
    · split
      · rw [sd_len f]; simp
      · simp
    · simp
theorem sd_rk {n : Nat → Prop} {lt : Nat → Nat → Bool} {ni sp : Nat} (hn : n ni) : ∀ (f : Nat) (xs : List Nat) (p : Nat), Rk n xs → p < xs.length → Rk n (sd lt ni sp f xs p)
  | 0, xs, p, R, _ => R.set hn
  | f + 1, xs, p, R, h => by
    unfold sd
    split
    · split
      · exact sd_rk hn f _ _ (R.set (R.get (par_lt h))) (by rw [List.length_set]; exact par_lt h)
      · exact R.set hn
    · exact R.set hn
theorem suL_inv {n : Nat → Prop} {lt : Nat → Nat → Bool} : ∀ (f : Nat) (xs : List Nat) (p : Nat), Rk n xs → p < xs.length → Rk n (suL lt f xs p).1 ∧ (suL lt f xs p).2 < xs.length ∧ (suL lt f xs p).1.length = xs.length
  | 0, xs, p, R, h => ⟨R, h, rfl⟩
  | f + 1, xs, p, R, h => by
    unfold suL
    split
    · rename_i q
      have := suL_inv (lt := lt) f (xs.set p (xs.getD (suC lt xs p) 0)) (suC lt xs p) (R.set (R.get (suC_lt q))) (by rw [List.length_set]; exact suC_lt q)
      rw [List.length_set] at this
      exact this
    · exact ⟨R, h, rfl⟩
theorem su_rk {n : Nat → Prop} {lt : Nat → Nat → Bool} {rs : List Nat} {ps : Nat} (R : Rk n rs) (h : ps < rs.length) : Rk n (su lt rs ps) :=
  have hn := R.get h
  have q := suL_inv (lt := lt) 8 rs ps R h
  sd_rk hn _ _ _ (q.1.set hn) (by rw [List.length_set, q.2.2]; exact q.2.1)
theorem suL_len {lt : Nat → Nat → Bool} : ∀ (f : Nat) (xs : List Nat) (p : Nat), (suL lt f xs p).1.length = xs.length
  | 0, xs, p => rfl
  | f + 1, xs, p => by
    unfold suL
    split
    · rw [suL_len f]; simp
    · rfl
theorem su_len {lt : Nat → Nat → Bool} {rs : List Nat} {ps : Nat} (h : ps < rs.length) : (su lt rs ps).length = rs.length := by
  unfold su; rw [sd_len, List.length_set, suL_len]

def hpL (lt : Nat → Nat → Bool) : Nat → List Nat → List Nat
  | 0, xs => xs
  | k + 1, xs => hpL lt k (su lt xs k)
def hpf (lt : Nat → Nat → Bool) (xs : List Nat) : List Nat := hpL lt (xs.length / 2) xs
theorem cast_half {n : Nat} : (n : Int).fdiv 2 = ((n / 2 : Nat) : Int) := by
  rw [Int.fdiv_eq_ediv_of_nonneg _ (by decide)]; omega
inductive HpJ (item : Nat → Value) (n : Nat → Prop) (D : Addr) (ep : Nat) (lt : Nat → Nat → Bool) (R : List Nat) (k len i : Nat) : List (Addr × Obj) → (Str → Option Value) → Prop
  | mk (m : Str → Option Value) (rs' : List Nat) : m "x" = some (.ref D) → hpL lt (k - i) rs' = R → Rk n rs' → rs'.length = len → HpJ item n D ep lt R k len i [(D, listOf (ranked item rs') ep)] m

section
variable {w : World} {A : Around} {E : Value → Shared → Prop} {s : Shared} {Q : Value → Shared → Prop} {h₀ : Heap} {n : Nat → Prop} {item : Nat → Value} {D : Addr} {rs : List Nat} {ep : Nat}

set_option maxHeartbeats 4000000 in
theorem heapify_spec (G : Gd w h₀) (hk₀ : ∀ b o, h₀.get? b = some o → s.heap.get? b = some o) (O : Ord h₀ n item)
    (hD : s.heap.get? D = some (listOf (ranked item rs) ep)) (hD0 : h₀.get? D = none) (hR : Rk n rs)
    (hh : A.handled = none) (hroom : A.depth + 2 < recursionLimit) (hu : A.units + 60 < cLine)
    (ret : ∀ s', Rest s s' → Ext [D] s.heap s'.heap → s'.heap.get? D = some (listOf (ranked item (hpf ltN rs)) ep) → Q .none s') :
    wpAny (MM w) A (call (.ref 169) [.ref D]) Q E s := by
  refine' callF (binds := [("x", .ref D)]) G hk₀ [(D, listOf (ranked item rs) ep)] ?hm ?ho ?hc (Nat.lt_of_succ_lt (Nat.lt_of_succ_lt hroom)) ?hb ?hl ?_ ?c1 ?c2 ?c3 ?c4; (case ho => k_is); (case hc => k_is); (case hb => exact BindsTo.of_eq rfl); (case hl => exact rfl); (case c1 => decide); (case c2 => exact rfl); (case c3 => exact rfl); (case c4 => exact rfl); (case hm => exact List.forall_mem_singleton.mpr ⟨hD, hD0⟩)
  intro h₁ L s₁ A' E' Q' hh' hu' hdp _ hQn G₁ st hext Z
  have O₁ : Ord h₁ n item := O.keeps st
  refine s_asg Z (EvI.cast (EvI.len G₁ Z.keep (.name Z.ns rfl) (Z.nw _ (.head _)).1 (by rw [sizeR]; exact Nat.le_trans hR.small (by decide))) (congrArg Nat.cast sizeR)) ?_
  rintro _ s₂ ⟨t3, rfl⟩ Z
  refine s_forRevRange (k := rs.length / 2) G₁ Z (hh'.trans hh) (EvI.cast (.fdiv (.name Z.ns (by walk_at "lk")) .const (by decide) (by decide)) cast_half) (Nat.le_trans (Nat.div_le_self _ _) (Nat.le_trans hR.small (by decide)))
    (HpJ item n D ep ltN (hpf ltN rs) (rs.length / 2) rs.length) (.mk _ rs (by walk_at "lk") rfl hR rfl) ?_ ?_
  · rintro i _ m s₃ h₂ t E'' B hi ⟨_, rs', m1, hJ, hR', hlen⟩ st' Z bn
    have hix : rs.length / 2 - 1 - i < rs'.length := by rw [hlen]; omega
    refine s_expr (callP2 (EvV.glob G₁ (fun b o e => Z.keep b o (st' b o e)) (by k_is)) (.K G₁ (fun b o e => Z.keep b o (st' b o e)) (by k_is)) (EvV.name Z.ns (by walk_at "lk")) (EvV.name Z.ns (by walk_at "lk")) ?_)
    rintro _ _ s₄ rfl rfl hh r
    have Z := Z.touch hh r
    refine siftup_spec (G₁.keeps st') Z.keep (O₁.keeps st') (Z.nw _ (.head _)).1 (Z.nw _ (.head _)).2.2 hR' hix (by omega) (by omega) fun s₅ r x hD => ⟨rfl, ?_⟩
    have Z := Z.ext r x hD fun _ => not_nil
    refine xs_nil (bn _ _ _ Z (.mk _ _ (by walk_at "lk") ?_ (su_rk hR' hix) ((su_len hix).trans hlen)))
    rw [← hJ, show rs.length / 2 - i = (rs.length / 2 - 1 - i) + 1 by omega, show rs.length / 2 - (i + 1) = rs.length / 2 - 1 - i by omega]; rfl
  · rintro _ m s₃ E'' ⟨_, rs', m1, hJ, hR', hlen⟩ Z
    rw [Nat.sub_self] at hJ
    have e : rs' = hpf ltN rs := hJ
    subst e
    exact xs_nil (hQn _ (ret _ Z.rest (fun b o hb' e => Z.keep b o (hext b o hb' e)) (Z.nw _ (.head _)).1))

set_option maxHeartbeats 4000000 in
theorem heapifyM_spec (G : Gd w h₀) (hk₀ : ∀ b o, h₀.get? b = some o → s.heap.get? b = some o) (O : Ord h₀ n item)
    (hD : s.heap.get? D = some (listOf (ranked item rs) ep)) (hD0 : h₀.get? D = none) (hR : Rk n rs)
    (hh : A.handled = none) (hroom : A.depth + 2 < recursionLimit) (hu : A.units + 60 < cLine)
    (ret : ∀ s', Rest s s' → Ext [D] s.heap s'.heap → s'.heap.get? D = some (listOf (ranked item (hpf gtN rs)) ep) → Q .none s') :
    wpAny (MM w) A (call (.ref 183) [.ref D]) Q E s := by
  refine' callF (binds := [("x", .ref D)]) G hk₀ [(D, listOf (ranked item rs) ep)] ?hm ?ho ?hc (Nat.lt_of_succ_lt (Nat.lt_of_succ_lt hroom)) ?hb ?hl ?_ ?c1 ?c2 ?c3 ?c4; (case ho => k_is); (case hc => k_is); (case hb => exact BindsTo.of_eq rfl); (case hl => exact rfl); (case c1 => decide); (case c2 => exact rfl); (case c3 => exact rfl); (case c4 => exact rfl); (case hm => exact List.forall_mem_singleton.mpr ⟨hD, hD0⟩)
  intro h₁ L s₁ A' E' Q' hh' hu' hdp _ hQn G₁ st hext Z
  have O₁ : Ord h₁ n item := O.keeps st
  refine s_asg Z (EvI.cast (EvI.len G₁ Z.keep (.name Z.ns rfl) (Z.nw _ (.head _)).1 (by rw [sizeR]; exact Nat.le_trans hR.small (by decide))) (congrArg Nat.cast sizeR)) ?_
  rintro _ s₂ ⟨t3, rfl⟩ Z
  refine s_forRevRange (k := rs.length / 2) G₁ Z (hh'.trans hh) (EvI.cast (.fdiv (.name Z.ns (by walk_at "lk")) .const (by decide) (by decide)) cast_half) (Nat.le_trans (Nat.div_le_self _ _) (Nat.le_trans hR.small (by decide)))
    (HpJ item n D ep gtN (hpf gtN rs) (rs.length / 2) rs.length) (.mk _ rs (by walk_at "lk") rfl hR rfl) ?_ ?_
  · rintro i _ m s₃ h₂ t E'' B hi ⟨_, rs', m1, hJ, hR', hlen⟩ st' Z bn
    have hix : rs.length / 2 - 1 - i < rs'.length := by rw [hlen]; omega
    refine s_expr (callP2 (EvV.glob G₁ (fun b o e => Z.keep b o (st' b o e)) (by k_is)) (.K G₁ (fun b o e => Z.keep b o (st' b o e)) (by k_is)) (EvV.name Z.ns (by walk_at "lk")) (EvV.name Z.ns (by walk_at "lk")) ?_)
    rintro _ _ s₄ rfl rfl hh r
    have Z := Z.touch hh r
    refine siftupM_spec (G₁.keeps st') Z.keep (O₁.keeps st') (Z.nw _ (.head _)).1 (Z.nw _ (.head _)).2.2 hR' hix (by omega) (by omega) fun s₅ r x hD => ⟨rfl, ?_⟩
    have Z := Z.ext r x hD fun _ => not_nil
    refine xs_nil (bn _ _ _ Z (.mk _ _ (by walk_at "lk") ?_ (su_rk hR' hix) ((su_len hix).trans hlen)))
    rw [← hJ, show rs.length / 2 - i = (rs.length / 2 - 1 - i) + 1 by omega, show rs.length / 2 - (i + 1) = rs.length / 2 - 1 - i by omega]; rfl
  · rintro _ m s₃ E'' ⟨_, rs', m1, hJ, hR', hlen⟩ Z
    rw [Nat.sub_self] at hJ
    have e : rs' = hpf gtN rs := hJ
    subst e
    exact xs_nil (hQn _ (ret _ Z.rest (fun b o hb' e => Z.keep b o (hext b o hb' e)) (Z.nw _ (.head _)).1))

set_option maxHeartbeats 4000000 in
theorem heapreplace_spec {r : Nat} (G : Gd w h₀) (hk₀ : ∀ b o, h₀.get? b = some o → s.heap.get? b = some o) (O : Ord h₀ n item)
    (hD : s.heap.get? D = some (listOf (ranked item rs) ep)) (hD0 : h₀.get? D = none) (hR : Rk n rs) (hp : 0 < rs.length) (hr : n r)
    (hroom : A.depth + 2 < recursionLimit) (hu : A.units + 60 < cLine)
    (ret : ∀ s', Rest s s' → Ext [D] s.heap s'.heap → s'.heap.get? D = some (listOf (ranked item (su ltN (rs.set 0 r) 0)) ep) → Q (item (rs.getD 0 0)) s') :
    wpAny (MM w) A (call (.ref 162) [.ref D, item r]) Q E s := by
  refine' callF (binds := [("heap", .ref D), ("item", item r)]) G hk₀ [(D, listOf (ranked item rs) ep)] ?hm ?ho ?hc (Nat.lt_of_succ_lt (Nat.lt_of_succ_lt hroom)) ?hb ?hl ?_ ?c1 ?c2 ?c3 ?c4; (case ho => k_is); (case hc => k_is); (case hb => exact BindsTo.of_eq rfl); (case hl => exact rfl); (case c1 => decide); (case c2 => exact rfl); (case c3 => exact rfl); (case c4 => exact rfl); (case hm => exact List.forall_mem_singleton.mpr ⟨hD, hD0⟩)
  intro h₁ L s₁ A' E' Q' _ hu' hdp hQ _ G₁ st hext Z
  have O₁ : Ord h₁ n item := O.keeps st
  refine s_asg Z (EvV.item (k := 0) (.name Z.ns rfl) .const (Z.nw _ (.head _)).1 (ranked_get hp) (hR.fit hp)) ?_
  rintro _ s₂ rfl Z
  refine s_set (k := 0) Z (.name Z.ns (by walk_at "lk")) (.name Z.ns (by walk_at "lk")) .const (fun _ => not_nil) (Rk.size hp) (hR.fit hp) fun s₃ Z => ?_
  rw [ranked_set] at Z
  refine s_expr (callP2 (P₂ := fun v => ∃ t, v = .int ((0 : Nat) : Int) t) (EvV.glob G₁ Z.keep (by k_is)) (.K G₁ Z.keep (by k_is)) (EvV.name Z.ns (by walk_at "lk")) EvI.const ?_)
  rintro _ _ s₄ rfl ⟨t, rfl⟩ hh r
  have Z := Z.touch hh r
  refine siftup_spec G₁ Z.keep O₁ (Z.nw _ (.head _)).1 (Z.nw _ (.head _)).2.2 (hR.set hr) (by rw [List.length_set]; exact hp) (by omega) (by omega) fun s₅ r x hD => ⟨rfl, ?_⟩
  have Z := Z.ext r x hD fun _ => not_nil
  refine s_retE Z (EvV.name Z.ns (by walk_at "lk")) ?_
  rintro _ s₆ rfl Z
  exact hQ _ _ (ret _ Z.rest (fun b o hb' e => Z.keep b o (hext b o hb' e)) (Z.nw _ (.head _)).1)

set_option maxHeartbeats 4000000 in
theorem heapreplaceM_spec {r : Nat} (G : Gd w h₀) (hk₀ : ∀ b o, h₀.get? b = some o → s.heap.get? b = some o) (O : Ord h₀ n item)
    (hD : s.heap.get? D = some (listOf (ranked item rs) ep)) (hD0 : h₀.get? D = none) (hR : Rk n rs) (hp : 0 < rs.length) (hr : n r)
    (hroom : A.depth + 2 < recursionLimit) (hu : A.units + 60 < cLine)
    (ret : ∀ s', Rest s s' → Ext [D] s.heap s'.heap → s'.heap.get? D = some (listOf (ranked item (su gtN (rs.set 0 r) 0)) ep) → Q (item (rs.getD 0 0)) s') :
    wpAny (MM w) A (call (.ref 176) [.ref D, item r]) Q E s := by
  refine' callF (binds := [("heap", .ref D), ("item", item r)]) G hk₀ [(D, listOf (ranked item rs) ep)] ?hm ?ho ?hc (Nat.lt_of_succ_lt (Nat.lt_of_succ_lt hroom)) ?hb ?hl ?_ ?c1 ?c2 ?c3 ?c4; (case ho => k_is); (case hc => k_is); (case hb => exact BindsTo.of_eq rfl); (case hl => exact rfl); (case c1 => decide); (case c2 => exact rfl); (case c3 => exact rfl); (case c4 => exact rfl); (case hm => exact List.forall_mem_singleton.mpr ⟨hD, hD0⟩)
  intro h₁ L s₁ A' E' Q' _ hu' hdp hQ _ G₁ st hext Z
  have O₁ : Ord h₁ n item := O.keeps st
  refine s_asg Z (EvV.item (k := 0) (.name Z.ns rfl) .const (Z.nw _ (.head _)).1 (ranked_get hp) (hR.fit hp)) ?_
  rintro _ s₂ rfl Z
  refine s_set (k := 0) Z (.name Z.ns (by walk_at "lk")) (.name Z.ns (by walk_at "lk")) .const (fun _ => not_nil) (Rk.size hp) (hR.fit hp) fun s₃ Z => ?_
  rw [ranked_set] at Z
  refine s_expr (callP2 (P₂ := fun v => ∃ t, v = .int ((0 : Nat) : Int) t) (EvV.glob G₁ Z.keep (by k_is)) (.K G₁ Z.keep (by k_is)) (EvV.name Z.ns (by walk_at "lk")) EvI.const ?_)
  rintro _ _ s₄ rfl ⟨t, rfl⟩ hh r
  have Z := Z.touch hh r
  refine siftupM_spec G₁ Z.keep O₁ (Z.nw _ (.head _)).1 (Z.nw _ (.head _)).2.2 (hR.set hr) (by rw [List.length_set]; exact hp) (by omega) (by omega) fun s₅ r x hD => ⟨rfl, ?_⟩
  have Z := Z.ext r x hD fun _ => not_nil
  refine s_retE Z (EvV.name Z.ns (by walk_at "lk")) ?_
  rintro _ s₆ rfl Z
  exact hQ _ _ (ret _ Z.rest (fun b o hb' e => Z.keep b o (hext b o hb' e)) (Z.nw _ (.head _)).1)

end

end Mine

end
section
open PySem PySem.W PySem.Calls PyProof.Rows PySem.SeqAt
namespace Mine

/-- a method of a list, as a name of the frame has it -/
abbrev MethEq (o : Expr) (name : Str) (apos pos : Pos) (args : List Expr) (env : Env) (pl : Sem Bool) : Prop :=
  eval (.Call (.Attribute o name apos) args [] pos) env = (do
      let ov ← eval o env
      standAt apos.atName
      let (f, first) ← holding [ov] (getMethod ov name pl)
      callWith pos f first (backTo pos (starEach args env)) [])

section
variable {w : World} {A : Around} {E : Value → Shared → Prop} {env : Env} {h₀ : Heap} {L : Addr} {s₀ s : Shared} {news : List (Addr × Obj)} {m : Str → Option Value} {Q : Value → Shared → Prop} {o : Expr} {apos pos : Pos} {pl : Sem Bool} {D : Addr}

theorem getMethL {its : Array Value} {ep : Nat} {name : Str} {id : String} {Q : Value × List Value → Shared → Prop} (hD : s.heap.get? D = some (listOf its ep)) (slot : Slot "list" name id) (hty : typeOf (.builtin id) = pure (.type "method_descriptor"))
    (h : Q (.builtin id, [.ref D]) s) : wpAny (MM w) A (getMethod (.ref D) name pl) Q E s :=
  getMethod_builtin ⟨_, hD, rfl⟩ PySem.F.plainAttrs_list slot hty (fun a e => by cases e; exact ⟨_, hD, rfl⟩) h

theorem pop_ranked {item : Nat → Value} {rs : List Nat} : (ranked item rs).eraseIdxIfInBounds ((ranked item rs).size - 1) = ranked item rs.dropLast := by
  apply Array.toList_inj.mp
  simp only [ranked, List.size_toArray, List.length_map, List.map_dropLast]
  rw [show ((List.map item rs).toArray.eraseIdxIfInBounds (rs.length - 1)).toList = (List.map item rs).eraseIdx (rs.length - 1) by simp, List.eraseIdx_eq_take_drop_succ, List.dropLast_eq_take]
  have : (List.map item rs).drop (rs.length - 1 + 1) = [] := List.drop_eq_nil_of_le (by simp; omega)
  rw [this]; simp

theorem e_pop {item : Nat → Value} {rs : List Nat} {ep : Nat} (Z : Fm h₀ L s₀ ((D, listOf (ranked item rs) ep) :: news) m s) (a : EvV w A env s.heap o (.ref D)) (hne : 0 < rs.length) (hs : rs.length ≤ 1000) (hn : ∀ p ∈ news, p.1 ≠ D)
    (h : ∀ s', Fm h₀ L s₀ ((D, listOf (ranked item rs.dropLast) (ep + 1)) :: news) m s' → Q (item (rs.getD (rs.length - 1) 0)) s') (he : MethEq o "pop" apos pos [] env pl := by rfl) :
    wpAny (MM w) A (eval (.Call (.Attribute o "pop" apos) [] [] pos) env) Q E s := by
  refine MethodCall_ (a s _ E rfl fun x s₁ hx h₁ r₁ => ?_) he
  subst hx
  have Z := Z.touch h₁ r₁
  have z := Z.nw _ (List.Mem.head _)
  refine getMethL z.1 F.slot_list_pop F.type_list_pop ?_
  have hsz : (ranked item rs).size = rs.length := sizeR
  refine P.pop_list z.1 (by rw [hsz]; exact ranked_get (by omega)) (h _ ?_) (by rw [hsz, sizeLine_eq]; omega)
  have e : Obj.mapSeq (fun xs => xs.eraseIdxIfInBounds ((ranked item rs).size - 1)) (listOf (ranked item rs) ep) = listOf (ranked item rs.dropLast) (ep + 1) := by
    unfold Obj.mapSeq
    dsimp only
    rw [pop_ranked, if_neg (by simp [ranked]; omega)]
  exact Z.chg (Heap.SameBut.update ..) (e ▸ Heap.get?_update_self _ z.1 (e ▸ rfl)) hn

theorem Tst.list {its : Array Value} {ep : Nat} {e : Expr} {h : Heap} (a : EvV w A env h e (.ref D)) (hD : h.get? D = some (listOf its ep)) (hs : its.size ≤ 1000)
    (he : ∀ whole, isTrue e env whole = (do let v ← whole; standAt e.pos; holding [v] (truthy v)) := by intro _; rfl) : Tst w A env h e (!its.isEmpty) := fun s Q E hh k => by
  subst hh
  refine wpAny_isTrue_value (a s _ E rfl fun x s₁ hx h₁ r₁ => ?_) (he _)
  subst hx
  exact wpAny_truthy_list ⟨_, h₁ ▸ hD, rfl, ep, rfl⟩ (by omega) (k _ h₁ (r₁.trans .heap))
end

def popR (rs : List Nat) : List Nat := if rs.dropLast = [] then [] else su ltN (rs.dropLast.set 0 (rs.getD (rs.length - 1) 0)) 0
def popV (rs : List Nat) : Nat := if rs.dropLast = [] then rs.getD (rs.length - 1) 0 else rs.dropLast.getD 0 0
theorem Rk.dropLast {n : Nat → Prop} {rs : List Nat} (R : Rk n rs) : Rk n rs.dropLast := ⟨fun r h => R.lt r (List.dropLast_subset _ h), by have := R.small; rw [List.length_dropLast]; omega⟩
theorem rk_empty {item : Nat → Value} {rs : List Nat} : (ranked item rs).isEmpty = decide (rs = []) := by cases rs <;> simp [ranked]
theorem ne_len {rs : List Nat} (h : ¬ rs = []) : 0 < rs.length := List.length_pos_iff.mpr h

section
variable {w : World} {A : Around} {E : Value → Shared → Prop} {s : Shared} {Q : Value → Shared → Prop} {h₀ : Heap} {n : Nat → Prop} {item : Nat → Value} {D : Addr} {rs : List Nat} {ep : Nat}
set_option maxHeartbeats 4000000 in
theorem heappop_spec (G : Gd w h₀) (hk₀ : ∀ b o, h₀.get? b = some o → s.heap.get? b = some o) (O : Ord h₀ n item)
    (hD : s.heap.get? D = some (listOf (ranked item rs) ep)) (hD0 : h₀.get? D = none) (hR : Rk n rs) (hp : 0 < rs.length)
    (hroom : A.depth + 2 < recursionLimit) (hu : A.units + 60 < cLine)
    (ret : ∀ s', Rest s s' → Ext [D] s.heap s'.heap → s'.heap.get? D = some (listOf (ranked item (popR rs)) (ep + 1)) → Q (item (popV rs)) s') :
    wpAny (MM w) A (call (.ref 155) [.ref D]) Q E s := by
  refine' callF (binds := [("heap", .ref D)]) G hk₀ [(D, listOf (ranked item rs) ep)] ?hm ?ho ?hc (Nat.lt_of_succ_lt (Nat.lt_of_succ_lt hroom)) ?hb ?hl ?_ ?c1 ?c2 ?c3 ?c4; (case ho => k_is); (case hc => k_is); (case hb => exact BindsTo.of_eq rfl); (case hl => exact rfl); (case c1 => decide); (case c2 => exact rfl); (case c3 => exact rfl); (case c4 => exact rfl); (case hm => exact List.forall_mem_singleton.mpr ⟨hD, hD0⟩)
  intro h₁ L s₁ A' E' Q' _ hu' hdp hQ _ G₁ st hext Z
  have O₁ : Ord h₁ n item := O.keeps st
  refine s_asgW (e_pop Z (.name Z.ns rfl) hp (Nat.le_trans hR.small (by decide)) (fun _ => not_nil) fun s₂ Z => ⟨_, _, _, Z, fun s₃ Z => ?_⟩)
  have hl : n (rs.getD (rs.length - 1) 0) := hR.get (by omega)
  unfold popR popV at ret
  generalize rs.getD (rs.length - 1) 0 = la at *
  have hR' := hR.dropLast
  generalize rs.dropLast = rs' at *
  refine s_if Z (.list (.name Z.ns (by walk_at "lk")) (Z.nw _ (.head _)).1 (by rw [sizeR]; exact Nat.le_trans hR'.small (by decide))) fun B s₄ Z b1 _ _ b4 => ⟨fun hb => ?_, fun hb => xs_nil (b1 _ ?_)⟩
  · rw [rk_empty] at hb
    have hne : ¬ rs' = [] := by simpa using hb
    rw [if_neg hne, if_neg hne] at ret
    have hp' := ne_len hne
    refine s_asg Z (EvV.item (k := 0) (.name Z.ns (by walk_at "lk")) .const (Z.nw _ (.head _)).1 (ranked_get hp') (hR'.fit hp')) ?_
    rintro _ s₅ rfl Z
    refine s_set (k := 0) Z (.name Z.ns (by walk_at "lk")) (.name Z.ns (by walk_at "lk")) .const (fun _ => not_nil) (Rk.size hp') (hR'.fit hp') fun s₆ Z => ?_
    rw [ranked_set] at Z
    refine s_expr (callP2 (P₂ := fun v => ∃ t, v = .int ((0 : Nat) : Int) t) (EvV.glob G₁ Z.keep (by k_is)) (.K G₁ Z.keep (by k_is)) (EvV.name Z.ns (by walk_at "lk")) EvI.const ?_)
    rintro _ _ s₇ rfl ⟨t, rfl⟩ hh r
    have Z := Z.touch hh r
    refine siftup_spec G₁ Z.keep O₁ (Z.nw _ (.head _)).1 (Z.nw _ (.head _)).2.2 (hR'.set hl) (by rw [List.length_set]; exact hp') (by omega) (by omega) fun s₅ r x hD => ⟨rfl, ?_⟩
    have Z := Z.ext r x hD fun _ => not_nil
    refine s_retE Z (EvV.name Z.ns (by walk_at "lk")) ?_
    rintro _ s₆ rfl Z
    exact b4 _ _ (hQ _ _ (ret _ Z.rest (fun b o hb' e => Z.keep b o (hext b o hb' e)) (Z.nw _ (.head _)).1))
  · rw [rk_empty] at hb
    have he : rs' = [] := by simpa using hb
    rw [if_pos he, if_pos he] at ret
    subst he
    refine s_retE Z (EvV.name Z.ns (by walk_at "lk")) ?_
    rintro _ s₆ rfl Z
    exact hQ _ _ (ret _ Z.rest (fun b o hb' e => Z.keep b o (hext b o hb' e)) (Z.nw _ (.head _)).1)
end
end Mine

end
section
open PySem PySem.W PySem.Calls PyProof.Rows PySem.SeqAt
namespace Mine

/-- all objects of a heap but those of S, as a ledger -/
def allBut (h : Heap) (S : List Addr) : List (Addr × Obj) := (List.range h.objs.size).filterMap fun b => if b ∈ S then none else (h.get? b).map (b, ·)
theorem mem_allBut {h : Heap} {S : List Addr} {b : Addr} {o : Obj} : (b, o) ∈ allBut h S ↔ h.get? b = some o ∧ b ∉ S := by
  unfold allBut
  rw [List.mem_filterMap]
  constructor
  · rintro ⟨a, ha, e⟩
    split at e
    · cases e
    · rename_i hs
      obtain ⟨o', e1, e2⟩ := Option.map_eq_some_iff.mp e
      cases e2
      exact ⟨e1, hs⟩
  · rintro ⟨e, hs⟩
    exact ⟨b, List.mem_range.mpr (Heap.lt_size e), by rw [if_neg hs, e]; rfl⟩

/-- the empty base: what the library's rules want of a frame -/
theorem frE {h : Heap} {L : Addr} {m : Str → Option Value} (hn : h.Ns L m) : Fr {} L h m := ⟨hn, fun b o e => by simp [Heap.get?] at e, Nat.zero_le _⟩
theorem newsE {h : Heap} {L : Addr} {l : List (Addr × Obj)} (hl : ∀ p ∈ l, h.get? p.1 = some p.2 ∧ p.1 ≠ L) : News {} L h l := fun p hp => ⟨(hl p hp).1, (hl p hp).2, by simp [Heap.get?]⟩

section
variable {w : World} {A : Around} {E : Value → Shared → Prop} {env : Env} {h₀ : Heap} {L : Addr} {s₀ s : Shared} {news : List (Addr × Obj)} {m : Str → Option Value} {name : Str} {x C p : Addr} {dx : Addr} {sl : Array (Option Value)} {i : Nat} {v : Value} {e : Expr}

abbrev inst (C dx : Addr) (sl : Array (Option Value)) : Obj := ⟨.ref C, some dx, .plain, sl⟩

/-- a slot of an made thing is stored -/
theorem setSlot {od : Obj} {sl' : Array (Option Value)} {Q : Unit → Shared → Prop} (G : Gd w h₀) (Z : Fm h₀ L s₀ ((x, inst C dx sl) :: (dx, od) :: news) m s) (hxd : dx ≠ x) (hn : ∀ p ∈ news, p.1 ≠ x)
    (hs : findIn (K w.params) (.ref C) "__setattr__" = some (some (.builtin "object.__setattr__"))) (hp : plainOver (K w.params) C = true) (ht : takerIn (K w.params) C name = some (some (.ref p)))
    (hT : typeIn (K w.params) (.ref p) = some (.type "member_descriptor")) (hi : slotIn (K w.params) p C = some i) (hz : i < 1000)
    (he : (sl ++ Array.replicate (i + 1 - sl.size) none).setIfInBounds i (some v) = sl')
    (h : ∀ s', Fm h₀ L s₀ ((x, inst C dx sl') :: (dx, od) :: news) m s' → Q () s') : wpAny (MM w) A (setAttr (.ref x) name v) Q E s := by
  have z := Z.nw _ (.head _)
  have z2 := Z.nw _ (.tail _ (.head _))
  have X := G.X.keeps Z.keep
  have I : InstAt s.heap x (inst C dx sl) C (some od) := ⟨z.1, rfl, rfl, z2.1⟩
  refine set_plain X I hs (osa_descr KF.slot_mset X I hp ht hT (slot_set (s := { s with toks := s.toks + 1 }) (ox' := inst C dx sl') (L := L) (m := m) (h₀ := {}) (pre := []) (post := allBut s.heap [x, L]) (frE Z.ns) (newsE ?_) X I hi hz (by simp) ?_ (he ▸ rfl) rfl fun h' F' N' => h _ ?_))
  · intro q hq
    rcases List.mem_cons.mp hq with rfl | hq
    · exact ⟨z.1, z.2.1⟩
    · have := mem_allBut.mp (show (q.1, q.2) ∈ _ from hq)
      exact ⟨this.1, fun e => this.2 (by simp [e])⟩
  · intro q hq
    have := mem_allBut.mp (show (q.1, q.2) ∈ _ from hq)
    exact fun e => this.2 (by simp [e])
  · have keep : ∀ b o, b ≠ x → b ≠ L → s.heap.get? b = some o → h'.get? b = some o := fun b o h1 h2 q => (N' (b, o) (.tail _ (mem_allBut.mpr ⟨q, by simp [h1, h2]⟩))).1
    refine ⟨F'.ns, fun b o q => keep b o ?_ ?_ (Z.keep b o q), Z.off, fun q hq => ?_, Z.rest.trans .heap⟩
    · rintro rfl; rw [z.2.2] at q; cases q
    · rintro rfl; rw [Z.off] at q; cases q
    · rcases List.mem_cons.mp hq with rfl | hq
      · exact ⟨(N' _ (.head _)).1, z.2⟩
      · have y := Z.nw q (.tail _ hq)
        refine ⟨keep _ _ ?_ y.2.1 y.1, y.2⟩
        rcases List.mem_cons.mp hq with rfl | hq
        · exact hxd
        · exact hn q hq

/-- a slot of an made thing is read -/
theorem getSlot {od : Obj} {h : Heap} {expr : Bool} {Q : Value → Shared → Prop} (G : Gd w h₀) (hk₀ : ∀ b o, h₀.get? b = some o → s.heap.get? b = some o) (h1 : s.heap.get? x = some (inst C dx sl)) (h2 : s.heap.get? dx = some od)
    (hg : plainGet (K w.params) C name = true) (hc : isClsIn (K w.params) C = true)
    (ha : findIn (K w.params) (.ref C) name = some (some (.ref p))) (hn : specialIn (K w.params) (.ref p) "__get__" = some (some (.builtin "member_descriptor.__get__"))) (ht : takesIn (K w.params) (.ref p) = some true) (hp : slotIn (K w.params) p C = some i)
    (hv : (sl[i]?).join = some v) (hh : handedIn v = true) (k : Q v { s with toks := s.toks + 1 }) : wpAny (MM w) A (getAttr (.ref x) name expr) Q E s :=
  have X := G.X.keeps hk₀
  have I : InstAt s.heap x (inst C dx sl) C (some od) := ⟨h1, rfl, rfl, h2⟩
  get_bind X I (plainGet_of hg).1 (findObj_data hc ha hn ht) (plainGet_of hg).2 (wpAny_call (slot_get (s := { s with toks := s.toks + 1 }) X I hp hv (handed_on hh k)))
end

/-- what is known of a slot of a class -/
structure SlotR (w : World) (C : Addr) (name : Str) (i : Nat) : Prop where
  hg : plainGet (K w.params) C name = true
  hc : isClsIn (K w.params) C = true
  more : ∃ p, findIn (K w.params) (.ref C) name = some (some (.ref p)) ∧ specialIn (K w.params) (.ref p) "__get__" = some (some (.builtin "member_descriptor.__get__")) ∧ takesIn (K w.params) (.ref p) = some true ∧
    slotIn (K w.params) p C = some i ∧ takerIn (K w.params) C name = some (some (.ref p)) ∧ typeIn (K w.params) (.ref p) = some (.type "member_descriptor")
  hs : findIn (K w.params) (.ref C) "__setattr__" = some (some (.builtin "object.__setattr__"))
  hp : plainOver (K w.params) C = true
theorem st_count (w : World) : SlotR w 75 "count" 0 := ⟨by k_is, by k_is, ⟨76, by k_is, by k_is, by k_is, by k_is, by k_is, by k_is⟩, by k_is, by k_is⟩
theorem st_size (w : World) : SlotR w 75 "size" 1 := ⟨by k_is, by k_is, ⟨77, by k_is, by k_is, by k_is, by k_is, by k_is, by k_is⟩, by k_is, by k_is⟩
theorem st_tb (w : World) : SlotR w 75 "traceback" 2 := ⟨by k_is, by k_is, ⟨78, by k_is, by k_is, by k_is, by k_is, by k_is, by k_is⟩, by k_is, by k_is⟩
theorem sd_count (w : World) : SlotR w 134 "count" 0 := ⟨by k_is, by k_is, ⟨135, by k_is, by k_is, by k_is, by k_is, by k_is, by k_is⟩, by k_is, by k_is⟩
theorem sd_countd (w : World) : SlotR w 134 "count_diff" 1 := ⟨by k_is, by k_is, ⟨136, by k_is, by k_is, by k_is, by k_is, by k_is, by k_is⟩, by k_is, by k_is⟩
theorem sd_size (w : World) : SlotR w 134 "size" 2 := ⟨by k_is, by k_is, ⟨137, by k_is, by k_is, by k_is, by k_is, by k_is, by k_is⟩, by k_is, by k_is⟩
theorem sd_sized (w : World) : SlotR w 134 "size_diff" 3 := ⟨by k_is, by k_is, ⟨138, by k_is, by k_is, by k_is, by k_is, by k_is, by k_is⟩, by k_is, by k_is⟩
theorem sd_tb (w : World) : SlotR w 134 "traceback" 4 := ⟨by k_is, by k_is, ⟨139, by k_is, by k_is, by k_is, by k_is, by k_is, by k_is⟩, by k_is, by k_is⟩

abbrev tupOf (vs : List Value) : Obj := { cls := .type "tuple", data := .seq vs.toArray }
/-- an made thing, with its own dict -/
def InstH (h : Heap) (x C : Addr) (sl : Array (Option Value)) : Prop := ∃ dx od, h.get? x = some (inst C dx sl) ∧ h.get? dx = some od ∧ od = emptyDict
theorem InstH.keeps {h h' : Heap} {x C : Addr} {sl : Array (Option Value)} (a : InstH h x C sl) (hk : ∀ b o, h.get? b = some o → h'.get? b = some o) : InstH h' x C sl :=
  let ⟨dx, od, h1, h2, h3⟩ := a; ⟨dx, od, hk _ _ h1, hk _ _ h2, h3⟩

/-- the values of some expressions -/
def EvL (w : World) (A : Around) (env : Env) (h : Heap) (es : List Expr) (P : List Value → Prop) : Prop :=
  ∀ (pos : Pos) (s : Shared) (Q : List Value → Shared → Prop) (E : Value → Shared → Prop), s.heap = h → (∀ vs s', P vs → s'.heap = h → Rest s s' → Q vs s') → wpAny (MM w) A (spliced (backTo pos (starEach es env))) Q E s

section
variable {w : World} {A : Around} {E : Value → Shared → Prop} {env : Env} {h h₀ : Heap} {L : Addr} {s₀ s : Shared} {news : List (Addr × Obj)} {m : Str → Option Value} {x C : Addr} {sl : Array (Option Value)} {i : Nat} {v : Value} {e : Expr} {es : List Expr} {pos p np : Pos} {n name : Str} {P : Value → Prop} {PL : List Value → Prop} {k : Nat}

theorem EvL.nil : EvL w A env h [] (fun l => l = []) := fun pos s Q E hs k => wpAny_items_nil (k _ _ rfl hs (.refl _))
theorem EvL.cons (a : Evs w A env h e P) (b : EvL w A env h es PL) (he : starEach (e :: es) env = (false, eval e env) :: starEach es env := by rfl) : EvL w A env h (e :: es) (fun l => ∃ v vs, l = v :: vs ∧ P v ∧ PL vs) := fun pos s Q E hs k =>
  wpAny_items_cons (a s _ E hs fun v s₁ hv h₁ r₁ => b pos s₁ _ E h₁ fun vs s₂ hvs h₂ r₂ => k _ s₂ ⟨v, vs, rfl, hv, hvs⟩ h₂ (r₁.trans r₂)) he

theorem EvV.attr (G : Gd w h₀) (hk₀ : ∀ b o, h₀.get? b = some o → h.get? b = some o) (a : EvV w A env h (.Name n np) (.ref x)) (I : InstH h x C sl) (S : SlotR w C name i) (hv : (sl[i]?).join = some v) (hh : handedIn v = true) :
    EvV w A env h (.Attribute (.Name n np) name pos) v := fun s Q E hs k => by
  subst hs
  refine Attribute_name (a s _ E rfl fun y s₁ hy h₁ r₁ => ?_)
  subst hy
  obtain ⟨dx, od, i1, i2, -⟩ := I
  obtain ⟨p, m1, m2, m3, m4, -⟩ := S.more
  exact getSlot (h := {}) G (h₁ ▸ hk₀) (h₁ ▸ i1) (h₁ ▸ i2) S.hg S.hc m1 m2 m3 m4 hv hh (k _ _ rfl h₁ (r₁.trans .heap))
theorem EvI.attr {j : Int} {t : Tok} (G : Gd w h₀) (hk₀ : ∀ b o, h₀.get? b = some o → h.get? b = some o) (a : EvV w A env h (.Name n np) (.ref x)) (I : InstH h x C sl) (S : SlotR w C name i) (hv : (sl[i]?).join = some (.int j t)) :
    EvI w A env h (.Attribute (.Name n np) name pos) j := (EvV.attr G hk₀ a I S hv rfl).mono fun _ q => ⟨t, q⟩

theorem EvI.abs {j : Int} (G : Gd w h₀) (hk₀ : ∀ b o, h₀.get? b = some o → h.get? b = some o) (a : EvI w A env h e j) (n1 : nsIn (K w.params) mainGlobals "abs" = some Option.none := by k_is)
    (hg : env.globals = mainGlobals := by rfl) (hb : env.builtins = builtinsNs := by rfl) (hk : env.scope.kind = .function := by rfl) (x1 : env.kindOf "abs" = some .globalImplicit := by rfl) (he : starEach [e] env = [(false, eval e env)] := by rfl) :
    EvI w A env h (.Call (.Name "abs" np) [e] [] pos) (j.natAbs : Int) := fun s Q E hs k => by
  subst hs
  refine callP1 (f := .builtin "abs") (EvV.bltN G hk₀ n1 (hg := hg) (hb := hb) (hk := hk) (hx := x1)) .blt a (fun v s' hv h' r' => ?_) he
  obtain ⟨t, rfl⟩ := hv
  refine call_abs_int fun u tk => ?_
  rw [show (if j < 0 then -j else j) = (j.natAbs : Int) by split <;> omega]
  exact k _ _ ⟨_, rfl⟩ h' (r'.trans .heap)

/-- a tuple display of plain values -/
theorem e_tuple {Q : Value → Shared → Prop} (Z : Fm h₀ L s₀ news m s) (a : EvL w A env s.heap es PL) (hsz : es.length ≤ 1000) (hlen : ∀ vs, PL vs → vs.length = es.length)
    (h : ∀ vs t s', PL vs → Fm h₀ L s₀ ((t, tupOf vs) :: news) m s' → (∀ p ∈ news, p.1 ≠ t) → s.heap.get? t = none → Q (.ref t) s') : wpAny (MM w) A (eval (.Tuple es k pos) env) Q E s := by
  refine wpAny_Tuple (a _ s _ E rfl fun vs s₁ hv h₁ r₁ => ⟨by rw [hlen vs hv, sizeLine_eq]; omega, ?_⟩)
  have Z₁ := Z.touch h₁ r₁
  obtain ⟨Z₂, n2⟩ := Z₁.new (ob := tupOf vs) (tk := s₁.toks)
  exact h vs _ _ hv Z₂ n2 (by rw [← h₁]; exact Heap.get?_none_of_le (Nat.le_refl _))

theorem s_attr {C dx : Addr} {sl' : Array (Option Value)} {od : Obj} {rest : List Stmt} {Q : Flow → Shared → Prop} {pos' : Pos} (G : Gd w h₀) (Z : Fm h₀ L s₀ ((x, inst C dx sl) :: (dx, od) :: news) m s) (hxd : dx ≠ x) (hn : ∀ p ∈ news, p.1 ≠ x) (a : EvV w A env s.heap (.Name n np) (.ref x)) (c : EvV w A env s.heap e v)
    (S : SlotR w C name i) (hz : i < 1000) (he : (sl ++ Array.replicate (i + 1 - sl.size) none).setIfInBounds i (some v) = sl')
    (h : ∀ s', Fm h₀ L s₀ ((x, inst C dx sl') :: (dx, od) :: news) m s' → wpAny (MM w) A (execs rest env) Q E s') (hs : swapsWith e (some (.Attribute (.Name n np) name pos')) pos.line env = pure false := by rfl) :
    wpAny (MM w) A (execs (.Assign [.Attribute (.Name n np) name pos'] e pos :: rest) env) Q E s := by
  refine xs_cons (plainObj_wpAny_Assign_Attribute (c s _ E rfl fun y s₁ hy h₁ r₁ => a s₁ _ E h₁ fun z s₂ hz h₂ r₂ => ?_) hs)
  subst hy hz
  obtain ⟨p, m1, m2, m3, m4, m5, m6⟩ := S.more
  exact setSlot G (Z.touch h₂ (r₁.trans r₂)) hxd hn S.hs S.hp m5 m6 m4 (by assumption) he h
end
end Mine

end
section
open PySem PySem.W PySem.Calls PyProof.Rows PySem.SeqAt
namespace Mine

/-- the values of a key: ints, then a place -/
inductive KV : List Value → List Int → Str → Prop
  | nil (p : Str) (t : Tok) : KV [.str p t] [] p
  | cons {vs : List Value} {is : List Int} {p : Str} (i : Int) (t : Tok) : KV vs is p → KV (.int i t :: vs) (i :: is) p

def klt : List Int → Str → List Int → Str → Bool
  | a :: as, p, b :: bs, q => if a = b then klt as p bs q else decide (a < b)
  | _, p, _, q => decide (p.cps.toList < q.cps.toList)
def keq : List Int → Str → List Int → Str → Bool
  | a :: as, p, b :: bs, q => (a == b) && keq as p bs q
  | [], p, [], q => p.cps.toList == q.cps.toList
  | _, _, _, _ => false

theorem LtAt.str {A : Around} {s : Shared} (a b : Str) (t u : Tok) : LtAt A s (.str a t) (.str b u) (decide (a.cps.toList < b.cps.toList)) := fun prog w E Q h => by
  have := @PyProof.Rows.lt_str prog w A E s a b t u Q h
  exact this

theorem GtAt.str {A : Around} {s : Shared} (a b : Str) (t u : Tok) : GtAt A s (.str a t) (.str b u) (decide (b.cps.toList < a.cps.toList)) := fun prog w E Q h => by
  have h2 : Q (.bool (b.cps.toList < a.cps.toList)) s := h
  have := @P.gt_str prog w A E s a b t u Q h2
  exact this

theorem KV.lex {A : Around} {s : Shared} : ∀ {xs ys : List Value} {is js : List Int} {p q : Str}, KV xs is p → KV ys js q → is.length = js.length → LexAt .Lt A s xs ys (klt is p js q)
  | _, _, _, _, _, _, .nil p t, .nil q u, _ => by
    by_cases h : (p.cps.toList == q.cps.toList) = true
    · have e : p.cps.toList = q.cps.toList := beq_iff_eq.mp h
      have : klt [] p [] q = false := by simp [klt, e]
      rw [this]
      exact .same (h ▸ (SeqRoads2.EqGives.str p q t u).at A s) .nil
    · exact .diff ((Bool.not_eq_true _ ▸ h) ▸ (SeqRoads2.EqGives.str p q t u).at A s) (LtAt.str p q t u) rfl
  | _, _, _, _, _, _, .cons i t hx, .cons j u hy, hl => by
    have ih := KV.lex (A := A) (s := s) hx hy (by simpa using hl)
    by_cases h : i = j
    · simp only [klt, if_pos h]
      exact .same ((beq_iff_eq.mpr h) ▸ EqAt.int_int i t j u) ih
    · simp only [klt, if_neg h]
      exact .diff ((beq_eq_false_iff_ne.mpr h) ▸ EqAt.int_int i t j u) (LtAt.int i j t u) ih.len
theorem KV.lexG {A : Around} {s : Shared} : ∀ {xs ys : List Value} {is js : List Int} {p q : Str}, KV xs is p → KV ys js q → is.length = js.length → LexAt .Gt A s xs ys (klt js q is p)
  | _, _, _, _, _, _, .nil p t, .nil q u, _ => by
    by_cases h : (p.cps.toList == q.cps.toList) = true
    · have e : p.cps.toList = q.cps.toList := beq_iff_eq.mp h
      have : klt [] q [] p = false := by simp [klt, e]
      rw [this]
      exact .same (h ▸ (SeqRoads2.EqGives.str p q t u).at A s) .nil
    · exact .diff ((Bool.not_eq_true _ ▸ h) ▸ (SeqRoads2.EqGives.str p q t u).at A s) (GtAt.str p q t u) rfl
  | _, _, _, _, _, _, .cons i t hx, .cons j u hy, hl => by
    have ih := KV.lexG (A := A) (s := s) hx hy (by simpa using hl)
    by_cases h : i = j
    · simp only [klt, if_pos h.symm]
      exact .same ((beq_iff_eq.mpr h) ▸ EqAt.int_int i t j u) ih
    · simp only [klt, if_neg (Ne.symm h)]
      exact .diff ((beq_eq_false_iff_ne.mpr h) ▸ EqAt.int_int i t j u) (GtAt.int i j t u) ih.len
theorem KV.eqs {A : Around} {s : Shared} : ∀ {xs ys : List Value} {is js : List Int} {p q : Str}, KV xs is p → KV ys js q → is.length = js.length →
    ∃ e : Nat → Bool, (∀ j (h1 : j < xs.length) (h2 : j < ys.length), EqAt A s xs[j] ys[j] (e j)) ∧ (List.range xs.length).all e = keq is p js q ∧ xs.length = ys.length
  | _, _, _, _, _, _, .nil p t, .nil q u, _ => ⟨fun _ => p.cps.toList == q.cps.toList, fun j h1 h2 => by
      obtain rfl : j = 0 := by simpa using h1
      exact (SeqRoads2.EqGives.str p q t u).at A s, by simp [keq], rfl⟩
  | _, _, _, _, _, _, .cons i t hx, .cons j u hy, hl => by
    obtain ⟨e, h1, h2, h3⟩ := KV.eqs (A := A) (s := s) hx hy (by simpa using hl)
    refine ⟨fun k => match k with | 0 => i == j | k + 1 => e k, fun k => ?_, ?_, by simp [h3]⟩
    · cases k with
      | zero => intro _ _; exact EqAt.int_int i t j u
      | succ k => intro a b; exact h1 k (by simpa using a) (by simpa using b)
    · rw [List.length_cons, List.range_succ_eq_map, List.all_cons, List.all_map]
      simp only [keq]
      rw [← h2]
      rfl

/-- a key tuple -/
def KeyAt (h : Heap) (k : Addr) (is : List Int) (p : Str) : Prop := ∃ vs, h.get? k = some (tupOf vs) ∧ KV vs is p
theorem KeyAt.keeps {h h' : Heap} {k : Addr} {is : List Int} {p : Str} (a : KeyAt h k is p) (hk : ∀ b o, h.get? b = some o → h'.get? b = some o) : KeyAt h' k is p := let ⟨vs, e, q⟩ := a; ⟨vs, hk _ _ e, q⟩
theorem KeyAt.lt {A : Around} {s : Shared} {k l : Addr} {is js : List Int} {p q : Str} (a : KeyAt s.heap k is p) (b : KeyAt s.heap l js q) (hl : is.length = js.length) (hu : A.units < cLine) : LtAt A s (.ref k) (.ref l) (klt is p js q) := by
  obtain ⟨vs, e1, k1⟩ := a
  obtain ⟨us, e2, k2⟩ := b
  exact LtAt.tuples ⟨_, e1, rfl, 0, rfl⟩ ⟨_, e2, rfl, 0, rfl⟩ hu (by simpa using KV.lex k1 k2 hl)
theorem KeyAt.gt {A : Around} {s : Shared} {k l : Addr} {is js : List Int} {p q : Str} (a : KeyAt s.heap k is p) (b : KeyAt s.heap l js q) (hl : is.length = js.length) (hu : A.units < cLine) : GtAt A s (.ref k) (.ref l) (klt js q is p) := by
  obtain ⟨vs, e1, k1⟩ := a
  obtain ⟨us, e2, k2⟩ := b
  exact GtAt.tuples ⟨_, e1, rfl, 0, rfl⟩ ⟨_, e2, rfl, 0, rfl⟩ hu (by simpa using KV.lexG k1 k2 hl)
theorem KeyAt.eq {A : Around} {s : Shared} {k l : Addr} {is js : List Int} {p q : Str} (a : KeyAt s.heap k is p) (b : KeyAt s.heap l js q) (hne : k ≠ l) (hl : is.length = js.length) (hu : A.units < cLine) : EqAt A s (.ref k) (.ref l) (keq is p js q) := by
  obtain ⟨vs, e1, k1⟩ := a
  obtain ⟨us, e2, k2⟩ := b
  obtain ⟨e, h1, h2, h3⟩ := KV.eqs (A := A.in1) (s := s) k1 k2 hl
  have := RcAt.tuples (e := e) (A := A) (s := s) (l := k) (b := l) ⟨_, e1, rfl, 0, rfl⟩ ⟨_, e2, rfl, 0, rfl⟩ hu (fun j a b => by simpa using h1 j (by simpa using a) (by simpa using b))
  refine .of_refs hne ?_
  rw [← h2]
  simpa [h3] using this

/-- the keys of n things, in rising order -/
structure Keys (n : Nat) (is : Nat → List Int) (p : Nat → Str) : Prop where
  lt : ∀ i j, i < n → j < n → klt (is i) (p i) (is j) (p j) = ltN i j
  ne : ∀ i j, i < n → j < n → i ≠ j → keq (is i) (p i) (is j) (p j) = false
  len : ∀ i j, i < n → j < n → (is i).length = (is j).length

theorem LexAt.refl {op : CmpOp} {A : Around} {s : Shared} : ∀ xs : List Value, LexAt op A s xs xs false
  | [] => .nil
  | x :: xs => .same (EqAt.same x) (LexAt.refl xs)

/-- a thing that is sorted: a tuple that begins with a key -/
def ItemAt (h : Heap) (v : Value) (is : List Int) (p : Str) (c : Nat) : Prop := ∃ t kt rest, v = .ref t ∧ h.get? t = some (tupOf (.ref kt :: rest)) ∧ KeyAt h kt is p ∧ rest.length = c
theorem ItemAt.keeps {h h' : Heap} {v : Value} {is : List Int} {p : Str} {c : Nat} (a : ItemAt h v is p c) (hk : ∀ b o, h.get? b = some o → h'.get? b = some o) : ItemAt h' v is p c :=
  let ⟨t, kt, rest, e1, e2, e3, e4⟩ := a; ⟨t, kt, rest, e1, hk _ _ e2, e3.keeps hk, e4⟩
theorem Ord.of {h : Heap} {n c : Nat} {S : Nat → Prop} {item : Nat → Value} {is : Nat → List Int} {p : Nat → Str} (KK : Keys n is p) (hS : ∀ r, S r → r < n) (hi : ∀ r, S r → ItemAt h (item r) (is r) (p r) c) : Ord h S item := fun i j hin hjn A s hs hu => by
  by_cases hij : i = j
  · subst hij
    obtain ⟨t, kt, rest, e1, e2, e3, e4⟩ := (hi i hin).keeps hs
    rw [e1, show ltN i i = false by simp [ltN]]
    exact LtAt.tuples ⟨_, e2, rfl, 0, rfl⟩ ⟨_, e2, rfl, 0, rfl⟩ (by omega) (LexAt.refl _)
  · obtain ⟨t, kt, rest, e1, e2, e3, e4⟩ := (hi i hin).keeps hs
    obtain ⟨t', kt', rest', f1, f2, f3, f4⟩ := (hi j hjn).keeps hs
    rw [e1, f1]
    have hl := KK.len i j (hS i hin) (hS j hjn)
    have hne : kt ≠ kt' := by
      rintro rfl
      obtain ⟨vs, g1, g2⟩ := e3
      obtain ⟨us, g3, g4⟩ := f3
      rw [g1] at g3
      have : vs = us := by injection g3 with g3; injection g3 with _ _ g3; injection g3 with g3; simpa using g3
      subst this
      have h1 := KK.ne i j (hS i hin) (hS j hjn) hij
      have : ∀ {vs : List Value} {is js : List Int} {p q : Str}, KV vs is p → KV vs js q → keq is p js q = true := by
        intro vs is js p q a
        induction a generalizing js with
        | nil p t => intro b; cases b; simp [keq]
        | cons i t a ih => intro b; cases b with | cons _ _ b => simp [keq, ih b]
      rw [this g2 g4] at h1
      cases h1
    refine LtAt.tuples ⟨_, e2, rfl, 0, rfl⟩ ⟨_, f2, rfl, 0, rfl⟩ (by omega) (.diff ?_ ?_ ?_)
    · have := KeyAt.eq (A := A.in1) e3 f3 hne hl (by simp; omega)
      rwa [KK.ne i j (hS i hin) (hS j hjn) hij] at this
    · have := KeyAt.lt (A := A.in1) e3 f3 hl (by simp; omega)
      rwa [KK.lt i j (hS i hin) (hS j hjn)] at this
    · rw [e4, f4]

section
variable {w : World} {A : Around} {E : Value → Shared → Prop} {s : Shared} {Q : Value → Shared → Prop} {h₀ : Heap}

/-- a class of the text is called: a new made thing, its __init__ called -/
theorem callC {C fI : Addr} {vs : List Value} (G : Gd w h₀) (hk₀ : ∀ b o, h₀.get? b = some o → s.heap.get? b = some o) (hm : makesIn (K w.params) C = true) (hi : findIn (K w.params) (.ref C) "__init__" = some (some (.ref fI))) (hf : isFn (K w.params) (.ref fI) = true)
    (h : ∀ x dx s' A', A'.handled = A.handled → A'.depth ≤ A.depth + 1 → A'.units ≤ A.units + 2 → Rest s s' → Ext [] s.heap s'.heap → s.heap.get? x = none → s.heap.get? dx = none → dx ≠ x → s'.heap.get? x = some (inst C dx #[]) → s'.heap.get? dx = some emptyDict →
      codeAny (MM w) A' (.call (.ref fI) ⟨.ref x :: vs, []⟩) (fun r s'' => match r with | .ok (.ret v) => v = .none ∧ Q (.ref x) s'' | .ok _ => False | .error e => E e s'') s') : wpAny (MM w) A (call (.ref C) vs) Q E s := by
  have X := G.X.keeps hk₀
  obtain ⟨hh, g, d, t, os⟩ := s
  refine wpAny_call (make_core (makes_of X hm) (looks_findIn X hi) (fun self => bind_fn X self (beq_iff_eq.mp hf)) (.inl rfl) (codeAny_mono (h (hh.objs.size + 1) hh.objs.size _ _ rfl ?_ ?_ .heap ?_ ?_ ?_ ?_ ?_ ?_) fun r s' z => ?_))
  · show A.depth + _ ≤ _
    exact Nat.add_le_add_left (Nat.le_of_eq (by kernel_rfl)) _
  · show A.units + _ ≤ _
    exact Nat.add_le_add_left (Nat.le_trans (Nat.le_of_eq (show _ = 1 by kernel_rfl)) (by decide)) _
  · exact fun b o _ e => Heap.get?_push_of_some _ (Heap.get?_push_of_some _ e)
  · exact Heap.get?_none_of_le (Nat.le_succ _)
  · exact Heap.get?_none_of_le (Nat.le_refl _)
  · exact Nat.ne_of_lt (Nat.lt_succ_self _)
  · have : (hh.push emptyDict).objs.size = hh.objs.size + 1 := by simp [Heap.push]
    rw [← this]; exact Heap.get?_push_size _ rfl
  · exact Heap.get?_push_of_some _ (Heap.get?_push_size _ rfl)
  · rcases r with e | (v | _ | _ | _) <;> exact z
end
end Mine

end
section
open PySem PySem.W PySem.Calls PyProof.Rows PySem.SeqAt
namespace Mine

section
variable {w : World} {A : Around} {E : Value → Shared → Prop} {s : Shared} {Q : Value → Shared → Prop} {h₀ : Heap}

theorem two_mem {s : Shared} {h₀ : Heap} {x dx : Addr} {o o' : Obj} (h1 : s.heap.get? x = some o) (h2 : s.heap.get? dx = some o') (h3 : h₀.get? x = none) (h4 : h₀.get? dx = none) : ∀ p ∈ [(x, o), (dx, o')], s.heap.get? p.1 = some p.2 ∧ h₀.get? p.1 = none := by
  intro p hp
  rcases List.mem_cons.mp hp with rfl | hp
  · exact ⟨h1, h3⟩
  · rcases List.mem_cons.mp hp with rfl | hp
    · exact ⟨h2, h4⟩
    · cases hp

theorem none_of {s : Shared} {h₀ : Heap} (hk₀ : ∀ b o, h₀.get? b = some o → s.heap.get? b = some o) {x : Addr} (h : s.heap.get? x = none) : h₀.get? x = none := by
  cases e : h₀.get? x with
  | none => rfl
  | some o => rw [hk₀ _ _ e] at h; cases h

set_option maxHeartbeats 4000000 in
theorem mkStat {tb sz ct : Value} (G : Gd w h₀) (hk₀ : ∀ b o, h₀.get? b = some o → s.heap.get? b = some o) (hroom : A.depth + 2 < recursionLimit)
    (ret : ∀ x dx s', Rest s s' → Ext [] s.heap s'.heap → s.heap.get? x = none → s.heap.get? dx = none → dx ≠ x → s'.heap.get? x = some (inst 75 dx #[some ct, some sz, some tb]) → s'.heap.get? dx = some emptyDict → Q (.ref x) s') :
    wpAny (MM w) A (call (.ref 75) [tb, sz, ct]) Q E s := by
  refine callC (fI := 36) G hk₀ (by k_is) (by k_is) (by k_is) fun x dx s' A₁ hh₁ hd₁ hu₁ r₁ x₁ nx ndx hne hx hdx => ?_
  refine' callFc (binds := [("self", .ref x), ("traceback", tb), ("size", sz), ("count", ct)]) (h₀ := h₀) G (fun b o e => x₁.nil b o (hk₀ b o e)) [(x, inst 75 dx #[]), (dx, emptyDict)] ?hm ?ho ?hc ?hr ?hb ?hl ?_ ?c1 ?c2 ?c3 ?c4; (case ho => k_is); (case hc => k_is); (case hb => exact BindsTo.of_eq rfl); (case hl => exact rfl); (case c1 => decide); (case c2 => exact rfl); (case c3 => exact rfl); (case c4 => exact rfl); (case hm => exact two_mem hx hdx (none_of hk₀ nx) (none_of hk₀ ndx)); (case hr => omega)
  intro h₁ L s₁ A' E' Q' _ hu' _ _ hQn G₁ st hext Z
  refine s_attr (sl' := #[none, none, some tb]) G₁ Z hne (fun _ => not_nil) (.name Z.ns rfl) (.name Z.ns rfl) (st_tb w) (by decide) rfl fun s₂ Z => ?_
  refine s_attr (sl' := #[none, some sz, some tb]) G₁ Z hne (fun _ => not_nil) (.name Z.ns rfl) (.name Z.ns rfl) (st_size w) (by decide) rfl fun s₃ Z => ?_
  refine s_attr (sl' := #[some ct, some sz, some tb]) G₁ Z hne (fun _ => not_nil) (.name Z.ns rfl) (.name Z.ns rfl) (st_count w) (by decide) rfl fun s₄ Z => ?_
  refine xs_nil (hQn _ ⟨rfl, ret x dx _ (r₁.trans Z.rest) (fun b o _ e => Z.keep b o (hext b o ?_ (x₁.nil b o e))) nx ndx hne (Z.nw _ (.head _)).1 (Z.nw _ (.tail _ (.head _))).1⟩)
  intro q
  simp only [List.map_cons, List.map_nil, List.mem_cons, List.not_mem_nil, or_false] at q
  rcases q with rfl | rfl
  · rw [nx] at e; cases e
  · rw [ndx] at e; cases e

set_option maxHeartbeats 4000000 in
theorem mkDiff {tb sz sd ct cd : Value} (G : Gd w h₀) (hk₀ : ∀ b o, h₀.get? b = some o → s.heap.get? b = some o) (hroom : A.depth + 2 < recursionLimit)
    (ret : ∀ x dx s', Rest s s' → Ext [] s.heap s'.heap → s.heap.get? x = none → s.heap.get? dx = none → dx ≠ x → s'.heap.get? x = some (inst 134 dx #[some ct, some cd, some sz, some sd, some tb]) → s'.heap.get? dx = some emptyDict → Q (.ref x) s') :
    wpAny (MM w) A (call (.ref 134) [tb, sz, sd, ct, cd]) Q E s := by
  refine callC (fI := 95) G hk₀ (by k_is) (by k_is) (by k_is) fun x dx s' A₁ hh₁ hd₁ hu₁ r₁ x₁ nx ndx hne hx hdx => ?_
  refine' callFc (binds := [("self", .ref x), ("traceback", tb), ("size", sz), ("size_diff", sd), ("count", ct), ("count_diff", cd)]) (h₀ := h₀) G (fun b o e => x₁.nil b o (hk₀ b o e)) [(x, inst 134 dx #[]), (dx, emptyDict)] ?hm ?ho ?hc ?hr ?hb ?hl ?_ ?c1 ?c2 ?c3 ?c4; (case ho => k_is); (case hc => k_is); (case hb => exact BindsTo.of_eq rfl); (case hl => exact rfl); (case c1 => decide); (case c2 => exact rfl); (case c3 => exact rfl); (case c4 => exact rfl); (case hm => exact two_mem hx hdx (none_of hk₀ nx) (none_of hk₀ ndx)); (case hr => omega)
  intro h₁ L s₁ A' E' Q' _ hu' _ _ hQn G₁ st hext Z
  refine s_attr (sl' := #[none, none, none, none, some tb]) G₁ Z hne (fun _ => not_nil) (.name Z.ns rfl) (.name Z.ns rfl) (sd_tb w) (by decide) rfl fun s₂ Z => ?_
  refine s_attr (sl' := #[none, none, some sz, none, some tb]) G₁ Z hne (fun _ => not_nil) (.name Z.ns rfl) (.name Z.ns rfl) (sd_size w) (by decide) rfl fun s₃ Z => ?_
  refine s_attr (sl' := #[none, none, some sz, some sd, some tb]) G₁ Z hne (fun _ => not_nil) (.name Z.ns rfl) (.name Z.ns rfl) (sd_sized w) (by decide) rfl fun s₄ Z => ?_
  refine s_attr (sl' := #[some ct, none, some sz, some sd, some tb]) G₁ Z hne (fun _ => not_nil) (.name Z.ns rfl) (.name Z.ns rfl) (sd_count w) (by decide) rfl fun s₃ Z => ?_
  refine s_attr (sl' := #[some ct, some cd, some sz, some sd, some tb]) G₁ Z hne (fun _ => not_nil) (.name Z.ns rfl) (.name Z.ns rfl) (sd_countd w) (by decide) rfl fun s₄ Z => ?_
  refine xs_nil (hQn _ ⟨rfl, ret x dx _ (r₁.trans Z.rest) (fun b o _ e => Z.keep b o (hext b o ?_ (x₁.nil b o e))) nx ndx hne (Z.nw _ (.head _)).1 (Z.nw _ (.tail _ (.head _))).1⟩)
  intro q
  simp only [List.map_cons, List.map_nil, List.mem_cons, List.not_mem_nil, or_false] at q
  rcases q with rfl | rfl
  · rw [nx] at e; cases e
  · rw [ndx] at e; cases e

/-- the key of a thing, as a function of the text makes it -/
def KeySpec (w : World) (f : Addr) (h : Heap) (x : Value) (is : List Int) (p : Str) : Prop :=
  ∀ (A : Around) (s : Shared) (Q E : Value → Shared → Prop), (∀ b o, h.get? b = some o → s.heap.get? b = some o) → A.depth < recursionLimit →
    (∀ k s', Rest s s' → Ext [] s.heap s'.heap → s.heap.get? k = none → KeyAt s'.heap k is p → Q (.ref k) s') → wpAny (MM w) A (call (.ref f) [x]) Q E s
theorem KeySpec.keeps {f : Addr} {h h' : Heap} {x : Value} {is : List Int} {p : Str} (a : KeySpec w f h x is p) (hk : ∀ b o, h.get? b = some o → h'.get? b = some o) : KeySpec w f h' x is p := fun A s Q E hs => a A s Q E fun b o e => hs b o (hk b o e)

set_option maxHeartbeats 4000000 in
theorem statKey {x : Addr} {ct sz : Int} {t1 t2 t3 : Tok} {p : Str} (G : Gd w h₀) (I : InstH h₀ x 75 #[some (.int ct t1), some (.int sz t2), some (.str p t3)]) : KeySpec w 71 h₀ (.ref x) [sz, ct] p := by
  intro A s Q E hk₀ hroom ret
  refine' callF (binds := [("self", .ref x)]) G hk₀ [] ?hm ?ho ?hc hroom ?hb ?hl ?_ ?c1 ?c2 ?c3 ?c4; (case ho => k_is); (case hc => k_is); (case hb => exact BindsTo.of_eq rfl); (case hl => exact rfl); (case c1 => decide); (case c2 => exact rfl); (case c3 => exact rfl); (case c4 => exact rfl); (case hm => exact fun _ h => nomatch h)
  intro h₁ L s₁ A' E' Q' _ hu' _ hQ _ G₁ st hext Z
  have I₁ := (I.keeps st).keeps Z.keep
  refine s_ret (e_tuple Z (.cons (EvV.attr G₁ Z.keep (.name Z.ns rfl) I₁ (st_size w) rfl rfl) (.cons (EvV.attr G₁ Z.keep (.name Z.ns rfl) I₁ (st_count w) rfl rfl) (.cons (EvV.attr G₁ Z.keep (.name Z.ns rfl) I₁ (st_tb w) rfl rfl) .nil))) (by decide) ?_ ?_)
  · rintro _ ⟨_, _, rfl, rfl, _, _, rfl, rfl, _, _, rfl, rfl, rfl⟩; rfl
  · rintro _ t s₂ ⟨_, _, rfl, rfl, _, _, rfl, rfl, _, _, rfl, rfl, rfl⟩ Z n nt
    exact hQ _ _ (ret t _ Z.rest (fun b o _ e => Z.keep b o (hext b o (by simp) e)) (by cases e : s.heap.get? t with | none => rfl | some o => have := (Z.nw _ (.head _)).2.2; rw [hext _ _ (by simp) e] at this; cases this) ⟨_, (Z.nw _ (.head _)).1, .cons _ _ (.cons _ _ (.nil _ _))⟩)

set_option maxHeartbeats 4000000 in
theorem diffKey {x : Addr} {ct cd sz sd : Int} {t1 t2 t3 t4 t5 : Tok} {p : Str} (G : Gd w h₀) (I : InstH h₀ x 134 #[some (.int ct t1), some (.int cd t2), some (.int sz t3), some (.int sd t4), some (.str p t5)]) :
    KeySpec w 130 h₀ (.ref x) [(sd.natAbs : Int), sz, (cd.natAbs : Int), ct] p := by
  intro A s Q E hk₀ hroom ret
  refine' callF (binds := [("self", .ref x)]) G hk₀ [] ?hm ?ho ?hc hroom ?hb ?hl ?_ ?c1 ?c2 ?c3 ?c4; (case ho => k_is); (case hc => k_is); (case hb => exact BindsTo.of_eq rfl); (case hl => exact rfl); (case c1 => decide); (case c2 => exact rfl); (case c3 => exact rfl); (case c4 => exact rfl); (case hm => exact fun _ h => nomatch h)
  intro h₁ L s₁ A' E' Q' _ hu' _ hQ _ G₁ st hext Z
  have I₁ := (I.keeps st).keeps Z.keep
  refine s_ret (e_tuple Z (.cons (EvI.abs G₁ Z.keep (.attr G₁ Z.keep (.name Z.ns rfl) I₁ (sd_sized w) rfl)) (.cons (EvV.attr G₁ Z.keep (.name Z.ns rfl) I₁ (sd_size w) rfl rfl)
    (.cons (EvI.abs G₁ Z.keep (.attr G₁ Z.keep (.name Z.ns rfl) I₁ (sd_countd w) rfl)) (.cons (EvV.attr G₁ Z.keep (.name Z.ns rfl) I₁ (sd_count w) rfl rfl) (.cons (EvV.attr G₁ Z.keep (.name Z.ns rfl) I₁ (sd_tb w) rfl rfl) .nil))))) (by decide) ?_ ?_)
  · rintro _ ⟨_, _, rfl, ⟨_, rfl⟩, _, _, rfl, rfl, _, _, rfl, ⟨_, rfl⟩, _, _, rfl, rfl, _, _, rfl, rfl, rfl⟩; rfl
  · rintro _ t s₂ ⟨_, _, rfl, ⟨_, rfl⟩, _, _, rfl, rfl, _, _, rfl, ⟨_, rfl⟩, _, _, rfl, rfl, _, _, rfl, rfl, rfl⟩ Z n nt
    exact hQ _ _ (ret t _ Z.rest (fun b o _ e => Z.keep b o (hext b o (by simp) e)) (by cases e : s.heap.get? t with | none => rfl | some o => have := (Z.nw _ (.head _)).2.2; rw [hext _ _ (by simp) e] at this; cases this) ⟨_, (Z.nw _ (.head _)).1, .cons _ _ (.cons _ _ (.cons _ _ (.cons _ _ (.nil _ _))))⟩)
end
end Mine

end
section
open PySem PySem.W PySem.Calls PyProof.Rows PySem.SeqAt
namespace Mine

theorem args_min_dk (a v u : Value) : argsOk "min" ⟨[a], [(Str.ofString "default", v), (Str.ofString "key", u)]⟩ := by unfold argsOk; kernel_rfl
theorem args_max_dk (a v u : Value) : argsOk "max" ⟨[a], [(Str.ofString "default", v), (Str.ofString "key", u)]⟩ := by unfold argsOk; kernel_rfl
section
variable {w : World} {A : Around} {R : Result → Shared → Prop} {I S q : Addr} {fp wr : List Addr} {n nk : Nat} {P : Nat → Value → Prop} {St : Nat → Heap → Prop} {ev : Nat → Value} {ρ : Nat → Nat} {is : Nat → List Int} {p : Nat → Str} {hb : Heap} {d : Value}

theorem min_loop (W : Walks PR w A.in1 I fp wr n P St) (hal : ∀ i h, St i h → ∀ b ∈ fp, ∃ o, h.get? b = some o) (hP : ∀ i v, P i v → v = ev i) (KK : Keys nk is p) (hρ : ∀ i, i < n → ρ i < nk) (hkey : ∀ i, i < n → KeySpec w q hb (ev i) (is (ρ i)) (p (ρ i)))
    (hSf : S ∉ fp) (hSb : hb.get? S = none) (hwb : ∀ b ∈ wr, hb.get? b = none) (hroom : A.depth < recursionLimit) (hu : A.units + 4 < cLine) :
    ∀ (k j : Nat) (s : Shared) (b kb c : Nat), n - j = k → j ≤ n → b < j → St j s.heap → s.heap.get? S = some (listOf #[ev b, .ref kb] c) → KeyAt s.heap kb (is (ρ b)) (p (ρ b)) → kb ∉ fp → (∀ i, i < j → ρ b ≤ ρ i) → (∀ b o, hb.get? b = some o → s.heap.get? b = some o) →
    (∀ b s', b < n → (∀ i, i < n → ρ b ≤ ρ i) → Rest s s' → Ext (S :: wr) s.heap s'.heap → R (.ok (.ret (ev b))) s') →
    codeAny (MM w) A (.builtin "min.loop" ⟨[.ref I, .ref q, .ref S], [("default", d)]⟩) R s := by
  have hSw : S ∉ wr := fun h => hSf (W.sub _ h)
  have hname : (toString "min" ++ toString ".loop" : String) = "min.loop" := by decide
  intro k
  induction k with
  | zero =>
    intro j s b kb c hk hj hbj hst hS hkb hkf hbest hsb hR
    have hin : j = n := by omega
    subst hin
    refine codeAny_builtin PySem.F.entry_min_loop ?_
    rw [Around.under_plainId PySem.F.plain_min_loop _]
    show wpAny _ A.in1 (seqItems? (.ref S) >>= _) _ _ s
    refine wpAny_bind (wpAny_seqItems hS rfl ?_)
    show wpAny _ A.in1 (tryCatch (pyNext (.ref I)) _ >>= _) _ _ s
    refine wpAny_bind (wpAny_tryCatch (W.done s _ _ hst fun h' tk hk' => ?_))
    have hS' := hk' S _ hSw hS
    show wpAny _ A.in1 (updateSeq S (fun _ => #[]) >>= _) _ _ _
    refine wpAny_bind ?_
    refine wpAny_updateSeq hS' rfl (wpAny_bind (wpAny_letGo (wpAny_pure ?_)))
    exact hR b _ hbj hbest .heap fun a o ha e => (Heap.get?_update_other _ _ (fun h => ha (by simp [h]))).trans (hk' a o (fun h => ha (.tail _ h)) e)
  | succ k ih =>
    intro j s b kb c hk hj hbj hst hS hkb hkf hbest hsb hR
    have hlt : j < n := by omega
    refine codeAny_builtin PySem.F.entry_min_loop ?_
    rw [Around.under_plainId PySem.F.plain_min_loop _]
    show wpAny _ A.in1 (seqItems? (.ref S) >>= _) _ _ s
    refine wpAny_bind (wpAny_seqItems hS rfl ?_)
    show wpAny _ A.in1 (tryCatch (pyNext (.ref I)) _ >>= _) _ _ s
    refine wpAny_bind (wpAny_tryCatch (W.item j s _ _ hlt hst fun v h' tk hv hst' hk' => ?_))
    obtain rfl := hP j v hv
    have hS' := hk' S _ hSw hS
    have hsb' : ∀ b o, hb.get? b = some o → h'.get? b = some o := fun a o e => hk' a o (fun h => by rw [hwb a h] at e; cases e) (hsb a o e)
    have hkb' : KeyAt h' kb (is (ρ b)) (p (ρ b)) := let ⟨vs, e, q⟩ := hkb; ⟨vs, hk' kb _ (fun h => hkf (W.sub _ h)) e, q⟩
    show wpAny _ A.in1 (tryCatch (holding [ev j] (call (.ref q) [ev j])) _ >>= _) _ _ _
    refine wpAny_bind (wpAny_tryCatch (wpAny_holding (hkey j hlt _ _ _ _ hsb' hroom fun k₂ s₂ r₂ x₂ n₂ hk₂ => ?_)))
    have hS₂ := x₂.nil _ _ hS'
    have hst₂ := W.frame _ _ _ hst' fun a _ o e => x₂.nil a o e
    have hkb₂ := hkb'.keeps x₂.nil
    have hkf₂ : k₂ ∉ fp := fun h => by
      obtain ⟨o, e⟩ := hal _ _ hst' _ h
      have n₂ : h'.get? k₂ = none := n₂
      rw [n₂] at e; cases e
    have hne : S ≠ kb := fun e => by
      obtain ⟨vs, e1, _⟩ := hkb
      rw [← e, hS] at e1
      injection e1 with e1; injection e1 with e1; simp at e1
    have hne₂ : S ≠ k₂ := fun e => by
      obtain ⟨vs, e1, _⟩ := hk₂
      rw [← e, hS₂] at e1
      injection e1 with e1; injection e1 with e1; simp at e1
    show wpAny _ A.in1 (tryCatch (holding [ev j, .ref k₂] (richCompare .Lt (.ref k₂) (.ref kb) >>= _)) _ >>= _) _ _ _
    refine wpAny_bind (wpAny_tryCatch (wpAny_holding (wpAny_bind (KeyAt.lt (A := A.in1) hk₂ hkb₂ (KK.len _ _ (hρ j hlt) (hρ b (by omega))) (by simp; omega) _ _ _ _ ?_))))
    rw [KK.lt _ _ (hρ j hlt) (hρ b (by omega))]
    refine wpAny_bind (wpAny_holding (wpAny_truthy_bool ?_))
    refine wpAny_bind (wpAny_letGo (wpAny_pure ?_))
    have back : ∀ {s₃ s' : Shared}, Rest s₂ s₃ → Ext [S] s₂.heap s₃.heap → Rest s₃ s' → Ext (S :: wr) s₃.heap s'.heap → Rest s s' ∧ Ext (S :: wr) s.heap s'.heap := fun r₃ x₃ r x =>
      ⟨((Rest.trans .heap r₂).trans r₃).trans r, fun a o ha e => x a o ha (x₃ a o (fun h => ha (by rw [List.mem_singleton.mp h]; exact .head _)) (x₂.nil a o (hk' a o (fun h => ha (.tail _ h)) e)))⟩
    by_cases hb' : ρ j < ρ b
    · rw [show ltN (ρ j) (ρ b) = true from decide_eq_true hb']
      simp only [if_true]
      refine wpAny_bind ?_
      refine wpAny_updateSeq hS₂ rfl (wpAny_bind (wpAny_letGo ?_))
      rw [hname]
      have sb := Heap.SameBut.update s₂.heap S (Obj.mapSeq fun _ => #[ev j, .ref k₂])
      have up : ∀ a o, a ≠ S → s₂.heap.get? a = some o → (s₂.heap.update S (Obj.mapSeq fun _ => #[ev j, .ref k₂])).get? a = some o := fun a o ha e => (sb.2 a ha).trans e
      refine wpAny_pure ⟨plainId_quiet PySem.F.plain_min_loop _, ih (j + 1) _ j k₂ _ (by omega) hlt (Nat.lt_succ_self _) (W.frame _ _ _ hst₂ fun a ha o e => up a o (fun h => hSf (h ▸ ha)) e) (get?_update_seq hS₂ fun _ => #[ev j, .ref k₂])
        (let ⟨vs, e, q⟩ := hk₂; ⟨vs, up _ _ (Ne.symm hne₂) e, q⟩) hkf₂ (fun i hi => ?_) (fun a o e => up a o (by rintro rfl; rw [hSb] at e; cases e) (x₂.nil a o (hsb' a o e))) fun b' s' hb'' hbest' r x => ?_⟩
      · rcases Nat.lt_or_ge i j with h | h
        · have := hbest i h; omega
        · have : i = j := by omega
          rw [this]; exact Nat.le_refl _
      · obtain ⟨r', x'⟩ := back (s₃ := { s₂ with heap := s₂.heap.update S (Obj.mapSeq fun _ => #[ev j, .ref k₂]) }) .heap (fun a o ha e => up a o (by simpa using ha) e) r x
        exact hR b' s' hb'' hbest' r' x'
    · rw [show ltN (ρ j) (ρ b) = false from decide_eq_false hb']
      simp only [Bool.false_eq_true, if_false]
      refine wpAny_bind (wpAny_letGo ?_)
      rw [hname]
      refine wpAny_pure ⟨plainId_quiet PySem.F.plain_min_loop _, ih (j + 1) _ b kb c (by omega) hlt (by omega) hst₂ hS₂ hkb₂ hkf (fun i hi => ?_) (fun a o e => x₂.nil a o (hsb' a o e)) fun b' s' hb'' hbest' r x => ?_⟩
      · rcases Nat.lt_or_ge i j with h | h
        · exact hbest i h
        · have : i = j := by omega
          rw [this]; omega
      · obtain ⟨r', x'⟩ := back (s₃ := s₂) (.refl _) (.refl _ _) r x
        exact hR b' s' hb'' hbest' r' x'

/-- «min(it, default=d, key=q)» -/
theorem call_min (W : Walks PR w A.in1 I fp wr n P St) (hal : ∀ i h, St i h → ∀ b ∈ fp, ∃ o, h.get? b = some o) (hP : ∀ i v, P i v → v = ev i) (KK : Keys nk is p) (hρ : ∀ i, i < n → ρ i < nk) (hkey : ∀ i, i < n → KeySpec w q hb (ev i) (is (ρ i)) (p (ρ i)))
    (hwb : ∀ b ∈ wr, hb.get? b = none) (hroom : A.depth < recursionLimit) (hu : A.units + 4 < cLine) {s : Shared} {Q E : Value → Shared → Prop} (hn : 0 < n) (hst : St 0 s.heap) (hsb : ∀ b o, hb.get? b = some o → s.heap.get? b = some o)
    (hQ : ∀ b s', b < n → (∀ i, i < n → ρ b ≤ ρ i) → Rest s s' → Ext wr s.heap s'.heap → Q (ev b) s') :
    wpAny (MM w) A (call (.builtin "min") [.ref I] [("default", d), ("key", .ref q)]) Q E s := by
  have hname : (toString "min" ++ toString ".loop" : String) = "min.loop" := by decide
  refine kmk_tree PySem.F.kind_min PySem.F.plain_min PySem.F.entry_min (args_min_dk _ _ _) ?_
  show wpAny _ A.in1 (Builtin.Builtins.bindParams "min" ["key", "default"] 0 ⟨[], [("default", d), ("key", .ref q)]⟩ >>= _) _ _ s
  refine wpAny_bind (wpAny_of_eq (show Builtin.Builtins.bindParams "min" ["key", "default"] 0 ⟨[], [("default", d), ("key", .ref q)]⟩ = pure [some (.ref q), some d] from rfl) ?_)
  refine wpAny_bind (wpAny_pure ?_)
  refine wpAny_bind (W.self 0 s _ _ hst ?_)
  refine wpAny_bind (wpAny_newList ?_ (Nat.zero_le _))
  rw [hname]
  have hS0 : s.heap.get? s.heap.objs.size = none := Heap.get?_none_of_le (Nat.le_refl _)
  have hSf : s.heap.objs.size ∉ fp := fun h => by obtain ⟨o, e⟩ := hal _ _ hst _ h; rw [hS0] at e; cases e
  have hSb : hb.get? s.heap.objs.size = none := by
    cases e : hb.get? s.heap.objs.size with
    | none => rfl
    | some o => rw [hsb _ _ e] at hS0; cases hS0
  have hSw : s.heap.objs.size ∉ wr := fun h => hSf (W.sub _ h)
  refine wpAny_pure ⟨plainId_quiet PySem.F.plain_min_loop _, ?_⟩
  refine codeAny_builtin PySem.F.entry_min_loop ?_
  rw [Around.under_plainId PySem.F.plain_min_loop _]
  show wpAny _ A.in1 (seqItems? (.ref s.heap.objs.size) >>= _) _ _ _
  refine wpAny_bind (wpAny_seqItems (Heap.get?_push_size _ rfl) rfl ?_)
  show wpAny _ A.in1 (tryCatch (pyNext (.ref I)) _ >>= _) _ _ _
  refine wpAny_bind (wpAny_tryCatch (W.item 0 _ _ _ hn (W.frame _ _ _ hst fun a _ o e => Heap.get?_push_of_some _ e) fun v h' tk hv hst' hk' => ?_))
  obtain rfl := hP 0 v hv
  have hS' := hk' s.heap.objs.size _ hSw (Heap.get?_push_size _ rfl)
  have hsb' : ∀ b o, hb.get? b = some o → h'.get? b = some o := fun a o e => hk' a o (fun h => by rw [hwb a h] at e; cases e) (Heap.get?_push_of_some _ (hsb a o e))
  show wpAny _ A.in1 (tryCatch (holding [ev 0] (call (.ref q) [ev 0])) _ >>= _) _ _ _
  refine wpAny_bind (wpAny_tryCatch (wpAny_holding (hkey 0 hn _ _ _ _ hsb' hroom fun k₂ s₂ r₂ x₂ n₂ hk₂ => ?_)))
  have hS₂ := x₂.nil _ _ hS'
  have hst₂ := W.frame _ _ _ hst' fun a _ o e => x₂.nil a o e
  have hkf₂ : k₂ ∉ fp := fun h => by
    obtain ⟨o, e⟩ := hal _ _ hst' _ h
    have n₂ : h'.get? k₂ = none := n₂
    rw [n₂] at e; cases e
  have hne₂ : s.heap.objs.size ≠ k₂ := fun e => by
    obtain ⟨vs, e1, _⟩ := hk₂
    rw [← e, hS₂] at e1
    injection e1 with e1; injection e1 with e1; simp at e1
  show wpAny _ A.in1 (updateSeq s.heap.objs.size (fun _ => #[ev 0, .ref k₂]) >>= _) _ _ _
  refine wpAny_bind ?_
  refine wpAny_updateSeq hS₂ rfl ?_
  rw [hname]
  have sb := Heap.SameBut.update s₂.heap s.heap.objs.size (Obj.mapSeq fun _ => #[ev 0, .ref k₂])
  have up : ∀ a o, a ≠ s.heap.objs.size → s₂.heap.get? a = some o → (s₂.heap.update s.heap.objs.size (Obj.mapSeq fun _ => #[ev 0, .ref k₂])).get? a = some o := fun a o ha e => (sb.2 a ha).trans e
  refine wpAny_pure ⟨plainId_quiet PySem.F.plain_min_loop _, min_loop W hal hP KK hρ hkey hSf hSb hwb hroom hu _ 1 _ 0 k₂ _ rfl hn (Nat.lt_succ_self _) (W.frame _ _ _ hst₂ fun a ha o e => up a o (fun h => hSf (h ▸ ha)) e) (get?_update_seq hS₂ fun _ => #[ev 0, .ref k₂])
    (let ⟨vs, e, q⟩ := hk₂; ⟨vs, up _ _ (Ne.symm hne₂) e, q⟩) hkf₂ (fun i hi => ?_) (fun a o e => up a o (by rintro rfl; rw [hSb] at e; cases e) (x₂.nil a o (hsb' a o e))) fun b' s' hb'' hbest' r x => hQ b' s' hb'' hbest' ?_ ?_⟩
  · have : i = 0 := by omega
    rw [this]; exact Nat.le_refl _
  · exact ((Rest.trans .heap r₂).trans .heap).trans r
  · exact fun a o ha e => x a o (by simp only [List.mem_cons, not_or]; exact ⟨fun h => (by rw [h, hS0] at e; cases e), ha⟩) (up a o (fun h => by rw [h, hS0] at e; cases e) (x₂.nil a o (hk' a o ha (Heap.get?_push_of_some _ e))))

theorem max_loop (W : Walks PR w A.in1 I fp wr n P St) (hal : ∀ i h, St i h → ∀ b ∈ fp, ∃ o, h.get? b = some o) (hP : ∀ i v, P i v → v = ev i) (KK : Keys nk is p) (hρ : ∀ i, i < n → ρ i < nk) (hkey : ∀ i, i < n → KeySpec w q hb (ev i) (is (ρ i)) (p (ρ i)))
    (hSf : S ∉ fp) (hSb : hb.get? S = none) (hwb : ∀ b ∈ wr, hb.get? b = none) (hroom : A.depth < recursionLimit) (hu : A.units + 4 < cLine) :
    ∀ (k j : Nat) (s : Shared) (b kb c : Nat), n - j = k → j ≤ n → b < j → St j s.heap → s.heap.get? S = some (listOf #[ev b, .ref kb] c) → KeyAt s.heap kb (is (ρ b)) (p (ρ b)) → kb ∉ fp → (∀ i, i < j → ρ i ≤ ρ b) → (∀ b o, hb.get? b = some o → s.heap.get? b = some o) →
    (∀ b s', b < n → (∀ i, i < n → ρ i ≤ ρ b) → Rest s s' → Ext (S :: wr) s.heap s'.heap → R (.ok (.ret (ev b))) s') →
    codeAny (MM w) A (.builtin "max.loop" ⟨[.ref I, .ref q, .ref S], [("default", d)]⟩) R s := by
  have hSw : S ∉ wr := fun h => hSf (W.sub _ h)
  have hname : (toString "max" ++ toString ".loop" : String) = "max.loop" := by decide
  intro k
  induction k with
  | zero =>
    intro j s b kb c hk hj hbj hst hS hkb hkf hbest hsb hR
    have hin : j = n := by omega
    subst hin
    refine codeAny_builtin PySem.F.entry_max_loop ?_
    rw [Around.under_plainId PySem.F.plain_max_loop _]
    show wpAny _ A.in1 (seqItems? (.ref S) >>= _) _ _ s
    refine wpAny_bind (wpAny_seqItems hS rfl ?_)
    show wpAny _ A.in1 (tryCatch (pyNext (.ref I)) _ >>= _) _ _ s
    refine wpAny_bind (wpAny_tryCatch (W.done s _ _ hst fun h' tk hk' => ?_))
    have hS' := hk' S _ hSw hS
    show wpAny _ A.in1 (updateSeq S (fun _ => #[]) >>= _) _ _ _
    refine wpAny_bind ?_
    refine wpAny_updateSeq hS' rfl (wpAny_bind (wpAny_letGo (wpAny_pure ?_)))
    exact hR b _ hbj hbest .heap fun a o ha e => (Heap.get?_update_other _ _ (fun h => ha (by simp [h]))).trans (hk' a o (fun h => ha (.tail _ h)) e)
  | succ k ih =>
    intro j s b kb c hk hj hbj hst hS hkb hkf hbest hsb hR
    have hlt : j < n := by omega
    refine codeAny_builtin PySem.F.entry_max_loop ?_
    rw [Around.under_plainId PySem.F.plain_max_loop _]
    show wpAny _ A.in1 (seqItems? (.ref S) >>= _) _ _ s
    refine wpAny_bind (wpAny_seqItems hS rfl ?_)
    show wpAny _ A.in1 (tryCatch (pyNext (.ref I)) _ >>= _) _ _ s
    refine wpAny_bind (wpAny_tryCatch (W.item j s _ _ hlt hst fun v h' tk hv hst' hk' => ?_))
    obtain rfl := hP j v hv
    have hS' := hk' S _ hSw hS
    have hsb' : ∀ b o, hb.get? b = some o → h'.get? b = some o := fun a o e => hk' a o (fun h => by rw [hwb a h] at e; cases e) (hsb a o e)
    have hkb' : KeyAt h' kb (is (ρ b)) (p (ρ b)) := let ⟨vs, e, q⟩ := hkb; ⟨vs, hk' kb _ (fun h => hkf (W.sub _ h)) e, q⟩
    show wpAny _ A.in1 (tryCatch (holding [ev j] (call (.ref q) [ev j])) _ >>= _) _ _ _
    refine wpAny_bind (wpAny_tryCatch (wpAny_holding (hkey j hlt _ _ _ _ hsb' hroom fun k₂ s₂ r₂ x₂ n₂ hk₂ => ?_)))
    have hS₂ := x₂.nil _ _ hS'
    have hst₂ := W.frame _ _ _ hst' fun a _ o e => x₂.nil a o e
    have hkb₂ := hkb'.keeps x₂.nil
    have hkf₂ : k₂ ∉ fp := fun h => by
      obtain ⟨o, e⟩ := hal _ _ hst' _ h
      have n₂ : h'.get? k₂ = none := n₂
      rw [n₂] at e; cases e
    have hne : S ≠ kb := fun e => by
      obtain ⟨vs, e1, _⟩ := hkb
      rw [← e, hS] at e1
      injection e1 with e1; injection e1 with e1; simp at e1
    have hne₂ : S ≠ k₂ := fun e => by
      obtain ⟨vs, e1, _⟩ := hk₂
      rw [← e, hS₂] at e1
      injection e1 with e1; injection e1 with e1; simp at e1
    show wpAny _ A.in1 (tryCatch (holding [ev j, .ref k₂] (richCompare .Gt (.ref k₂) (.ref kb) >>= _)) _ >>= _) _ _ _
    refine wpAny_bind (wpAny_tryCatch (wpAny_holding (wpAny_bind (KeyAt.gt (A := A.in1) hk₂ hkb₂ (KK.len _ _ (hρ j hlt) (hρ b (by omega))) (by simp; omega) _ _ _ _ ?_))))
    rw [KK.lt _ _ (hρ b (by omega)) (hρ j hlt)]
    refine wpAny_bind (wpAny_holding (wpAny_truthy_bool ?_))
    refine wpAny_bind (wpAny_letGo (wpAny_pure ?_))
    have back : ∀ {s₃ s' : Shared}, Rest s₂ s₃ → Ext [S] s₂.heap s₃.heap → Rest s₃ s' → Ext (S :: wr) s₃.heap s'.heap → Rest s s' ∧ Ext (S :: wr) s.heap s'.heap := fun r₃ x₃ r x =>
      ⟨((Rest.trans .heap r₂).trans r₃).trans r, fun a o ha e => x a o ha (x₃ a o (fun h => ha (by rw [List.mem_singleton.mp h]; exact .head _)) (x₂.nil a o (hk' a o (fun h => ha (.tail _ h)) e)))⟩
    by_cases hb' : ρ b < ρ j
    · rw [show ltN (ρ b) (ρ j) = true from decide_eq_true hb']
      simp only [if_true]
      refine wpAny_bind ?_
      refine wpAny_updateSeq hS₂ rfl (wpAny_bind (wpAny_letGo ?_))
      rw [hname]
      have sb := Heap.SameBut.update s₂.heap S (Obj.mapSeq fun _ => #[ev j, .ref k₂])
      have up : ∀ a o, a ≠ S → s₂.heap.get? a = some o → (s₂.heap.update S (Obj.mapSeq fun _ => #[ev j, .ref k₂])).get? a = some o := fun a o ha e => (sb.2 a ha).trans e
      refine wpAny_pure ⟨plainId_quiet PySem.F.plain_max_loop _, ih (j + 1) _ j k₂ _ (by omega) hlt (Nat.lt_succ_self _) (W.frame _ _ _ hst₂ fun a ha o e => up a o (fun h => hSf (h ▸ ha)) e) (get?_update_seq hS₂ fun _ => #[ev j, .ref k₂])
        (let ⟨vs, e, q⟩ := hk₂; ⟨vs, up _ _ (Ne.symm hne₂) e, q⟩) hkf₂ (fun i hi => ?_) (fun a o e => up a o (by rintro rfl; rw [hSb] at e; cases e) (x₂.nil a o (hsb' a o e))) fun b' s' hb'' hbest' r x => ?_⟩
      · rcases Nat.lt_or_ge i j with h | h
        · have := hbest i h; omega
        · have : i = j := by omega
          rw [this]; exact Nat.le_refl _
      · obtain ⟨r', x'⟩ := back (s₃ := { s₂ with heap := s₂.heap.update S (Obj.mapSeq fun _ => #[ev j, .ref k₂]) }) .heap (fun a o ha e => up a o (by simpa using ha) e) r x
        exact hR b' s' hb'' hbest' r' x'
    · rw [show ltN (ρ b) (ρ j) = false from decide_eq_false hb']
      simp only [Bool.false_eq_true, if_false]
      refine wpAny_bind (wpAny_letGo ?_)
      rw [hname]
      refine wpAny_pure ⟨plainId_quiet PySem.F.plain_max_loop _, ih (j + 1) _ b kb c (by omega) hlt (by omega) hst₂ hS₂ hkb₂ hkf (fun i hi => ?_) (fun a o e => x₂.nil a o (hsb' a o e)) fun b' s' hb'' hbest' r x => ?_⟩
      · rcases Nat.lt_or_ge i j with h | h
        · exact hbest i h
        · have : i = j := by omega
          rw [this]; omega
      · obtain ⟨r', x'⟩ := back (s₃ := s₂) (.refl _) (.refl _ _) r x
        exact hR b' s' hb'' hbest' r' x'

/-- «max(it, default=d, key=q)» -/
theorem call_max (W : Walks PR w A.in1 I fp wr n P St) (hal : ∀ i h, St i h → ∀ b ∈ fp, ∃ o, h.get? b = some o) (hP : ∀ i v, P i v → v = ev i) (KK : Keys nk is p) (hρ : ∀ i, i < n → ρ i < nk) (hkey : ∀ i, i < n → KeySpec w q hb (ev i) (is (ρ i)) (p (ρ i)))
    (hwb : ∀ b ∈ wr, hb.get? b = none) (hroom : A.depth < recursionLimit) (hu : A.units + 4 < cLine) {s : Shared} {Q E : Value → Shared → Prop} (hn : 0 < n) (hst : St 0 s.heap) (hsb : ∀ b o, hb.get? b = some o → s.heap.get? b = some o)
    (hQ : ∀ b s', b < n → (∀ i, i < n → ρ i ≤ ρ b) → Rest s s' → Ext wr s.heap s'.heap → Q (ev b) s') :
    wpAny (MM w) A (call (.builtin "max") [.ref I] [("default", d), ("key", .ref q)]) Q E s := by
  have hname : (toString "max" ++ toString ".loop" : String) = "max.loop" := by decide
  refine kmk_tree PySem.F.kind_max PySem.F.plain_max PySem.F.entry_max (args_max_dk _ _ _) ?_
  show wpAny _ A.in1 (Builtin.Builtins.bindParams "max" ["key", "default"] 0 ⟨[], [("default", d), ("key", .ref q)]⟩ >>= _) _ _ s
  refine wpAny_bind (wpAny_of_eq (show Builtin.Builtins.bindParams "max" ["key", "default"] 0 ⟨[], [("default", d), ("key", .ref q)]⟩ = pure [some (.ref q), some d] from rfl) ?_)
  refine wpAny_bind (wpAny_pure ?_)
  refine wpAny_bind (W.self 0 s _ _ hst ?_)
  refine wpAny_bind (wpAny_newList ?_ (Nat.zero_le _))
  rw [hname]
  have hS0 : s.heap.get? s.heap.objs.size = none := Heap.get?_none_of_le (Nat.le_refl _)
  have hSf : s.heap.objs.size ∉ fp := fun h => by obtain ⟨o, e⟩ := hal _ _ hst _ h; rw [hS0] at e; cases e
  have hSb : hb.get? s.heap.objs.size = none := by
    cases e : hb.get? s.heap.objs.size with
    | none => rfl
    | some o => rw [hsb _ _ e] at hS0; cases hS0
  have hSw : s.heap.objs.size ∉ wr := fun h => hSf (W.sub _ h)
  refine wpAny_pure ⟨plainId_quiet PySem.F.plain_max_loop _, ?_⟩
  refine codeAny_builtin PySem.F.entry_max_loop ?_
  rw [Around.under_plainId PySem.F.plain_max_loop _]
  show wpAny _ A.in1 (seqItems? (.ref s.heap.objs.size) >>= _) _ _ _
  refine wpAny_bind (wpAny_seqItems (Heap.get?_push_size _ rfl) rfl ?_)
  show wpAny _ A.in1 (tryCatch (pyNext (.ref I)) _ >>= _) _ _ _
  refine wpAny_bind (wpAny_tryCatch (W.item 0 _ _ _ hn (W.frame _ _ _ hst fun a _ o e => Heap.get?_push_of_some _ e) fun v h' tk hv hst' hk' => ?_))
  obtain rfl := hP 0 v hv
  have hS' := hk' s.heap.objs.size _ hSw (Heap.get?_push_size _ rfl)
  have hsb' : ∀ b o, hb.get? b = some o → h'.get? b = some o := fun a o e => hk' a o (fun h => by rw [hwb a h] at e; cases e) (Heap.get?_push_of_some _ (hsb a o e))
  show wpAny _ A.in1 (tryCatch (holding [ev 0] (call (.ref q) [ev 0])) _ >>= _) _ _ _
  refine wpAny_bind (wpAny_tryCatch (wpAny_holding (hkey 0 hn _ _ _ _ hsb' hroom fun k₂ s₂ r₂ x₂ n₂ hk₂ => ?_)))
  have hS₂ := x₂.nil _ _ hS'
  have hst₂ := W.frame _ _ _ hst' fun a _ o e => x₂.nil a o e
  have hkf₂ : k₂ ∉ fp := fun h => by
    obtain ⟨o, e⟩ := hal _ _ hst' _ h
    have n₂ : h'.get? k₂ = none := n₂
    rw [n₂] at e; cases e
  have hne₂ : s.heap.objs.size ≠ k₂ := fun e => by
    obtain ⟨vs, e1, _⟩ := hk₂
    rw [← e, hS₂] at e1
    injection e1 with e1; injection e1 with e1; simp at e1
  show wpAny _ A.in1 (updateSeq s.heap.objs.size (fun _ => #[ev 0, .ref k₂]) >>= _) _ _ _
  refine wpAny_bind ?_
  refine wpAny_updateSeq hS₂ rfl ?_
  rw [hname]
  have sb := Heap.SameBut.update s₂.heap s.heap.objs.size (Obj.mapSeq fun _ => #[ev 0, .ref k₂])
  have up : ∀ a o, a ≠ s.heap.objs.size → s₂.heap.get? a = some o → (s₂.heap.update s.heap.objs.size (Obj.mapSeq fun _ => #[ev 0, .ref k₂])).get? a = some o := fun a o ha e => (sb.2 a ha).trans e
  refine wpAny_pure ⟨plainId_quiet PySem.F.plain_max_loop _, max_loop W hal hP KK hρ hkey hSf hSb hwb hroom hu _ 1 _ 0 k₂ _ rfl hn (Nat.lt_succ_self _) (W.frame _ _ _ hst₂ fun a ha o e => up a o (fun h => hSf (h ▸ ha)) e) (get?_update_seq hS₂ fun _ => #[ev 0, .ref k₂])
    (let ⟨vs, e, q⟩ := hk₂; ⟨vs, up _ _ (Ne.symm hne₂) e, q⟩) hkf₂ (fun i hi => ?_) (fun a o e => up a o (by rintro rfl; rw [hSb] at e; cases e) (x₂.nil a o (hsb' a o e))) fun b' s' hb'' hbest' r x => hQ b' s' hb'' hbest' ?_ ?_⟩
  · have : i = 0 := by omega
    rw [this]; exact Nat.le_refl _
  · exact ((Rest.trans .heap r₂).trans .heap).trans r
  · exact fun a o ha e => x a o (by simp only [List.mem_cons, not_or]; exact ⟨fun h => (by rw [h, hS0] at e; cases e), ha⟩) (up a o (fun h => by rw [h, hS0] at e; cases e) (x₂.nil a o (hk' a o ha (Heap.get?_push_of_some _ e))))

end
end Mine

end
section
open PySem PySem.W PySem.Calls PyProof.Rows PySem.SeqAt
namespace Mine

section
variable {w : World} {A : Around} {E : Value → Shared → Prop} {s : Shared}
  {name qual : Str} {params : Arguments} {body : List Stmt} {scope : Scope} {dV kV doc pm cdv ct oc : Value} {an od : Option Addr} {osl : Array (Option Value)} {f : Addr} {pos : List Value} {kw : List (Str × Value)} {binds : List (Str × Value)} {Q : Value → Shared → Prop}

/-- a call of a def that keeps some of its names in cells -/
theorem callFC {h₀ : Heap} (G : Gd w h₀) (hk₀ : ∀ b o, h₀.get? b = some o → s.heap.get? b = some o) (mu : List (Addr × Obj)) (hm : ∀ p ∈ mu, s.heap.get? p.1 = some p.2 ∧ h₀.get? p.1 = none)
    (ho : (K w.params).lookup f = some ⟨oc, od, .func (fnOf name qual params body scope dV kV doc pm an cdv ct), osl⟩) (hcd : codeIn (K w.params) cdv qual = true) (hroom : A.depth < recursionLimit)
    (hbind : BindsTo s (fnOf name qual params body scope dV kV doc pm an cdv ct) ⟨pos, kw⟩ binds)
    (hkind : ∀ n, ∀ x ∈ binds, scope.names.lookup x.1 = some .local ∨ (scope.names.lookup x.1 = some .cell ∧ ((cellsFrom n scope.names []).lookup x.1).isSome = true))
    (h : ∀ h₁ L s₁ (A' : Around) (E' : Value → Shared → Prop) (Q' : Flow → Shared → Prop), A'.handled = A.handled → A'.units = A.units + 3 → A'.depth = A.depth + 1 → A'.frames = A.frames.map (envOfC qual scope L f cdv :: ·) →
      (∀ v s', Q v s' → Q' (.ret v) s') → (∀ s', Q .none s' → Q' .next s') →
      Gd w h₁ → (∀ b o, h₀.get? b = some o → h₁.get? b = some o) → Ext (mu.map (·.1)) s.heap h₁ → Fm h₁ L s mu (bindL (envOfC qual scope L f cdv).kindOf binds fun _ => none) s₁ →
      (∀ n c, (cellsFrom (L + 1) scope.names []).lookup n = some c → h₁.IsCell c (bindC (envOfC qual scope L f cdv).kindOf binds (fun _ => none) n)) →
      wpAny (MM w) A' (execs body (envOfC qual scope L f cdv)) Q' E' s₁)
    (hco : scope.isCoroutine = false := by rfl) (hgen : scope.isGenerator = false := by rfl) (hk : scope.kind = .function := by rfl) :
    wpAny (MM w) A (call (.ref f) pos kw) Q E s := by
  have X := G.X.keeps hk₀
  have hn : ∀ b o, h₀.get? b = some o → b ∉ mu.map (·.1) := fun b o e q => by
    obtain ⟨p, hp, rfl⟩ := List.mem_map.mp q
    rw [(hm p hp).2] at e; cases e
  refine wpAny_call (codeAny_call_function (fd := fnOf name qual params body scope dV kV doc pm an cdv ct) (body := body) hroom (X _ _ ho) rfl hco hgen rfl (codeRec_of X hcd) (hbind _ _ _ _ ?_))
  refine wpAny_newFunctionEnv_cells hk (hkind _) fun env he s₁ x => ?_
  subst he
  refine ⟨(G.lim.keeps hk₀).keeps x.toInCall.keep, codeAny_func ?_⟩
  obtain ⟨h₂, tk, e2⟩ := x.toInCall.same
  have hk₂ : ∀ b o, s.heap.get? b = some o → s₁.heap.get? b = some o := x.toInCall.keep
  have hL0 : s.heap.get? s.heap.objs.size = none := Heap.get?_none_of_le (Nat.le_refl _)
  have hne : ∀ b o, s.heap.get? b = some o → b ≠ s.heap.objs.size := fun b o e => Nat.ne_of_lt (Heap.lt_size e)
  have st : ∀ b o, h₀.get? b = some o → (hideAll s₁.heap (s.heap.objs.size :: mu.map (·.1))).get? b = some o := fun b o e => hideAll_get _ (hk₂ b o (hk₀ b o e)) (fun q => by
    rcases List.mem_cons.mp q with q | q
    · exact hne _ _ (hk₀ b o e) q
    · exact hn b o e q)
  refine h (hideAll s₁.heap (s.heap.objs.size :: mu.map (·.1))) s.heap.objs.size s₁ (A.deeper (envOfC qual scope s.heap.objs.size f cdv)) _ (fun fl s' => Q (match fl with | .ret v => v | _ => .none) s') rfl rfl rfl rfl (fun _ _ q => q) (fun _ q => q)
    (G.keeps st) st (fun b o n e => hideAll_get _ (hk₂ b o e) (fun q => by
      rcases List.mem_cons.mp q with q | q
      · exact hne _ _ e q
      · exact n q))
    ⟨x.toInCall.ns, fun b o e => of_hideAll _ e, hideAll_none _ (.head _), fun p hp => ⟨hk₂ _ _ (hm p hp).1, hne _ _ (hm p hp).1, hideAll_none _ (.tail _ (List.mem_map_of_mem hp))⟩, ?_⟩ ?_
  · rw [e2]; exact .heap
  · intro n c e
    obtain ⟨o, q1, q2⟩ := x.cell n c e
    have ab : s.heap.objs.size < c := x.above n c (mem_of_lookup e)
    refine ⟨o, hideAll_get _ q1 (fun q => ?_), q2⟩
    rcases List.mem_cons.mp q with q | q
    · exact absurd q (Nat.ne_of_gt ab)
    · obtain ⟨p, hp, rfl⟩ := List.mem_map.mp q
      exact absurd (Heap.lt_size (hm p hp).1) (Nat.not_lt.mpr (Nat.le_of_lt ab))
end

section
variable {w : World} {A : Around} {env : Env} {h : Heap} {x : Str} {pos : Pos} {c : Addr} {v : Value}
theorem EvV.cell (hv : h.IsCell c (some v)) (hc : env.cells.lookup x = some c := by rfl) (hk : env.scope.kind = .function := by rfl) (hl : env.kindOf x = some .cell := by rfl) (hd : (x == ("__debug__" : Str)) = false := by decide) :
    EvV w A env h (.Name x pos) v := fun s Q E hs k => by
  subst hs
  exact wpAny_Name (wpAny_loadName_cell hk hl hc hv (k _ _ rfl rfl (.refl _))) hd
end

/-- what a comprehension goes over -/
structure Trn (w : World) (A : Around) (target : Expr) (I : Addr) (fp wr : List Addr) (n : Nat) (P Md : Nat → Value → Heap → Prop) (St : Nat → Heap → Prop) (Fn : Heap → Prop) : Prop where
  sub : ∀ b ∈ wr, b ∈ fp
  frame : ∀ i h h', St i h → (∀ b ∈ fp, ∀ o, h.get? b = some o → h'.get? b = some o) → St i h'
  frameF : ∀ h h', Fn h → (∀ b ∈ fp, ∀ o, h.get? b = some o → h'.get? b = some o) → Fn h'
  item : ∀ i (s : Shared) (Q : Option Value → Shared → Prop) (E : Value → Shared → Prop), i < n → St i s.heap →
    (∀ v h' tk, Md i v h' → (∀ b o, b ∉ wr → s.heap.get? b = some o → h'.get? b = some o) → Q (some v) { s with heap := h', toks := tk }) → wpAny (MM w) A (pyNext (.ref I)) Q E s
  go : ∀ i v (s : Shared) (Q : Unit → Shared → Prop) (E : Value → Shared → Prop), Md i v s.heap →
    (∀ h', P i v h' → St (i + 1) h' → (∀ b o, b ∉ wr → s.heap.get? b = some o → h'.get? b = some o) → Q () { s with heap := h' }) → wpAny (MM w) A (letOwnedTupleGo target (.ref I) v) Q E s
  done : ∀ (s : Shared) (Q : Option Value → Shared → Prop) (E : Value → Shared → Prop), St n s.heap →
    (∀ h' tk, Fn h' → (∀ b o, b ∉ wr → s.heap.get? b = some o → h'.get? b = some o) → Q none { s with heap := h', toks := tk }) → wpAny (MM w) A (pyNext (.ref I)) Q E s
  self : ∀ i (s : Shared) (Q : Value → Shared → Prop) (E : Value → Shared → Prop), St i s.heap → Q (.ref I) s → wpAny (MM w) A (pyIter (.ref I)) Q E s
  alive : ∀ i h, St i h → ∀ b ∈ fp, ∃ o, h.get? b = some o
theorem Trn.ofWalks {w : World} {A : Around} {x : Str} {px : Pos} {I : Addr} {fp wr : List Addr} {n : Nat} {P : Nat → Value → Prop} {St : Nat → Heap → Prop} (W : Walks PR w A I fp wr n P St) (hal : ∀ i h, St i h → ∀ b ∈ fp, ∃ o, h.get? b = some o) :
    Trn w A (.Name x px) I fp wr n (fun i v _ => P i v) (fun i v h => P i v ∧ St (i + 1) h) St (fun _ => True) where
  sub := W.sub
  frame := W.frame
  frameF := fun _ _ _ _ => trivial
  item := fun i s Q E hi st hQ => W.item i s Q E hi st fun v h' tk hP st' hk => hQ v h' tk ⟨hP, st'⟩ hk
  go := fun i v s Q E hm hQ => wpAny_pure (hQ s.heap hm.1 hm.2 fun _ _ _ e => e)
  done := fun s Q E st hQ => W.done s Q E st fun h' tk hk => hQ h' tk trivial hk
  self := W.self
  alive := hal
theorem Trn.ofWalksU {w : World} {A : Around} {elts : List Expr} {k : Nat} {pos : Pos} {I : Addr} {fp wr : List Addr} {n : Nat} {Pt : Nat → Array Value → Prop} {St : Nat → Heap → Prop} {Mid : Nat → Addr → Heap → Prop} (W : WalksU PR w A I fp wr n Pt St Mid) (hal : ∀ i h, St i h → ∀ b ∈ fp, ∃ o, h.get? b = some o) :
    Trn w A (.Tuple elts k pos) I fp wr n (fun i v h => ∃ T vals, v = .ref T ∧ Pt i vals ∧ h.IsTuple T vals) (fun i v h => ∃ T vals, v = .ref T ∧ Pt i vals ∧ h.IsTuple T vals ∧ Mid i T h) St (fun _ => True) where
  sub := W.sub
  frame := W.frame
  frameF := fun _ _ _ _ => trivial
  item := fun i s Q E hi st hQ => W.item i s Q E hi st fun T vals h' tk hP hT hm hk => hQ (.ref T) h' tk ⟨T, vals, rfl, hP, hT, hm⟩ hk
  go := fun i v s Q E hm hQ => by
    obtain ⟨T, vals, rfl, hP, hT, hm⟩ := hm
    exact W.go elts k pos i T s Q E hm fun h' st hk => hQ h' ⟨T, vals, rfl, hP, hT.at fun o e => hk T o (W.apart i T _ hm) e⟩ st hk
  done := fun s Q E st hQ => W.done s Q E st fun h' tk hk => hQ h' tk trivial hk
  self := W.self
  alive := hal

section
variable {w : World} {A : Around} {E : Value → Shared → Prop} {env : Env} {s s₂ : Shared} {elt iter target : Expr} {scope : Scope} {pos : Pos} {cl : List (Str × Addr)} {Q : Value → Shared → Prop} {I : Addr} {fp wr : List Addr} {n : Nat} {P Md : Nat → Value → Heap → Prop} {St : Nat → Heap → Prop} {Fn : Heap → Prop}

/-- the rest of a comprehension, once its iterator stands -/
def CompAt (w : World) (A : Around) (E : Value → Shared → Prop) (env : Env) (elt target iter : Expr) (ifs : List Expr) (scope : Scope) (pos : Pos) (cl : List (Str × Addr)) (Q : Value → Shared → Prop) (it : Value) (s₂ : Shared) : Prop :=
  wpAny (MM w) A (newList []) (fun acc s₃ => wpAny (MM w) A (newFunctionEnv scope env.globals cl [] env.qual none .none (some env)) (fun cenv s₄ =>
    codeAny (MM w) A (.compStart (.ListComp elt [⟨target, iter, ifs, 0⟩] scope pos) 0 it acc { cenv with scope := relabel scope env }) (compPost (MM w) A E none Q acc cenv.locals) s₄) E s₃) E s₂

theorem e_comp {ifs : List Expr} (h : wpAny (MM w) A (eval iter env) (fun xv s₁ => wpAny (MM w) A (pyIter xv) (fun it s₂ => CompAt w A E env elt target iter ifs scope pos cl Q it s₂) E s₁) E s)
    (hclos : closureFor scope env = pure cl) (hkind : scope.kind = .function := by rfl) (hnames : ∀ y ∈ scope.names, y.2 = .local → scope.names.lookup y.1 = some .local := by decide)
    (hs : ∀ x, foldedSetIterable iter env x = pure x := by intro _; rfl) : wpAny (MM w) A (eval (.ListComp elt [⟨target, iter, ifs, 0⟩] scope pos) env) Q E s := by
  rw [eval_ListComp]
  exact wpAny_comprehension_free (use := none) rfl hs hclos hkind hnames h

/-- what one turn leaves -/
def TurnAt (hb hx : Heap) (C : Addr) (s₂ : Shared) (J : List Value → Heap → Prop) (ys : List Value) (s' : Shared) : Prop :=
  ∃ news m', Fm hb C s₂ news m' s' ∧ ∀ hx', (∀ b o, hx.get? b = some o → hx'.get? b = some o) → (∀ p ∈ news, hx'.get? p.1 = some p.2) → J ys hx'

/-- a comprehension's loop, whatever is done with its list -/
theorem comp_core {RR : Value → Addr → Result → Shared → Prop} (W : Trn w A target I fp wr n P Md St Fn) (hst : St 0 s₂.heap) (hsz : n ≤ 1000) (J : Nat → List Value → Heap → Prop) (h0 : ∀ hx, J 0 [] hx)
    (turn : ∀ i v ys C hb hx s m E', i < n → P i v s.heap → J i ys hx → (∀ b o, hx.get? b = some o → hb.get? b = some o) → (∀ b o, b ∉ wr → s₂.heap.get? b = some o → hx.get? b = some o) → Fm hb C s₂ [] m s →
      wpAny (MM w) A (assign target (compEnvC scope cl C env) v) (fun _ s₃ => wpAny (MM w) A (eval elt (compEnvC scope cl C env)) (fun y s₅ => TurnAt hb hx C s₂ (J (i + 1)) (ys ++ [y]) s₅) E' s₃) E' s)
    (done : ∀ D C m ys hx ep s', s₂.heap.get? D = none → s₂.heap.get? C = none → D ≠ C → s'.heap.get? D = some (listOf ys.toArray ep) → s'.heap.Ns C m → J n ys hx → (∀ b o, hx.get? b = some o → s'.heap.get? b = some o) → hx.get? D = none → hx.get? C = none → (∀ b o, b ∉ wr → s₂.heap.get? b = some o → hx.get? b = some o) → Rest s₂ s' → Fn s'.heap → D ∉ fp → C ∉ fp → RR (.ref D) C (.ok .next) s')
    (hlen : ∀ i ys hx, J i ys hx → ys.length ≤ i)
    (hcell : ∀ y ∈ scope.names, y.2 ≠ .cell := by decide) (hkind : scope.kind = .function := by rfl) :
    wpAny (MM w) A (newList []) (fun acc s₃ => wpAny (MM w) A (newFunctionEnv scope env.globals cl [] env.qual none .none (some env)) (fun cenv s₄ =>
      codeAny (MM w) A (.compStart (.ListComp elt [⟨target, iter, [], 0⟩] scope pos) 0 (.ref I) acc { cenv with scope := relabel scope env }) (RR acc cenv.locals) s₄) E s₃) E s₂ := by
  refine wpAny_newObj_type (wpAny_newFunctionEnv hcell (by intro y hy; simp at hy) (fun h₁ hns₁ hsb₁ => ?_) hkind)
  dsimp only at hns₁ hsb₁ ⊢
  generalize hH2 : s₂.heap.push { cls := .type "list", dict := none, data := .seq ([] : List Value).toArray } = H2 at hns₁ hsb₁ ⊢
  have hC : H2.objs.size = s₂.heap.objs.size + 1 := by rw [← hH2, Heap.size_push]
  have hDC : s₂.heap.objs.size ≠ H2.objs.size := by rw [hC]; exact Nat.ne_of_lt (Nat.lt_succ_self _)
  have below : ∀ b, b < s₂.heap.objs.size → b ≠ H2.objs.size ∧ b ≠ s₂.heap.objs.size := fun b hb => ⟨by rw [hC]; exact Nat.ne_of_lt (Nat.lt_succ_of_lt hb), Nat.ne_of_lt hb⟩
  have hfp : ∀ b ∈ fp, b < s₂.heap.objs.size := fun b hb => let ⟨o, e⟩ := W.alive _ _ hst b hb; Heap.lt_size e
  have hDf : s₂.heap.objs.size ∉ fp := fun hm => Nat.lt_irrefl _ (hfp _ hm)
  have hCf : H2.objs.size ∉ fp := fun hm => by have := hfp _ hm; rw [hC] at this; exact Nat.lt_irrefl _ (Nat.lt_of_succ_lt this)
  have old : ∀ b o, s₂.heap.get? b = some o → h₁.get? b = some o := fun b o e => hsb₁.extBut b o (below b (Heap.lt_size e)).1 (Heap.get?_push_of_some _ (hH2 ▸ Heap.get?_push_of_some _ e))
  have hacc : h₁.PlainList s₂.heap.objs.size #[] := ⟨_, hsb₁.extBut _ _ hDC (Heap.get?_push_of_some _ (hH2 ▸ Heap.get?_push_size _ rfl))⟩
  have hst₁ : St 0 h₁ := W.frame _ _ _ hst fun b _ o e => old b o e
  have hD0 : s₂.heap.get? s₂.heap.objs.size = none := Heap.get?_none_of_le (Nat.le_refl _)
  have hC0 : s₂.heap.get? H2.objs.size = none := Heap.get?_none_of_le (by rw [hC]; exact Nat.le_succ _)
  replace below : ∀ b o, s₂.heap.get? b = some o → b ≠ H2.objs.size ∧ b ≠ s₂.heap.objs.size := fun b o e => below b (Heap.lt_size e)
  clear hfp hC hH2
  generalize s₂.heap.objs.size = D at *
  generalize H2.objs.size = C at *
  have hDw : D ∉ wr := fun h => hDf (W.sub _ h)
  have hCw : C ∉ wr := fun h => hCf (W.sub _ h)
  have nw : ∀ b ∉ wr, ∀ o, s₂.heap.get? b = some o → b ∉ C :: D :: wr := fun b hb o e q => by
    rcases List.mem_cons.mp q with q | q
    · exact (below b o e).1 q
    · rcases List.mem_cons.mp q with q | q
      · rw [q, hD0] at e; cases e
      · exact hb q
  have loop : ∀ s₃ : Shared, s₃.heap = h₁ → Rest s₂ s₃ →
      codeAny (MM w) A (.compLoop (.ListComp elt [⟨target, iter, [], 0⟩] scope pos) 0 (.ref I) (.ref D) (compEnvC scope cl C env)) (RR (.ref D) C) s₃ := by
    rintro s₃ e3 r3
    refine kcp_loop (fun k s' => ∃ i ys m, k = n + 1 - i ∧ i ≤ n ∧ St i s'.heap ∧ s'.heap.PlainList D ys.toArray ∧ s'.heap.Ns C m ∧ Rest s₂ s' ∧ J i ys (hideAll s'.heap (C :: D :: wr)) ∧ (∀ b o, b ∉ wr → s₂.heap.get? b = some o → s'.heap.get? b = some o)) ?_ (n + 1)
      ⟨0, [], _, rfl, Nat.zero_le _, e3 ▸ hst₁, e3 ▸ hacc, e3 ▸ hns₁, r3, h0 _, fun b o _ e => e3 ▸ old b o e⟩
    rintro k s' ⟨i, ys, m, rfl, hi, hst', hpl, hn, r, hJ, hk⟩
    by_cases hlt : i < n
    · refine W.item i s' _ _ hlt hst' fun v h₃ tk₃ hmd hk₃ => ?_
      refine W.go i v _ _ _ hmd fun h₄ hP hst₄ hk₄ => ?_
      have up : ∀ b o, b ∉ wr → s'.heap.get? b = some o → h₄.get? b = some o := fun b o hb e => hk₄ b o hb (hk₃ b o hb e)
      have hn₄ : h₄.Ns C m := hn.at' fun o e => up C o hCw e
      have Z : Fm (hideAll h₄ [C]) C s₂ [] m { s' with heap := h₄, toks := tk₃ } := ⟨hn₄, fun b o e => of_hideAll _ e, hideAll_none _ (.head _), fun p hp => (nomatch hp), r.trans .heap⟩
      refine wpAny_mono (turn i v ys C (hideAll h₄ [C]) (hideAll s'.heap (C :: D :: wr)) _ m _ hlt hP hJ (fun b o e => ?_) (fun b o hb e => hideAll_get _ (hk b o hb e) (nw b hb o e)) Z) (fun _ s₅ h₅ => wpAny_mono h₅ (fun y s₆ h₆ => ?_) fun _ _ e => e) fun _ _ e => e
      · have e' := of_hideAll _ e
        have hb : b ∉ C :: D :: wr := fun q => by rw [hideAll_none _ q] at e; cases e
        exact hideAll_get _ (up b o (fun q => hb (.tail _ (.tail _ q))) e') (fun q => hb (by rw [List.mem_singleton.mp q]; exact .head _))
      · obtain ⟨news, m', Z', hJ'⟩ := h₆
        have stay : ∀ b o, b ≠ C → h₄.get? b = some o → s₆.heap.get? b = some o := fun b o hb e => Z'.keep b o (hideAll_get _ e (by simpa using hb))
        have hpl₆ : s₆.heap.PlainList D ys.toArray := hpl.at fun o e => stay D o hDC (up D o hDw e)
        have hys := hlen _ _ _ hJ
        refine wpAny_list_append_plain (hsz := by rw [sizeLine_eq]; simp; omega) hpl₆ fun h₇ hl₇ hs₇ => ?_
        refine ⟨n + 1 - (i + 1), by omega, i + 1, ys ++ [y], m', rfl, hlt, ?_, by simpa using hl₇, Z'.ns.sameBut hs₇ (Ne.symm hDC), Z'.rest.trans .heap, ?_, fun b o hb e => ?_⟩
        · exact W.frame _ _ _ hst₄ fun b hb o e => hs₇.extBut b o (fun h => hDf (h ▸ hb)) (stay b o (fun h => hCf (h ▸ hb)) e)
        · refine hJ' _ (fun b o e => ?_) fun p hp => ?_
          · have e' := of_hideAll _ e
            have hb : b ∉ C :: D :: wr := fun q => by rw [hideAll_none _ q] at e; cases e
            exact hideAll_get _ (hs₇.extBut b o (fun q => hb (by rw [q]; exact .tail _ (.head _))) (stay b o (fun q => hb (by rw [q]; exact .head _)) (up b o (fun q => hb (.tail _ (.tail _ q))) e'))) hb
          · have z := Z'.nw p hp
            have alv : ∀ b o, b ≠ C → h₄.get? b = some o → p.1 ≠ b := fun b o hb e q => by
              have := z.2.2
              rw [q, hideAll_get _ e (by simpa using hb)] at this
              cases this
            have pD : p.1 ≠ D := by obtain ⟨_, e⟩ := hpl; exact alv D _ hDC (up D _ hDw e)
            refine hideAll_get _ (hs₇.extBut _ _ pD z.1) fun q => ?_
            rcases List.mem_cons.mp q with q | q
            · exact z.2.1 q
            · rcases List.mem_cons.mp q with q | q
              · exact pD q
              · obtain ⟨o, e⟩ := W.alive _ _ hst₄ _ (W.sub _ q)
                exact alv _ o (fun h => hCw (h ▸ q)) e rfl
        · exact hs₇.extBut b o (fun h => by rw [h, hD0] at e; cases e) (stay b o (below b o e).1 (up b o hb (hk b o hb e)))
    · have hin : i = n := Nat.le_antisymm hi (Nat.le_of_not_lt hlt)
      subst hin
      refine W.done s' _ _ hst' fun h₃ tk₃ hFn hk₃ => ?_
      obtain ⟨ep, hpl⟩ := hpl
      refine done D C m ys (hideAll s'.heap (C :: D :: wr)) ep _ hD0 hC0 hDC (hk₃ _ _ hDw hpl) (hn.at' fun o e => hk₃ C o hCw e) hJ (fun b o e => ?_) (hideAll_none _ (.tail _ (.head _))) (hideAll_none _ (.head _)) (fun b o hb e => hideAll_get _ (hk b o hb e) (nw b hb o e)) (r.trans .heap) hFn hDf hCf
      have e' := of_hideAll _ e
      have hb : b ∉ C :: D :: wr := fun q => by rw [hideAll_none _ q] at e; cases e
      exact hk₃ b o (fun q => hb (.tail _ (.tail _ q))) e'
  exact codeAny_compStart_list (loop _ rfl .heap) (W.self 0 _ _ _ hst₁ (loop _ rfl .heap))

theorem comp_loop (W : Trn w A target I fp wr n P Md St Fn) (hst : St 0 s₂.heap) (hsz : n ≤ 1000) (J : Nat → List Value → Heap → Prop) (h0 : ∀ hx, J 0 [] hx)
    (turn : ∀ i v ys C hb hx s m E', i < n → P i v s.heap → J i ys hx → (∀ b o, hx.get? b = some o → hb.get? b = some o) → (∀ b o, b ∉ wr → s₂.heap.get? b = some o → hx.get? b = some o) → Fm hb C s₂ [] m s →
      wpAny (MM w) A (assign target (compEnvC scope cl C env) v) (fun _ s₃ => wpAny (MM w) A (eval elt (compEnvC scope cl C env)) (fun y s₅ => TurnAt hb hx C s₂ (J (i + 1)) (ys ++ [y]) s₅) E' s₃) E' s)
    (done : ∀ D ys hx ep s', s₂.heap.get? D = none → s'.heap.get? D = some (listOf ys.toArray ep) → J n ys hx → (∀ b o, hx.get? b = some o → s'.heap.get? b = some o) → hx.get? D = none → (∀ b o, b ∉ wr → s₂.heap.get? b = some o → hx.get? b = some o) → Rest s₂ s' → Fn s'.heap → Q (.ref D) s')
    (hlen : ∀ i ys hx, J i ys hx → ys.length ≤ i)
    (hcell : ∀ y ∈ scope.names, y.2 ≠ .cell := by decide) (hkind : scope.kind = .function := by rfl) :
    CompAt w A E env elt target iter [] scope pos cl Q (.ref I) s₂ := by
  unfold CompAt
  refine comp_core (RR := fun acc C => compPost (MM w) A E none Q acc C) W hst hsz J h0 turn (fun D C m ys hx ep s' d1 d2 d3 d4 d5 d6 d7 d8 d9 d10 d11 d12 d13 d14 => ⟨m, d5, fun h₄ hs₄ => ?_⟩) hlen hcell hkind
  exact done D ys hx ep _ d1 (hs₄.extBut _ _ d3 d4) d6 (fun b o e => hs₄.extBut b o (by rintro rfl; rw [d9] at e; cases e) (d7 b o e)) d8 d10 (d11.trans .heap) (W.frameF _ _ d12 fun b hb o e => hs₄.extBut b o (fun h => d14 (h ▸ hb)) e)

/-- «x = [ .. for .. ]» where the list is stored before the comprehension's names are let go -/
theorem comp_use {h₀ : Heap} {L : Addr} {s₀ s : Shared} {m₀ : Str → Option Value} {news : List (Addr × Obj)} {rest : List Stmt} {QF : Flow → Shared → Prop} {x : Str} {px sp : Pos}
    (h : wpAny (MM w) A (eval iter env) (fun xv s₁ => wpAny (MM w) A (pyIter xv) (fun it s₂ => ∃ I fp wr n P Md St Fn, it = .ref I ∧ Trn w A target I fp wr n P Md St Fn ∧ St 0 s₂.heap ∧ n ≤ 1000 ∧
      ∃ (J : Nat → List Value → Heap → Prop) (m₀ : Str → Option Value), s₂.heap.Ns L m₀ ∧ L ∉ wr ∧ Rest s₀ s₂ ∧ (∀ hx, J 0 [] hx) ∧ (∀ i ys hx, J i ys hx → ys.length ≤ i) ∧
        (∀ i v ys C hb hx s m E', i < n → P i v s.heap → J i ys hx → (∀ b o, hx.get? b = some o → hb.get? b = some o) → (∀ b o, b ∉ wr → s₂.heap.get? b = some o → hx.get? b = some o) → Fm hb C s₂ [] m s →
      wpAny (MM w) A (assign target (compEnvC scope cl C env) v) (fun _ s₃ => wpAny (MM w) A (eval elt (compEnvC scope cl C env)) (fun y s₅ => TurnAt hb hx C s₂ (J (i + 1)) (ys ++ [y]) s₅) E' s₃) E' s) ∧
        (∀ D ys hx ep s', s₂.heap.get? D = none → s'.heap.get? D = some (listOf ys.toArray ep) → J n ys hx → (∀ b o, b ≠ L → hx.get? b = some o → s'.heap.get? b = some o) → hx.get? D = none → (∀ b o, b ∉ wr → s₂.heap.get? b = some o → hx.get? b = some o) → Rest s₂ s' → Fn s'.heap → s'.heap.Ns L (upd m₀ x (.ref D)) → wpAny (MM w) A (execs rest env) QF E s')
        ∧ (∀ h h', Fn h → (∀ b ∈ fp, b ≠ L → ∀ o, h.get? b = some o → h'.get? b = some o) → Fn h')) E s₁) E s)
    (hsw : swapsWith (.ListComp elt [⟨target, iter, [], 0⟩] scope pos) (some (.Name x px)) sp.line env = pure true := by rfl)
    (hclos : closureFor scope env = pure cl) (hkind : scope.kind = .function := by rfl) (hnames : ∀ y ∈ scope.names, y.2 = .local → scope.names.lookup y.1 = some .local := by decide)
    (hs : ∀ x, foldedSetIterable iter env x = pure x := by intro _; rfl) (hcell : ∀ y ∈ scope.names, y.2 ≠ .cell := by decide) (hL : env.locals = L := by rfl) (hk : env.scope.kind = .function := by rfl) (hl : env.kindOf x = some .local := by rfl) :
    wpAny (MM w) A (execs (.Assign [.Name x px] (.ListComp elt [⟨target, iter, [], 0⟩] scope pos) sp :: rest) env) QF E s := by
  refine xs_cons ?_
  rw [exec_Assign_Name_used _ _ _ _ hsw]
  refine wpAny_bind (wpAny_standAt (wpAny_bind ?_))
  show wpAny _ A (do let _ ← comprehension (.ListComp elt [⟨target, iter, [], 0⟩] scope pos) scope env _ (newList []) false (eval iter env) (some (assign (.Name x px) env))) _ _ s
  refine wpAny_bind (wpAny_mono (wpAny_comprehension_free (use := some (assign (.Name x px) env)) (Q := fun _ s' => wpAny (MM w) A (execs rest env) QF E s') rfl hs hclos hkind hnames
    (wpAny_mono h (fun xv s₁ h₁ => wpAny_mono h₁ (fun it s₂ h₂ => ?_) fun _ _ e => e) fun _ _ e => e)) (fun _ s' hq => wpAny_pure (wpAny_pure hq)) fun _ _ e => e)
  obtain ⟨I, fp, wr, n, P, Md, St, Fn, rfl, W, hst, hsz, J, m₀, hns, hLw, hr0, h0, hlen, turn, done, hfn⟩ := h₂
  refine comp_core (RR := fun acc C => compPost (MM w) A E (some (assign (.Name x px) env)) (fun _ s' => wpAny (MM w) A (execs rest env) QF E s') acc C) W hst hsz J h0 turn (fun D C m ys hx ep s' d1 d2 d3 d4 d5 d6 d7 d8 d9 d10 d11 d12 d13 d14 => ?_) hlen hcell hkind
  have hne : ∀ b, s₂.heap.get? b = none → L ≠ b := fun b e q => by obtain ⟨o, _, _, ho, _⟩ := hns; rw [q, e] at ho; cases ho
  show wpAny _ A (assign (.Name x px) env (.ref D)) _ _ _
  have hn' : s'.heap.Ns env.locals m₀ := hL ▸ hns.at' fun o e => d7 _ _ (d10 _ _ hLw e)
  refine wpAny_assign_Name (wpAny_storeName_local hl hn' (fun h₂ hn₂ hs₂ => ?_) (by show (env.scope.kind == .class || (env.scope.kind == .module && env.locals != env.globals)) = false; rw [hk]; rfl))
  rw [hL] at hn₂ hs₂
  refine ⟨m, d5.sameBut hs₂ (Ne.symm (hne C d2)), fun h₃ hs₃ => ?_⟩
  refine done D ys hx ep _ d1 (hs₃.extBut _ _ d3 (hs₂.extBut _ _ (Ne.symm (hne D d1)) d4)) d6 (fun b o hb e => hs₃.extBut b o (by rintro rfl; rw [d9] at e; cases e) (hs₂.extBut b o hb (d7 b o e))) d8 d10 (d11.trans .heap) ?_ (hn₂.sameBut hs₃ (hne C d2))
  exact hfn _ _ d12 fun b hb hbL o e => hs₃.extBut b o (fun h => d14 (h ▸ hb)) (hs₂.extBut b o hbL e)
end
end Mine

end
section
open PySem PySem.W PySem.Calls PyProof.Rows PySem.SeqAt
namespace Mine

def StopAt (h : Heap) (e : Addr) : Prop := ∃ o, h.get? e = some o ∧ o.cls = .type "StopIteration"
/-- a list's iterator that has come to its end -/
def Ended (h : Heap) (it : Addr) : Prop := ∃ i, h.get? it = some { cls := .type "list_iterator", data := .fields #[.none, .int i 0] }
abbrev LIter (h : Heap) (it l : Addr) (i : Nat) : Prop := h.get? it = some { cls := .type "list_iterator", data := .fields #[.ref l, .int (i : Int) 0] }

section
variable {prog : Program} {w : World} {A : Around} {E : Value → Shared → Prop} {s : Shared}

theorem stop_raise {α : Type} {Q : α → Shared → Prop} (hh : A.handled = none) (hE : ∀ h' e, (∀ b o, s.heap.get? b = some o → h'.get? b = some o) → StopAt h' e → E (.ref e) { s with heap := h' }) :
    wpAny (model prog w) A (Builtin.SmallTypes.stopIteration : Sem α) Q E s := by
  unfold Builtin.SmallTypes.stopIteration
  refine wpAny_bind ?_
  simp only [newExc, newTuple]
  refine wpAny_bind (wpAny_newObj_type ?_ (by size_fits))
  refine wpAny_bind (m := firstArgMember _ _) (wpAny_of_eq (a := Value.none) (by first | rfl | (simp only [firstArgMember]; rfl)) ?_)
  refine wpAny_newObj_type ?_ (by size_fits)
  simp only [raiseNew]
  refine wpAny_bind (wpAny_handled ?_)
  rw [hh]
  refine wpAny_bind (wpAny_pure (wpAny_throw ?_))
  exact hE _ _ (fun b o e => Heap.get?_push_of_some _ (Heap.get?_push_of_some _ e)) ⟨_, Heap.get?_push_size _ rfl, rfl⟩

theorem nx_of {it : Addr} {T id : String} {B : Builtin} {Q : Value → Shared → Prop} (hT : s.TypeIs (.ref it) T) (slot : Slot T "__next__" id) (hent : entryFor table id = some B) (harg : argsOk id ⟨[.ref it], []⟩)
    (h : wpAny (model prog w) A.in1 (B ⟨[.ref it], []⟩) (fun fin s' => ∃ v, fin = .done (.ret v) ∧ Q v s') E s) : wpAny (model prog w) A (Builtin.SmallTypes.nextOf (.ref it)) Q E s := by
  unfold Builtin.SmallTypes.nextOf
  refine wpAny_bind (wpAny_callSpecial?_slot (name := Str.ofString "__next__") hT slot (wpAny_call_entry slot hT hent (wpAny_mono h (fun fin s' q => ?_) fun _ _ e => e) harg))
  obtain ⟨v, rfl, q⟩ := q
  exact ⟨v, rfl, wpAny_pure q⟩

theorem pn_of {it : Addr} {T id : String} {B : Builtin} {Q : Option Value → Shared → Prop} (hT : s.TypeIs (.ref it) T) (slot : Slot T "__next__" id) (hent : entryFor table id = some B) (harg : argsOk id ⟨[.ref it], []⟩)
    (h : wpAny (model prog w) A.in1 (B ⟨[.ref it], []⟩) (fun fin s' => ∃ v, fin = .done (.ret v) ∧ Q (some v) s') (fun e s' => ∃ x, e = .ref x ∧ StopAt s'.heap x ∧ Q none s') s) : wpAny (model prog w) A (pyNext (.ref it)) Q E s := by
  unfold pyNext
  refine wpAny_bind (wpAny_attempt (wpAny_callSpecial?_slot (name := Str.ofString "__next__") hT slot (wpAny_call_entry slot hT hent (wpAny_mono h (fun fin s' q => ?_) fun e s' q => ?_) harg)))
  · obtain ⟨v, rfl, q⟩ := q
    exact ⟨v, rfl, wpAny_pure q⟩
  · obtain ⟨x, rfl, ⟨o, ho, hc⟩, q⟩ := q
    exact wpAny_bind (wpAny_isInstance (T := "StopIteration") (b := true) ⟨o, ho, hc⟩ isSubtype_stop (wpAny_pure q))

/-- the bodies of the iterators' __next__ -/
theorem lb_item {it l : Addr} {i : Nat} {items : Array Value} {x : Value} {Q : Fin → Shared → Prop} (hit : LIter s.heap it l i) (hl : s.heap.IsList l items) (hx : items[i]? = some x)
    (hQ : ∀ h', LIter h' it l (i + 1) → Heap.SameBut it s.heap h' → Q (.done (.ret x)) { s with heap := h' }) : wpAny (model prog w) A (Builtin.«list_iterator.__next__» ⟨[.ref it], []⟩) Q E s := by
  obtain ⟨ol, hol, _, nl, hdl⟩ := hl
  show wpAny _ _ (field (.ref it) 0 >>= _) _ _ s
  refine wpAny_bind (wpAny_field hit rfl (x := .ref l) rfl ?_)
  show wpAny _ _ (if (Value.ref l == Value.none) = true then _ else _) _ _ s
  rw [if_neg (show ¬ ((Value.ref l == Value.none) = true) from Bool.false_ne_true)]
  show wpAny _ _ (field (.ref it) 1 >>= _) _ _ s
  refine wpAny_bind (wpAny_field hit rfl (x := .int i 0) rfl ?_)
  show wpAny _ _ (seqItems? (.ref l) >>= _) _ _ s
  refine wpAny_bind (wpAny_seqItems hol hdl ?_)
  simp only [Int.toNat_natCast, hx]
  exact wpAny_bind (wpAny_setField_rec hit (by simp) fun h' a b => wpAny_pure (hQ h' a b))
theorem lb_end {it l : Addr} {i : Nat} {items : Array Value} {Q : Fin → Shared → Prop} (hh : A.handled = none) (hit : LIter s.heap it l i) (hl : s.heap.IsList l items) (hx : items[i]? = none)
    (hE : ∀ h' e, Ended h' it → Heap.ExtBut it s.heap h' → StopAt h' e → E (.ref e) { s with heap := h' }) : wpAny (model prog w) A (Builtin.«list_iterator.__next__» ⟨[.ref it], []⟩) Q E s := by
  obtain ⟨ol, hol, _, nl, hdl⟩ := hl
  show wpAny _ _ (field (.ref it) 0 >>= _) _ _ s
  refine wpAny_bind (wpAny_field hit rfl (x := .ref l) rfl ?_)
  show wpAny _ _ (if (Value.ref l == Value.none) = true then _ else _) _ _ s
  rw [if_neg (show ¬ ((Value.ref l == Value.none) = true) from Bool.false_ne_true)]
  show wpAny _ _ (field (.ref it) 1 >>= _) _ _ s
  refine wpAny_bind (wpAny_field hit rfl (x := .int i 0) rfl ?_)
  show wpAny _ _ (seqItems? (.ref l) >>= _) _ _ s
  refine wpAny_bind (wpAny_seqItems hol hdl ?_)
  simp only [Int.toNat_natCast, hx]
  refine wpAny_bind (wpAny_rule (wpAny_bind (wpAny_setField_rec hit (by simp) fun h' a b => ?_)))
  exact stop_raise hh fun h'' e k st => hE h'' e ⟨_, k _ _ a⟩ (fun c o hc q => k c o (b.extBut c o hc q)) st
theorem lb_ended {it : Addr} {Q : Fin → Shared → Prop} (hh : A.handled = none) (hit : Ended s.heap it)
    (hE : ∀ h' e, (∀ b o, s.heap.get? b = some o → h'.get? b = some o) → StopAt h' e → E (.ref e) { s with heap := h' }) : wpAny (model prog w) A (Builtin.«list_iterator.__next__» ⟨[.ref it], []⟩) Q E s := by
  obtain ⟨i, hit⟩ := hit
  show wpAny _ _ (field (.ref it) 0 >>= _) _ _ s
  refine wpAny_bind (wpAny_field hit rfl (x := .none) rfl ?_)
  show wpAny _ _ (if (Value.none == Value.none) = true then _ else _) _ _ s
  rw [if_pos (show (Value.none == Value.none) = true from rfl)]
  exact wpAny_bind (wpAny_rule (wpAny_bind (stop_raise hh hE)))
theorem rb_item {it : Addr} {x left step : Int} {Q : Fin → Shared → Prop} (hit : IsRangeIter s.heap it x left step) (hl : 0 < left)
    (hQ : ∀ h', IsRangeIter h' it (x + step) (left - 1) step → Heap.SameBut it s.heap h' → Q (.done (.ret (.int x s.toks))) { s with heap := h', toks := s.toks + 1 }) : wpAny (model prog w) A (Builtin.«range_iterator.__next__» ⟨[.ref it], []⟩) Q E s := by
  show wpAny _ _ (field (.ref it) 0 >>= _) _ _ s
  refine wpAny_bind (wpAny_field hit rfl (x := rawInt x) rfl ?_)
  show wpAny _ _ (field (.ref it) 1 >>= _) _ _ s
  refine wpAny_bind (wpAny_field hit rfl (x := rawInt left) rfl ?_)
  show wpAny _ _ (field (.ref it) 2 >>= _) _ _ s
  refine wpAny_bind (wpAny_field hit rfl (x := rawInt step) rfl ?_)
  show wpAny _ _ (if left ≤ 0 then _ else _) _ _ s
  rw [if_neg (by omega)]
  refine wpAny_bind (wpAny_setField_rec hit (by simp) fun h₁ a₁ b₁ => ?_)
  refine wpAny_bind (wpAny_setField_rec (s := { s with heap := h₁ }) a₁ (by simp) fun h₂ a₂ b₂ => ?_)
  exact wpAny_bind (wpAny_mkInt (wpAny_pure (hQ h₂ a₂ (b₁.trans b₂))))
theorem rb_end {it : Addr} {x left step : Int} {Q : Fin → Shared → Prop} (hh : A.handled = none) (hit : IsRangeIter s.heap it x left step) (hl : left ≤ 0)
    (hE : ∀ h' e, (∀ b o, s.heap.get? b = some o → h'.get? b = some o) → StopAt h' e → E (.ref e) { s with heap := h' }) : wpAny (model prog w) A (Builtin.«range_iterator.__next__» ⟨[.ref it], []⟩) Q E s := by
  show wpAny _ _ (field (.ref it) 0 >>= _) _ _ s
  refine wpAny_bind (wpAny_field hit rfl (x := rawInt x) rfl ?_)
  show wpAny _ _ (field (.ref it) 1 >>= _) _ _ s
  refine wpAny_bind (wpAny_field hit rfl (x := rawInt left) rfl ?_)
  show wpAny _ _ (field (.ref it) 2 >>= _) _ _ s
  refine wpAny_bind (wpAny_field hit rfl (x := rawInt step) rfl ?_)
  show wpAny _ _ (if left ≤ 0 then _ else _) _ _ s
  rw [if_pos hl]
  exact wpAny_bind (wpAny_rule (wpAny_bind (stop_raise hh hE)))

section
variable {KT : Type} [DecidableEq KT] {knd : KeyKind prog w KT}
theorem vb_item {it d : Addr} {i ep : Nat} {kvs : List (KT × Value)} {k : KT} {v : Value} {Q : Fin → Shared → Prop} (hit : s.heap.IsValIter it d i kvs.length ep)
    (hm : s.heap.DictAt knd d kvs ep) (hx : kvs[i]? = some (k, v))
    (hQ : ∀ h', h'.IsValIter it d (i + 1) kvs.length ep → Heap.SameBut it s.heap h' → Q (.done (.ret v)) { s with heap := h' }) :
    wpAny (model prog w) A (Builtin.«dict_valueiterator.__next__» ⟨[.ref it], []⟩) Q E s := by
  obtain ⟨o, ho, hc, hd⟩ := id hit
  obtain ⟨od, es, hod, hcd, hdd, hk, hp, hn⟩ := id hm
  have hT : s.TypeIs (.ref it) "dict_valueiterator" := hit.typeIs
  have hsz : es.size = kvs.length := by rw [← hp.length]; simp
  have hlt : i < kvs.length := by
    rcases Nat.lt_or_ge i kvs.length with h | h
    · exact h
    · simp [List.getElem?_eq_none h] at hx
  have hlt' : i < es.size := by rw [hsz]; exact hlt
  have hval : es[i].val = v := (hp.get? (e := es[i]) (by simp [hlt']) hx).2
  refine wpAny_bind (wpAny_pure ?_)
  refine wpAny_bind (wpAny_bind ?_)
  refine wpAny_bind (wpAny_typeNameOfWhole_valiter hT (wpAny_pure ?_))
  refine wpAny_bind (wpAny_fieldsOf ho hd ?_)
  simp only [show Builtin.Dict_items.ownsTuple "dict_valueiterator" = false by decide, Bool.false_eq_true, if_false]
  show wpAny _ _ (if (Value.ref d == Value.none) = true then _ else _) _ _ s
  rw [if_neg (show ¬ ((Value.ref d == Value.none) = true) from Bool.false_ne_true)]
  refine wpAny_bind (wpAny_pure (wpAny_bind (wpAny_dictEntries hod hdd ?_)))
  rw [if_neg (by rw [hsz]; simp)]
  refine wpAny_bind (wpAny_pure (wpAny_bind (wpAny_dictEpoch hod hdd ?_)))
  rw [if_neg (by simp)]
  refine wpAny_pure ?_
  simp only [show ¬ ((i : Int) < 0) from by omega, if_false, Int.toNat_natCast, Array.getElem?_eq_getElem hlt']
  refine wpAny_bind (wpAny_bind (wpAny_typeNameOfWhole_valiter hT (wpAny_pure ?_)))
  refine wpAny_bind (wpAny_isOneOf_valiter hT ?_)
  show wpAny _ _ (setField (.ref it) 1 (rawInt ((i : Int) + 1)) >>= _) _ _ s
  refine wpAny_bind (wpAny_setField ho hd (by simp) ?_)
  have hit' : (s.heap.update it (Obj.mapFields (·.setIfInBounds 1 (rawInt ((i : Int) + 1))))).IsValIter it d (i + 1) kvs.length ep :=
    ⟨_, Heap.get?_update_self _ ho (Obj.isFreed_of_fields (Obj.data_mapFields hd _)), (Obj.cls_mapFields ..).trans hc, by rw [Obj.data_mapFields hd]; simp [rawInt]⟩
  refine wpAny_bind (wpAny_holding ?_)
  refine wpAny_bind (wpAny_isOneOf_valiter (s := { s with heap := s.heap.update it (Obj.mapFields (·.setIfInBounds 1 (rawInt ((i : Int) + 1)))) }) hit'.typeIs ?_)
  refine wpAny_bind (wpAny_isOneOf_valiter (s := { s with heap := s.heap.update it (Obj.mapFields (·.setIfInBounds 1 (rawInt ((i : Int) + 1)))) }) hit'.typeIs ?_)
  exact wpAny_pure (wpAny_pure (hval ▸ hQ _ hit' (Heap.SameBut.update ..)))
end

end

/-- an iterator, as zip draws from it; «e» is whether it may come to its end -/
structure Nx (w : World) (A : Around) (I : Addr) (fp wr : List Addr) (k : Nat) (P : Nat → Value → Prop) (St : Nat → Heap → Prop) (Fn : Heap → Prop) (e : Prop) : Prop where
  sub : ∀ b ∈ wr, b ∈ fp
  frame : ∀ i h h', St i h → (∀ b ∈ fp, ∀ o, h.get? b = some o → h'.get? b = some o) → St i h'
  frameF : ∀ h h', Fn h → (∀ b ∈ fp, ∀ o, h.get? b = some o → h'.get? b = some o) → Fn h'
  alive : ∀ i h, St i h → ∀ b ∈ fp, ∃ o, h.get? b = some o
  item : ∀ i (s : Shared) (Q : Value → Shared → Prop) (E : Value → Shared → Prop), i < k → St i s.heap →
    (∀ v h' tk, P i v → St (i + 1) h' → (∀ b o, b ∉ wr → s.heap.get? b = some o → h'.get? b = some o) → Q v { s with heap := h', toks := tk }) → wpAny (MM w) A (Builtin.SmallTypes.nextOf (.ref I)) Q E s
  done : e → ∀ (s : Shared) (Q : Value → Shared → Prop) (E : Value → Shared → Prop), St k s.heap →
    (∀ h' x, Fn h' → (∀ b o, b ∉ wr → s.heap.get? b = some o → h'.get? b = some o) → StopAt h' x → E (.ref x) { s with heap := h' }) → wpAny (MM w) A (Builtin.SmallTypes.nextOf (.ref I)) Q E s

theorem nx_list {w : World} {A : Around} (hh : A.handled = none) (I l : Addr) (hne : l ≠ I) (items : Array Value) :
    Nx w A I [I, l] [I] items.size (fun i v => items[i]? = some v) (fun i h => LIter h I l i ∧ h.IsList l items) (fun h => Ended h I) True where
  sub := fun b hb => by simp at hb; simp [hb]
  frame := fun _ _ _ st hk => ⟨hk I (by simp) _ st.1, st.2.at fun o e => hk l (by simp) o e⟩
  frameF := fun _ _ st hk => let ⟨i, e⟩ := st; ⟨i, hk I (by simp) _ e⟩
  alive := fun i h st b hb => by
    simp only [List.mem_cons, List.not_mem_nil, or_false] at hb
    rcases hb with rfl | rfl
    · exact ⟨_, st.1⟩
    · obtain ⟨o, e, _⟩ := st.2; exact ⟨o, e⟩
  item := fun i s Q E hi st hQ => nx_of ⟨_, st.1, rfl⟩ slot_listiter_next entry_listiter_next (args_listiter_next _) (lb_item st.1 st.2 (x := items[i]) (by simp [hi]) fun h' a b =>
    ⟨_, rfl, hQ _ h' s.toks (by simp [hi]) ⟨a, st.2.extBut b.extBut hne⟩ fun b' o hb e => b.extBut b' o (fun h => hb (by simp [h])) e⟩)
  done := fun _ s Q E st hQ => nx_of ⟨_, st.1, rfl⟩ slot_listiter_next entry_listiter_next (args_listiter_next _) (lb_end (by exact hh) st.1 st.2 (by simp) fun h' e a b c => hQ h' e a (fun b' o hb e => b b' o (fun h => hb (by simp [h])) e) c)

theorem nx_vals {w : World} {A : Around} {KT : Type} [DecidableEq KT] {knd : KeyKind PR w KT} (I d : Addr) (hne : d ≠ I) (kvs : List (KT × Value)) (ep : Nat) :
    Nx w A I [I, d] [I] kvs.length (fun i v => ∃ k, kvs[i]? = some (k, v)) (fun i h => h.IsValIter I d i kvs.length ep ∧ h.DictAt knd d kvs ep) (fun h => True) False where
  sub := fun b hb => by simp at hb; simp [hb]
  frame := fun _ _ _ st hk => ⟨st.1.at fun o e => hk I (by simp) o e, st.2.at' fun o e => hk d (by simp) o e⟩
  frameF := fun _ _ _ _ => trivial
  alive := fun i h st b hb => by
    simp only [List.mem_cons, List.not_mem_nil, or_false] at hb
    rcases hb with rfl | rfl
    · obtain ⟨o, e, _⟩ := st.1; exact ⟨o, e⟩
    · obtain ⟨o, _, e, _⟩ := st.2; exact ⟨o, e⟩
  item := fun i s Q E hi st hQ => by
    obtain ⟨⟨k, x⟩, hx⟩ : ∃ p, kvs[i]? = some p := ⟨kvs[i], by simp [hi]⟩
    exact nx_of st.1.typeIs PySem.F.slot_dict_valueiterator_next PySem.F.entry_dict_valueiterator_next (PySem.F.args_dict_valueiterator_next_1 _) (vb_item st.1 st.2 hx fun h' a b =>
      ⟨_, rfl, hQ x h' s.toks ⟨k, hx⟩ ⟨a, st.2.extBut b.extBut hne⟩ fun b' o hb e => b.extBut b' o (fun h => hb (by simp [h])) e⟩)
  done := fun h => h.elim

/-- zip's own parts, apart from one another and from what it draws from -/
structure ZApart (z TI TO i1 : Addr) (fp : List Addr) : Prop where
  a1 : TI ≠ z
  a2 : TO ≠ z
  a3 : i1 ≠ z
  a4 : TI ≠ TO
  a5 : TI ≠ i1
  a6 : TO ≠ i1
  f1 : z ∉ fp
  f2 : TI ∉ fp
  f3 : TO ∉ fp
  f4 : i1 ∉ fp

section
variable {w : World} {A : Around} {E : Value → Shared → Prop} {s : Shared} {I : Addr} {fp wr : List Addr} {k : Nat} {P : Nat → Value → Prop} {St : Nat → Heap → Prop} {Fn : Heap → Prop} {en : Prop} {z TI TO i1 : Addr} {a b : Value} {x left c : Int}

theorem zb_item {i : Nat} {Q : Fin → Shared → Prop} (N : Nx w A I fp wr k P St Fn en) (D : ZApart z TI TO i1 fp) (hz : IsZip s.heap z TI TO .none) (hTI : IsPair s.heap TI (.ref i1) (.ref I)) (hTO : IsPair s.heap TO a b)
    (h1 : IsRangeIter s.heap i1 x left c) (hl : 0 < left) (hi : i < k) (hst : St i s.heap)
    (hQ : ∀ (T : Addr) v t h' tk, P i v → IsZip h' z TI TO (rawInt (T : Nat)) → (∃ a b, IsPair h' TO a b) → IsRangeIter h' i1 (x + c) (left - 1) c → St (i + 1) h' → IsPair h' T (.int x t) v → s.heap.get? T = none → (∀ b ∈ z :: TI :: TO :: i1 :: fp, T ≠ b) →
      (∀ b o, b ≠ z → b ≠ TO → b ≠ i1 → b ∉ wr → s.heap.get? b = some o → h'.get? b = some o) → Q (.done (.ret (.ref T))) { s with heap := h', toks := tk }) :
    wpAny (MM w) A (Builtin.«zip.__next__» ⟨[.ref z], []⟩) Q E s := by
  have zw : z ∉ wr := fun h => D.f1 (N.sub _ h)
  have tiw : TI ∉ wr := fun h => D.f2 (N.sub _ h)
  have tow : TO ∉ wr := fun h => D.f3 (N.sub _ h)
  have iw : i1 ∉ wr := fun h => D.f4 (N.sub _ h)
  show wpAny _ _ (field (.ref z) 2 >>= _) _ _ _
  refine wpAny_bind (wpAny_field hz rfl (x := .bool false) rfl ?_)
  show wpAny _ _ (field (.ref z) 3 >>= _) _ _ _
  refine wpAny_bind (wpAny_field hz rfl (x := .ref TI) rfl ?_)
  refine wpAny_bind (wpAny_seqItems hTI rfl ?_)
  show wpAny _ _ (Builtin.SmallTypes.ownedTupleIsFree (.ref z) >>= _) _ _ _
  refine wpAny_bind ?_
  unfold Builtin.SmallTypes.ownedTupleIsFree
  refine wpAny_bind (wpAny_field hz rfl (x := .none) rfl (wpAny_pure ?_))
  simp only [if_true]
  refine wpAny_bind (wpAny_rule ?_)
  refine wpAny_bind (wpAny_field hz rfl (x := .ref TO) rfl ?_)
  refine wpAny_bind (wpAny_setField_rec hz (by simp) fun h₁ hz₁ hs₁ => ?_)
  replace hz₁ : IsZip h₁ z TI TO .ellipsis := hz₁
  refine wpAny_bind ?_
  simp only [List.zipIdx_cons, List.zipIdx_nil, List.forIn_cons, List.forIn_nil]
  refine wpAny_bind (wpAny_bind (wpAny_onRaise ?_))
  show wpAny _ _ (Builtin.SmallTypes.nextOf (.ref i1) >>= _) _ _ _
  have h1₁ : IsRangeIter h₁ i1 x left c := hs₁.extBut _ _ D.a3 h1
  refine wpAny_bind (nx_of (s := { s with heap := h₁ }) ⟨_, h1₁, rfl⟩ PySem.F.slot_range_iterator_next PySem.F.entry_range_iterator_next (PySem.F.args_range_iterator_next_1 _) (rb_item h1₁ hl fun h₂ h1₂ hs₂ => ⟨_, rfl, wpAny_pure ?_⟩))
  have hTO₂ : IsPair h₂ TO a b := hs₂.extBut _ _ D.a6 (hs₁.extBut _ _ D.a2 hTO)
  refine wpAny_bind (wpAny_seqItems hTO₂ rfl ?_)
  refine wpAny_bind (wpAny_updateSeq_pair hTO₂ fun h₃ hTO₃ hs₃ => ?_)
  replace hTO₃ : IsPair h₃ TO (.int x s.toks) b := hTO₃
  refine wpAny_bind (wpAny_letGo (wpAny_pure ?_))
  refine wpAny_bind (wpAny_bind (wpAny_onRaise ?_))
  show wpAny _ _ (Builtin.SmallTypes.nextOf (.ref I) >>= _) _ _ _
  have hst₃ : St i h₃ := N.frame _ _ _ hst fun b hb o e => hs₃.extBut b o (fun h => D.f3 (h ▸ hb)) (hs₂.extBut b o (fun h => D.f4 (h ▸ hb)) (hs₁.extBut b o (fun h => D.f1 (h ▸ hb)) e))
  refine wpAny_bind (N.item i _ _ _ hi hst₃ fun y h₄ tk₄ hP hst₄ hk₄ => wpAny_pure ?_)
  have hTO₄ : IsPair h₄ TO (.int x s.toks) b := hk₄ _ _ tow hTO₃
  refine wpAny_bind (wpAny_seqItems hTO₄ rfl ?_)
  refine wpAny_bind (wpAny_updateSeq_pair hTO₄ fun h₅ hTO₅ hs₅ => ?_)
  replace hTO₅ : IsPair h₅ TO (.int x s.toks) y := hTO₅
  refine wpAny_bind (wpAny_letGo (wpAny_pure (wpAny_pure ?_)))
  refine wpAny_bind (wpAny_seqItems hTO₅ rfl ?_)
  refine wpAny_bind (wpAny_newTuple ?_)
  have hz₅ : IsZip h₅ z TI TO .ellipsis := hs₅.extBut _ _ D.a2.symm (hk₄ _ _ zw (hs₃.extBut _ _ D.a2.symm (hs₂.extBut _ _ D.a3.symm hz₁)))
  have hk₅ : ∀ b o, b ≠ z → b ≠ TO → b ≠ i1 → b ∉ wr → s.heap.get? b = some o → h₅.get? b = some o := fun b o c1 c2 c3 c4 e => hs₅.extBut _ _ c2 (hk₄ _ _ c4 (hs₃.extBut _ _ c2 (hs₂.extBut _ _ c3 (hs₁.extBut _ _ c1 e))))
  have h1₅ : IsRangeIter h₅ i1 (x + c) (left - 1) c := hs₅.extBut _ _ D.a6.symm (hk₄ _ _ iw (hs₃.extBut _ _ D.a6.symm h1₂))
  have hst₅ : St (i + 1) h₅ := N.frame _ _ _ hst₄ fun b hb o e => hs₅.extBut b o (fun h => D.f3 (h ▸ hb)) e
  have hTI₅ := hk₅ _ _ D.a1 D.a4 D.a5 tiw hTI
  have alv : ∀ b ∈ z :: TI :: TO :: i1 :: fp, ∃ o, h₅.get? b = some o := by
    intro b hb
    simp only [List.mem_cons] at hb
    rcases hb with rfl | rfl | rfl | rfl | hb
    · exact ⟨_, hz₅⟩
    · exact ⟨_, hTI₅⟩
    · exact ⟨_, hTO₅⟩
    · exact ⟨_, h1₅⟩
    · exact N.alive _ _ hst₅ b hb
  have frs : ∀ b ∈ z :: TI :: TO :: i1 :: fp, h₅.objs.size ≠ b := fun b hb => let ⟨_, e⟩ := alv b hb; Nat.ne_of_gt (Heap.lt_size e)
  have hnew : s.heap.get? h₅.objs.size = none := by
    cases e : s.heap.get? h₅.objs.size with
    | none => rfl
    | some o => exact absurd (Heap.lt_size (hk₅ _ o (frs _ (by simp)) (frs _ (by simp)) (frs _ (by simp)) (fun h => frs _ (by simp [N.sub _ h]) rfl) e)) (Nat.lt_irrefl _)
  show wpAny _ _ (Builtin.SmallTypes.ownedTupleHandOut (.ref z) (.ref h₅.objs.size) >>= _) _ _ _
  refine wpAny_bind ?_
  unfold Builtin.SmallTypes.ownedTupleHandOut
  have hz₆ : IsZip (h₅.push { cls := .type "tuple", data := .seq #[.int x s.toks, y] }) z TI TO .ellipsis := Heap.get?_push_of_some _ hz₅
  refine wpAny_bind (wpAny_setField_rec hz₆ (by simp) fun h₇ hz₇ hs₇ => ?_)
  replace hz₇ : IsZip h₇ z TI TO (rawInt h₅.objs.size) := hz₇
  refine wpAny_setField_rec hz₇ (by simp) fun h₈ hz₈ hs₈ => ?_
  replace hz₈ : IsZip h₈ z TI TO (rawInt h₅.objs.size) := hz₈
  have up : ∀ c o, c ≠ z → h₅.get? c = some o → h₈.get? c = some o := fun c o c1 e => hs₈.extBut _ _ c1 (hs₇.extBut _ _ c1 (Heap.get?_push_of_some _ e))
  have hT₈ : IsPair h₈ h₅.objs.size (.int x s.toks) y := hs₈.extBut _ _ (frs _ (by simp)) (hs₇.extBut _ _ (frs _ (by simp)) (Heap.get?_push_size _ rfl))
  exact wpAny_pure (hQ h₅.objs.size y s.toks h₈ tk₄ hP hz₈ ⟨_, _, up _ _ D.a2 hTO₅⟩ (up _ _ D.a3 h1₅) (N.frame _ _ _ hst₅ fun b hb o e => up b o (fun h => D.f1 (h ▸ hb)) e) hT₈ hnew frs fun b o c1 c2 c3 c4 e => up b o c1 (hk₅ b o c1 c2 c3 c4 e))

theorem zb_end {i : Nat} {Q : Fin → Shared → Prop} (hh : A.handled = none) (N : Nx w A I fp wr k P St Fn en) (D : ZApart z TI TO i1 fp) (hz : IsZip s.heap z TI TO .none) (hTI : IsPair s.heap TI (.ref i1) (.ref I)) (hTO : IsPair s.heap TO a b)
    (h1 : IsRangeIter s.heap i1 x left c) (hst : St i s.heap) (hc : left ≤ 0 ∨ (0 < left ∧ i = k ∧ en))
    (hE : ∀ h' e tk, (left ≤ 0 → St i h') → (0 < left → Fn h') → (∀ b o, b ≠ z → b ≠ TO → b ≠ i1 → b ∉ wr → s.heap.get? b = some o → h'.get? b = some o) → StopAt h' e → E (.ref e) { s with heap := h', toks := tk }) :
    wpAny (MM w) A (Builtin.«zip.__next__» ⟨[.ref z], []⟩) Q E s := by
  have zw : z ∉ wr := fun h => D.f1 (N.sub _ h)
  have tow : TO ∉ wr := fun h => D.f3 (N.sub _ h)
  show wpAny _ _ (field (.ref z) 2 >>= _) _ _ _
  refine wpAny_bind (wpAny_field hz rfl (x := .bool false) rfl ?_)
  show wpAny _ _ (field (.ref z) 3 >>= _) _ _ _
  refine wpAny_bind (wpAny_field hz rfl (x := .ref TI) rfl ?_)
  refine wpAny_bind (wpAny_seqItems hTI rfl ?_)
  show wpAny _ _ (Builtin.SmallTypes.ownedTupleIsFree (.ref z) >>= _) _ _ _
  refine wpAny_bind ?_
  unfold Builtin.SmallTypes.ownedTupleIsFree
  refine wpAny_bind (wpAny_field hz rfl (x := .none) rfl (wpAny_pure ?_))
  simp only [if_true]
  refine wpAny_bind (wpAny_rule ?_)
  refine wpAny_bind (wpAny_field hz rfl (x := .ref TO) rfl ?_)
  refine wpAny_bind (wpAny_setField_rec hz (by simp) fun h₁ hz₁ hs₁ => ?_)
  replace hz₁ : IsZip h₁ z TI TO .ellipsis := hz₁
  refine wpAny_bind ?_
  simp only [List.zipIdx_cons, List.zipIdx_nil, List.forIn_cons, List.forIn_nil]
  refine wpAny_bind (wpAny_bind (wpAny_onRaise ?_))
  show wpAny _ _ (Builtin.SmallTypes.nextOf (.ref i1) >>= _) _ _ _
  have h1₁ : IsRangeIter h₁ i1 x left c := hs₁.extBut _ _ D.a3 h1
  rcases hc with hl | ⟨hl, rfl, hen⟩
  · refine wpAny_bind (nx_of (s := { s with heap := h₁ }) ⟨_, h1₁, rfl⟩ PySem.F.slot_range_iterator_next PySem.F.entry_range_iterator_next (PySem.F.args_range_iterator_next_1 _) (rb_end hh h1₁ hl fun h₂ e hk₂ he => ?_))
    obtain ⟨oe, hoe, hce⟩ := he
    have hz₂ : IsZip h₂ z TI TO .ellipsis := hk₂ _ _ hz₁
    have hez : e ≠ z := fun x => by subst x; rw [hz₂] at hoe; cases hoe; simp at hce
    refine wpAny_setField_rec hz₂ (by simp) fun h₃ _ hs₃ => hE h₃ e s.toks (fun _ => N.frame _ _ _ hst fun b hb o e => hs₃.extBut b o (fun h => D.f1 (h ▸ hb)) (hk₂ _ _ (hs₁.extBut b o (fun h => D.f1 (h ▸ hb)) e))) (fun h => by omega) (fun b o c1 _ _ _ x => hs₃.extBut _ _ c1 (hk₂ _ _ (hs₁.extBut _ _ c1 x))) ⟨oe, hs₃.extBut _ _ hez hoe, hce⟩
  · refine wpAny_bind (nx_of (s := { s with heap := h₁ }) ⟨_, h1₁, rfl⟩ PySem.F.slot_range_iterator_next PySem.F.entry_range_iterator_next (PySem.F.args_range_iterator_next_1 _) (rb_item h1₁ hl fun h₂ h1₂ hs₂ => ⟨_, rfl, wpAny_pure ?_⟩))
    have hTO₂ : IsPair h₂ TO a b := hs₂.extBut _ _ D.a6 (hs₁.extBut _ _ D.a2 hTO)
    refine wpAny_bind (wpAny_seqItems hTO₂ rfl ?_)
    refine wpAny_bind (wpAny_updateSeq_pair hTO₂ fun h₃ hTO₃ hs₃ => ?_)
    refine wpAny_bind (wpAny_letGo (wpAny_pure ?_))
    refine wpAny_bind (wpAny_bind (wpAny_onRaise ?_))
    show wpAny _ _ (Builtin.SmallTypes.nextOf (.ref I) >>= _) _ _ _
    have hst₃ : St i h₃ := N.frame _ _ _ hst fun b hb o e => hs₃.extBut b o (fun h => D.f3 (h ▸ hb)) (hs₂.extBut b o (fun h => D.f4 (h ▸ hb)) (hs₁.extBut b o (fun h => D.f1 (h ▸ hb)) e))
    refine wpAny_bind (N.done hen _ _ _ hst₃ fun h₄ e hFn hk₄ he => ?_)
    obtain ⟨oe, hoe, hce⟩ := he
    have hz₄ : IsZip h₄ z TI TO .ellipsis := hk₄ _ _ zw (hs₃.extBut _ _ D.a2.symm (hs₂.extBut _ _ D.a3.symm hz₁))
    have hez : e ≠ z := fun x => by subst x; rw [hz₄] at hoe; cases hoe; simp at hce
    refine wpAny_setField_rec hz₄ (by simp) fun h₅ _ hs₅ => ?_
    exact hE h₅ e (s.toks + 1) (fun h => by omega) (fun _ => N.frameF _ _ hFn fun b hb o e => hs₅.extBut b o (fun h => D.f1 (h ▸ hb)) e) (fun b o c1 c2 c3 c4 x => hs₅.extBut _ _ c1 (hk₄ _ _ c4 (hs₃.extBut _ _ c2 (hs₂.extBut _ _ c3 (hs₁.extBut _ _ c1 x))))) ⟨oe, hs₅.extBut _ _ hez hoe, hce⟩
end
end Mine

end
section
open PySem PySem.W PySem.Calls PyProof.Rows PySem.SeqAt
namespace Mine

section
variable {w : World} {A : Around} {I : Addr} {fp wr : List Addr} {k : Nat} {P : Nat → Value → Prop} {St : Nat → Heap → Prop} {Fn : Heap → Prop} {en : Prop} {z TI TO i1 : Addr}

structure ZSt (St : Nat → Heap → Prop) (z TI TO i1 I : Addr) (f0 : Value) (a c : Int) (m : Nat) (i : Nat) (h : Heap) : Prop where
  hz : IsZip h z TI TO f0
  hTI : IsPair h TI (.ref i1) (.ref I)
  hTO : ∃ a b, IsPair h TO a b
  h1 : IsRangeIter h i1 (a + (i : Nat) * c) ((m : Int) - (i : Nat)) c
  st : St i h

theorem Trn.zip {elts : List Expr} {kk : Nat} {pos : Pos} (hh : A.handled = none) (N : Nx w A.in1 I fp wr k P St Fn en) (D : ZApart z TI TO i1 fp) (a c : Int) (m : Nat) (hen : k < m → en) :
    Trn w A (.Tuple elts kk pos) z (z :: TI :: TO :: i1 :: fp) (z :: TO :: i1 :: wr) (min m k)
      (fun i v h => ∃ T t x, v = .ref T ∧ P i x ∧ IsPair h T (.int (a + (i : Nat) * c) t) x)
      (fun i v h => ∃ T t x, v = .ref T ∧ P i x ∧ IsPair h T (.int (a + (i : Nat) * c) t) x ∧ T ≠ z ∧ ZSt St z TI TO i1 I (rawInt (T : Nat)) a c m (i + 1) h)
      (fun i h => ZSt St z TI TO i1 I .none a c m i h) (fun h => if m ≤ k then St m h else Fn h) where
  sub := fun b hb => by
    simp only [List.mem_cons] at hb ⊢
    rcases hb with rfl | rfl | rfl | hb
    · simp
    · simp
    · simp
    · simp [N.sub _ hb]
  frame := fun i h h' s hk => ⟨hk z (by simp) _ s.hz, hk TI (by simp) _ s.hTI, let ⟨x, y, e⟩ := s.hTO; ⟨x, y, hk TO (by simp) _ e⟩, hk i1 (by simp) _ s.h1, N.frame _ _ _ s.st fun b hb => hk b (by simp [hb])⟩
  frameF := fun h h' s hk => by
    by_cases q : m ≤ k
    · rw [if_pos q] at s ⊢; exact N.frame _ _ _ s fun b hb => hk b (by simp [hb])
    · rw [if_neg q] at s ⊢; exact N.frameF _ _ s fun b hb => hk b (by simp [hb])
  item := fun i s Q E hi hst hQ => by
    obtain ⟨x, y, hTO⟩ := hst.hTO
    have him : i < m := Nat.lt_of_lt_of_le hi (Nat.min_le_left ..)
    have hik : i < k := Nat.lt_of_lt_of_le hi (Nat.min_le_right ..)
    refine pn_of ⟨_, hst.hz, rfl⟩ PySem.F.slot_zip_next PySem.F.entry_zip_next (PySem.F.args_zip_next_1 _) (zb_item N D hst.hz hst.hTI hTO hst.h1 (by omega) hik hst.st fun T v t h' tk hP hz' hTO' h1' hst' hT' hnew frs hk => ⟨_, rfl, ?_⟩)
    have e1 : a + ((i + 1 : Nat) : Int) * c = a + (i : Int) * c + c := by push_cast; rw [Int.add_mul, Int.one_mul, Int.add_assoc]
    have e2 : (m : Int) - ((i + 1 : Nat) : Int) = (m : Int) - (i : Int) - 1 := by push_cast; omega
    refine hQ _ h' tk ⟨T, t, v, rfl, hP, hT', frs _ (by simp), hz', hk _ _ D.a1 D.a4 D.a5 (fun h => D.f2 (N.sub _ h)) hst.hTI, hTO', by rw [e1, e2]; exact h1', hst'⟩ fun b o hb e => hk b o (fun h => hb (by simp [h])) (fun h => hb (by simp [h])) (fun h => hb (by simp [h])) (fun h => hb (by simp [h])) e
  go := fun i v s Q E hm hQ => by
    obtain ⟨T, t, x, rfl, hP, hT, hTz, Z⟩ := hm
    refine wpAny_letOwnedTupleGo_zip Z.hz fun h' hz' hs' => hQ h' ⟨T, t, x, rfl, hP, hs'.extBut _ _ hTz hT⟩ ⟨hz', hs'.extBut _ _ D.a1 Z.hTI, let ⟨p, q, e⟩ := Z.hTO; ⟨p, q, hs'.extBut _ _ D.a2 e⟩, hs'.extBut _ _ D.a3 Z.h1, N.frame _ _ _ Z.st fun b hb o e => hs'.extBut b o (fun h => D.f1 (h ▸ hb)) e⟩
      fun b o hb e => hs'.extBut b o (fun h => hb (by simp [h])) e
  done := fun s Q E hst hQ => by
    obtain ⟨x, y, hTO⟩ := hst.hTO
    refine pn_of ⟨_, hst.hz, rfl⟩ PySem.F.slot_zip_next PySem.F.entry_zip_next (PySem.F.args_zip_next_1 _) (zb_end hh N D hst.hz hst.hTI hTO hst.h1 hst.st ?_ fun h' e tk g1 g2 hk he => ⟨e, rfl, he, hQ h' tk ?_ fun b o hb e => hk b o (fun h => hb (by simp [h])) (fun h => hb (by simp [h])) (fun h => hb (by simp [h])) (fun h => hb (by simp [h])) e⟩)
    · by_cases q : m ≤ k
      · exact .inl (by rw [Nat.min_eq_left q]; omega)
      · exact .inr ⟨by rw [Nat.min_eq_right (by omega)]; omega, Nat.min_eq_right (by omega), hen (by omega)⟩
    · by_cases q : m ≤ k
      · rw [if_pos q]
        have := g1 (by rw [Nat.min_eq_left q]; omega)
        rwa [Nat.min_eq_left q] at this
      · rw [if_neg q]; exact g2 (by rw [Nat.min_eq_right (by omega)]; omega)
  self := fun i s Q E hst hQ => wpAny_pyIter_zip hst.hz hQ
  alive := fun i h s b hb => by
    simp only [List.mem_cons] at hb
    rcases hb with rfl | rfl | rfl | rfl | hb
    · exact ⟨_, s.hz⟩
    · exact ⟨_, s.hTI⟩
    · obtain ⟨_, _, e⟩ := s.hTO; exact ⟨_, e⟩
    · exact ⟨_, s.h1⟩
    · exact N.alive _ _ s.st b hb

/-- a list's iterator at its end gives nothing more -/
theorem walks_ended (hh : A.handled = none) (I : Addr) : Walks PR w A I [I] [I] 0 (fun _ _ => False) (fun _ h => Ended h I) where
  sub := fun _ hb => hb
  frame := fun _ _ _ st hk => let ⟨i, e⟩ := st; ⟨i, hk I (by simp) _ e⟩
  item := fun i s Q E hi => absurd hi (Nat.not_lt_zero _)
  done := fun s Q E st hQ => by
    have hT : s.TypeIs (.ref I) "list_iterator" := let ⟨i, e⟩ := st; ⟨_, e, rfl⟩
    exact pn_of hT slot_listiter_next entry_listiter_next (args_listiter_next _) (lb_ended (by exact hh) st fun h' e k st' => ⟨e, rfl, st', hQ h' s.toks fun b o _ q => k b o q⟩)
  self := fun i s Q E st hQ => by
    obtain ⟨i, e⟩ := st
    have hT : s.TypeIs (.ref I) "list_iterator" := ⟨_, e, rfl⟩
    refine wpAny_pyIter_slot hT slot_listiter_iter (wpAny_call_entry slot_listiter_iter hT entry_listiter_iter ?_ (args_listiter_iter _))
    show wpAny _ _ (ret (.ref I)) _ _ s
    exact wpAny_pure ⟨_, rfl, "list_iterator", _, hT, slot_listiter_next.lookup, hQ⟩
end
end Mine

end
section
open PySem PySem.W PySem.Calls PyProof.Rows PySem.SeqAt
namespace Mine

/-- an iterator that gives itself when it is asked for one -/
def SelfIt (h : Heap) (I : Addr) : Prop := ∀ (prog : Program) (w : World) (A : Around) (Q E : Value → Shared → Prop) (s : Shared), (∀ o, h.get? I = some o → s.heap.get? I = some o) → Q (.ref I) s → wpAny (model prog w) A (pyIter (.ref I)) Q E s
theorem SelfIt.list {h : Heap} {I l : Addr} {i : Nat} (a : LIter h I l i) : SelfIt h I := fun _ _ _ _ _ _ hk q => wpAny_pyIter_listiter (l := l) (i := i) ⟨_, hk _ a, rfl, rfl⟩ q
theorem SelfIt.vals {h : Heap} {I d : Addr} {i n ep : Nat} (a : h.IsValIter I d i n ep) : SelfIt h I := fun _ _ _ _ _ _ hk q => wpAny_pyIter_valiter (a.at hk) q

abbrev zH1 (h : Heap) (a c n : Int) : Heap := h.push { cls := .type "range_iterator", data := .fields #[rawInt a, rawInt n, rawInt c] }
abbrev zH2 (h : Heap) (a c n : Int) (I : Addr) : Heap := (zH1 h a c n).push { cls := .type "tuple", data := .seq #[.ref h.objs.size, .ref I] }
abbrev zH3 (h : Heap) (a c n : Int) (I : Addr) : Heap := (zH2 h a c n I).push { cls := .type "tuple", data := .seq #[.none, .none] }
abbrev zH4 (h : Heap) (a c n : Int) (I : Addr) : Heap := (zH3 h a c n I).push { cls := .type "zip", data := .fields #[.none, .bool false, .bool false, .ref (zH1 h a c n).objs.size, .ref (zH2 h a c n I).objs.size] }

theorem zipn_meets (r I : Addr) (a b c : Int) (t u v : Tok) (hsm : Builtin.Range.small a b c = true) :
    Meets (Builtin.«zip.__new__» ⟨[.type "zip", .ref r, .ref I], []⟩) (fun _ R s => IsRange s.heap r a b c t u v ∧ SelfIt s.heap I ∧
      R (.ok (.ret (.ref (zH3 s.heap a c (Builtin.Range.rangeSize a b c) I).objs.size))) { s with heap := zH4 s.heap a c (Builtin.Range.rangeSize a b c) I }) :=
  .of_wp fun prog w A R s h => by
    obtain ⟨hp, g, d, tk, os⟩ := s; obtain ⟨hr, hI, h⟩ := h
    have hsub := sub_zip
    have hr' : IsRange (Shared.heap ⟨hp, g, d, tk, os⟩) r a b c t u v := hr
    have hI' : ∀ (A : Around) (Q E : Value → Shared → Prop), Q (.ref I) ⟨hp.push { cls := .type "range_iterator", data := .fields #[rawInt a, rawInt (Builtin.Range.rangeSize a b c), rawInt c] }, g, d, tk, os⟩ →
      wpAny (model prog w) A (pyIter (.ref I)) Q E ⟨hp.push { cls := .type "range_iterator", data := .fields #[rawInt a, rawInt (Builtin.Range.rangeSize a b c), rawInt c] }, g, d, tk, os⟩   := fun A Q E q => hI _ _ _ _ _ _ (fun o e => Heap.get?_push_of_some _ e) q
    wp_walk using wpAny_pyIter_range hr' hsm, hI' _ _ _
    exact ⟨_, rfl, h⟩

section
variable {w : World} {A : Around} {E : Value → Shared → Prop} {s : Shared}
theorem call_zipR {r I : Addr} {a b c : Int} {t u v : Tok} {n : Int} {Q : Value → Shared → Prop} (hr : IsRange s.heap r a b c t u v) (hsm : Builtin.Range.small a b c = true) (hn : Builtin.Range.rangeSize a b c = n) (hI : SelfIt s.heap I)
    (h : ∀ z TI TO i1 s', IsZip s'.heap z TI TO .none → IsPair s'.heap TI (.ref i1) (.ref I) → IsPair s'.heap TO .none .none → IsRangeIter s'.heap i1 a n c → TI ≠ z → TO ≠ z → i1 ≠ z → TI ≠ TO → TI ≠ i1 → TO ≠ i1 →
      s.heap.get? z = none → s.heap.get? TI = none → s.heap.get? TO = none → s.heap.get? i1 = none → Ext [] s.heap s'.heap → Rest s s' → Q (.ref z) s') :
    wpAny (MM w) A (call (.type "zip") [.ref r, .ref I]) Q E s := by
  subst hn
  refine callType_new PySem.F.called_zip (by decide) (PySem.F.typeCall_zip_2 _ _) (PySem.F.newCall_zip_2 _ _) (fun obj => PySem.F.args_object_init_3 obj _ _) PySem.F.entry_zip_new (zipn_meets r I a b c t u v hsm) ⟨hr, hI, ?_⟩
  generalize Builtin.Range.rangeSize a b c = n at h ⊢
  have z1 : (zH1 s.heap a c n).objs.size = s.heap.objs.size + 1 := Heap.size_push ..
  have z2 : (zH2 s.heap a c n I).objs.size = s.heap.objs.size + 2 := by rw [Heap.size_push, z1]
  have z3 : (zH3 s.heap a c n I).objs.size = s.heap.objs.size + 3 := by rw [Heap.size_push, z2]
  have g4 : (zH4 s.heap a c n I).get? (zH3 s.heap a c n I).objs.size = some _ := Heap.get?_push_size _ rfl
  have g3 : (zH4 s.heap a c n I).get? (zH2 s.heap a c n I).objs.size = some _ := Heap.get?_push_of_some _ (Heap.get?_push_size _ rfl)
  have g2 : (zH4 s.heap a c n I).get? (zH1 s.heap a c n).objs.size = some _ := Heap.get?_push_of_some _ (Heap.get?_push_of_some _ (Heap.get?_push_size _ rfl))
  have g1 : (zH4 s.heap a c n I).get? s.heap.objs.size = some _ := Heap.get?_push_of_some _ (Heap.get?_push_of_some _ (Heap.get?_push_of_some _ (Heap.get?_push_size _ rfl)))
  have nn : ∀ k, s.heap.get? (s.heap.objs.size + k) = none := fun k => Heap.get?_none_of_le (Nat.le_add_right _ _)
  refine ⟨⟨_, g4, rfl⟩, h _ (zH1 s.heap a c n).objs.size (zH2 s.heap a c n I).objs.size s.heap.objs.size _ g4 g2 g3 g1 ?_ ?_ ?_ ?_ ?_ ?_ ?_ ?_ ?_ ?_ ?_ .heap⟩
  · rw [z1, z3]; exact Nat.ne_of_lt (Nat.add_lt_add_left (by decide) _)
  · rw [z2, z3]; exact Nat.ne_of_lt (Nat.add_lt_add_left (by decide) _)
  · rw [z3]; exact Nat.ne_of_lt (Nat.lt_add_of_pos_right (by decide))
  · rw [z1, z2]; exact Nat.ne_of_lt (Nat.add_lt_add_left (by decide) _)
  · rw [z1]; exact Nat.ne_of_gt (Nat.lt_add_of_pos_right (by decide))
  · rw [z2]; exact Nat.ne_of_gt (Nat.lt_add_of_pos_right (by decide))
  · rw [z3]; exact nn 3
  · rw [z1]; exact nn 1
  · rw [z2]; exact nn 2
  · exact nn 0
  · exact fun b o _ e => Heap.get?_push_of_some _ (Heap.get?_push_of_some _ (Heap.get?_push_of_some _ (Heap.get?_push_of_some _ e)))
end
end Mine

end
section
open PySem PySem.W PySem.Calls PyProof.Rows PySem.SeqAt
namespace Mine

/-- a sort's questions, answered by a table -/
def kasRun {α : Type} (lt : Nat → Nat → Bool) : KasT α → α
  | .ret a => a
  | .ask i j k => kasRun lt (k (lt i j))
def kasOk {α : Type} (n : Nat) (lt : Nat → Nat → Bool) : KasT α → Bool
  | .ret _ => true
  | .ask i j k => decide (i < n) && decide (j < n) && kasOk n lt (k (lt i j))
theorem kas_go {α : Type} {n : Nat} {lt : Nat → Nat → Bool} {cmp : Nat → Nat → (Bool → Shared → Prop) → Shared → Prop} {G : α → Shared → Prop} {s : Shared} (h : ∀ i j, i < n → j < n → ∀ C : Bool → Shared → Prop, C (lt i j) s → cmp i j C s) :
    ∀ t : KasT α, kasOk n lt t = true → G (kasRun lt t) s → t.kasWp cmp G s
  | .ret a, _, g => g
  | .ask i j k, ok, g => by
    simp only [kasOk, Bool.and_eq_true, decide_eq_true_eq] at ok
    exact h i j ok.1.1 ok.1.2 _ (kas_go h (k (lt i j)) ok.2 g)

def srtQ (rs : List Nat) : Array Nat := kasRun (fun i j => ltN (rs.getD i 0) (rs.getD j 0)) (kas_sort rs.length)
def srtP (rs : List Nat) : List Nat := (srtQ rs).toList.map fun i => rs.getD i 0
def srtOk (rs : List Nat) : Bool := kasOk rs.length (fun i j => ltN (rs.getD i 0) (rs.getD j 0)) (kas_sort rs.length) && ((srtQ rs).toList.all fun i => decide (i < rs.length)) && (srtQ rs).size == rs.length

theorem srt_out {item : Nat → Value} {rs : List Nat} (ok : srtOk rs = true) : ((srtQ rs).toList.map fun i => (rs.map item).getD i Value.none) = (srtP rs).map item := by
  simp only [srtOk, Bool.and_eq_true] at ok
  have h := ok.1.2
  rw [List.all_eq_true] at h
  unfold srtP
  rw [List.map_map]
  refine List.map_congr_left fun i hi => ?_
  have hlt : i < rs.length := by simpa using h i hi
  simp [hlt]

def plT (a : Addr) (b : Bool) : Sem PySem.Fin := do
  let items ← Builtin.List.listItems (.ref a)
  Builtin.List.listUpdate (.ref a) fun _ => #[]
  let before ← seqEpoch a
  let held ← newTuple items.toList
  let keyStore ← newList []
  holding [held, keyStore] do
    if b then rule "list.sort.reverse"
    let kind ← if items.size < 2 then pure general' else keyKind' items
    let ((), s) ← (if items.size < 2 then pure () else sortRuns').run (SortSt.mk' kind (if b then (items.zip items).reverse else items.zip items) #[] 7 none)
    let sorted := (arrOf s).map (·.2)
    let touched := (← seqEpoch a) != before
    Builtin.List.listUpdate (.ref a) fun _ => if b then sorted.reverse else sorted
    if let some e := failedOf s then rule "list.sort.comparison-raised"; throw e
    if touched then rule "list.sort.modified"; raiseError "ValueError" "list modified during sort"
    ret .none
theorem pl_rev (a : Addr) (b : Bool) : Builtin.«list.sort» ⟨[.ref a], [(Str.ofString "reverse", .bool b)]⟩ = plT a b := rfl
theorem pl_plain (a : Addr) : Builtin.«list.sort» ⟨[.ref a], []⟩ = plT a false := rfl
theorem args_sort_rev (a v : Value) : argsOk "list.sort" ⟨[a], [(Str.ofString "reverse", v)]⟩ := by unfold argsOk; kernel_rfl

theorem map_rev {α β : Type} (b : Bool) (f : α → β) (l : List α) : katRev b (l.map f) = (katRev b l).map f := by
  cases b with
  | false => rfl
  | true => exact (List.map_reverse ..).symm

/-- the order that a sort makes of its keys -/
structure SortBy (w : World) (A : Around) (h : Heap) (S : List Addr) (κ : SortKind) (ks : List Value) (rs : List Nat) : Prop where
  kind : ∀ (s : Shared) (Q : SortKind → Shared → Prop) (E : Value → Shared → Prop), Ext S h s.heap → Q κ s → wpAny (MM w) A (keyKind' ks.toArray) Q E s
  lt : ∀ i j, i < rs.length → j < rs.length → ∀ (s : Shared) (Q : Bool → Shared → Prop) (E : Value → Shared → Prop), Ext S h s.heap → Q (ltN (rs.getD i 0) (rs.getD j 0)) s → wpAny (MM w) A (keyLt' κ (ks.getD i .none) (ks.getD j .none)) Q E s

section
variable {w : World} {A : Around} {E : Value → Shared → Prop} {s : Shared}

theorem getD_rev {α : Type} {b : Bool} {l : List α} {d : α} {i : Nat} (hi : i < l.length) : (katRev b l).getD i d = l.getD (if b = true then l.length - 1 - i else i) d := by
  cases b with
  | false => rfl
  | true => simp [katRev, List.getD, List.getElem?_reverse hi]
theorem SortBy.rev {h : Heap} {S : List Addr} {κ : SortKind} {ks : List Value} {rs : List Nat} (a : SortBy w A h S κ ks rs) (hl : ks.length = rs.length) (b : Bool) {i j : Nat} (hi : i < rs.length) (hj : j < rs.length) (s : Shared) (Q : Bool → Shared → Prop) (E : Value → Shared → Prop)
    (hx : Ext S h s.heap) (q : Q (ltN ((katRev b rs).getD i 0) ((katRev b rs).getD j 0)) s) : wpAny (MM w) A (keyLt' κ ((katRev b ks).getD i .none) ((katRev b ks).getD j .none)) Q E s := by
  rw [getD_rev hi, getD_rev hj] at q
  rw [getD_rev (hl ▸ hi), getD_rev (hl ▸ hj), hl]
  refine a.lt _ _ ?_ ?_ s Q E hx q
  · cases b <;> simp <;> omega
  · cases b <;> simp <;> omega

theorem plT_spec {D : Addr} {b : Bool} {item : Nat → Value} {rs : List Nat} {ep : Nat} {κ : SortKind} {Q : PySem.Fin → Shared → Prop} (hD : s.heap.get? D = some (listOf (ranked item rs) ep)) (h2 : 2 ≤ rs.length) (h8 : rs.length ≤ 8) (ok : srtOk (katRev b rs) = true)
    (O : SortBy w A s.heap [D] κ (rs.map item) rs)
    (ret : ∀ s' c, Rest s s' → Ext [D] s.heap s'.heap → s'.heap.get? D = some (listOf (ranked item (katRev b (srtP (katRev b rs)))) c) → Q (.done (.ret .none)) s') : wpAny (MM w) A (plT D b) Q E s := by
  have hzl : (rs.map item).length = rs.length := List.length_map ..
  have h1 := get?_update_seq hD fun _ => #[]
  have s1 := Heap.SameBut.update s.heap D (Obj.mapSeq fun _ => (#[] : Array Value))
  have hx : Ext [D] s.heap (((s.heap.update D (Obj.mapSeq fun _ => (#[] : Array Value))).push (seqObj "tuple" (ranked item rs) 0)).push (seqObj "list" #[] 0)) := fun b o hb e => Heap.get?_push_of_some _ (Heap.get?_push_of_some _ ((s1.2 b (by simpa using hb)).trans e))
  have hD3 := Heap.get?_push_of_some (seqObj "list" #[] 0) (Heap.get?_push_of_some (seqObj "tuple" (ranked item rs) 0) h1)
  unfold plT
  refine wpAny_bind (listItems_at hD rfl ?_)
  refine wpAny_bind (listUpdate_at hD rfl ?_ (by simp [sizeLine_eq]; omega) (Nat.zero_le _))
  refine wpAny_bind (seqEpoch_at h1 rfl ?_)
  refine wpAny_bind (wpAny_newTuple ?_ (by simp [sizeLine_eq]; omega))
  refine wpAny_bind (wpAny_newList ?_ (Nat.zero_le _))
  refine wpAny_holding ?_
  have step : ∀ (t : Sem PySem.Fin) (s' : Shared), wpAny (MM w) A t Q E s' → wpAny (MM w) A (if b = true then (do let _ ← rule "list.sort.reverse"; t) else t) Q E s' := by
    intro t s' ht
    split
    · exact wpAny_bind (wpAny_rule ht)
    · exact ht
  refine step _ _ ?_
  have hn2 : ¬ (ranked item rs).size < 2 := by simp; omega
  rw [if_neg hn2, if_neg hn2]
  refine wpAny_bind (O.kind _ _ _ hx ?_)
  have hpairs : (if b = true then ((ranked item rs).zip (ranked item rs)).reverse else (ranked item rs).zip (ranked item rs)) = (List.toArray (katRev b (rs.map item))).zip (List.toArray (katRev b (rs.map item))) := kat_pairs b rfl
  rw [hpairs]
  have hlr : (katRev b rs).length = rs.length := kat_len ..
  refine wpAny_bind (wpAny_mono (kat_run (ks := katRev b (rs.map item)) (vs := katRev b (rs.map item)) (Q := fun st s' => arrOf st = (srtQ (katRev b rs)).map (kas_item ((List.toArray (katRev b (rs.map item))).zip (List.toArray (katRev b (rs.map item))))) ∧ failedOf st = none ∧
      s' = { s with heap := ((s.heap.update D (Obj.mapSeq fun _ => (#[] : Array Value))).push (seqObj "tuple" (ranked item rs) 0)).push (seqObj "list" #[] 0) })
    (G := fun p s' => p = srtQ (katRev b rs) ∧ s' = { s with heap := ((s.heap.update D (Obj.mapSeq fun _ => (#[] : Array Value))).push (seqObj "tuple" (ranked item rs) 0)).push (seqObj "list" #[] 0) }) rfl (by rw [kat_len, hzl]; exact h2) (by rw [kat_len, hzl]; omega)
      (fun p st s' _ a2 a3 a4 => ⟨by rw [a2, a4.1], a3, a4.2⟩) ?_) (fun r s' hr => ?_) fun _ _ e => e)
  · rw [kat_len, hzl]
    refine kas_go (n := rs.length) (lt := fun i j => ltN ((katRev b rs).getD i 0) ((katRev b rs).getD j 0)) (fun i j hi hj C hC => ?_) _ ?_ ⟨?_, rfl⟩
    · exact O.rev hzl b hi hj _ _ _ hx hC
    · simp only [srtOk, Bool.and_eq_true] at ok
      rw [hlr] at ok
      exact ok.1.1
    · unfold srtQ; rw [hlr]
  · obtain ⟨⟨⟩, st⟩ := r
    obtain ⟨har, hf, rfl⟩ := hr
    have hout : (arrOf st).map (·.2) = List.toArray ((srtP (katRev b rs)).map item) := by
      rw [kat_snds rfl har, map_rev, srt_out ok]
    dsimp only
    rw [hout, kat_outs, map_rev]
    have hsz : (srtP (katRev b rs)).length = rs.length := by
      simp only [srtOk, Bool.and_eq_true, beq_iff_eq] at ok
      unfold srtP
      rw [List.length_map, Array.length_toList, ok.2, hlr]
    have s2 := Heap.SameBut.update (((s.heap.update D (Obj.mapSeq fun _ => (#[] : Array Value))).push (seqObj "tuple" (ranked item rs) 0)).push (seqObj "list" #[] 0)) D (Obj.mapSeq fun _ => List.toArray ((katRev b (srtP (katRev b rs))).map item))
    have h2' := get?_update_seq hD3 fun _ => List.toArray ((katRev b (srtP (katRev b rs))).map item)
    refine wpAny_bind (seqEpoch_at hD3 rfl ?_)
    refine wpAny_bind (listUpdate_at hD3 rfl ?_ (Nat.zero_le _) (by simp [sizeLine_eq, kat_len, hsz]; omega))
    rw [hf]
    simp only [bne_self_eq_false, Bool.false_eq_true, if_false]
    exact wpAny_pure (ret _ _ .heap (fun b o hb e => (s2.2 b (by simpa using hb)).trans (hx b o hb e)) h2')
end
end Mine

end
section
open PySem PySem.W PySem.Calls PyProof.Rows PySem.SeqAt
namespace Mine

section
variable {w : World} {A : Around} {E : Value → Shared → Prop} {s : Shared}

/-- the second half of a sort by keys -/
theorem ke_spec {D kS : Addr} {b : Bool} {item : Nat → Value} {rs : List Nat} {ks : List Value} {e e1 : Nat} {κ : SortKind} {Q : PySem.Fin → Shared → Prop} (hD : s.heap.get? D = some (seqObj "list" #[] e1)) (hK : s.heap.get? kS = some (seqObj "list" ks.toArray e)) (hne : D ≠ kS)
    (h2 : 2 ≤ rs.length) (h8 : rs.length ≤ 8) (hl : ks.length = rs.length) (ok : srtOk (katRev b rs) = true) (O : SortBy w A s.heap [] κ ks rs)
    (ret : ∀ s' c, Rest s s' → Ext [D, kS] s.heap s'.heap → s'.heap.get? D = some (listOf (ranked item (katRev b (srtP (katRev b rs)))) c) → Q (.done (.ret .none)) s') : wpAny (MM w) A (ksk_end D b (ranked item rs) e1 (.ref kS) ks.toArray) Q E s := by
  have hzl : (rs.map item).length = rs.length := List.length_map ..
  have step : ∀ (t : Sem PySem.Fin) (s' : Shared), wpAny (MM w) A t Q E s' → wpAny (MM w) A (if b = true then (do let _ ← rule "list.sort.reverse"; t) else t) Q E s' := by
    intro t s' ht
    split
    · exact wpAny_bind (wpAny_rule ht)
    · exact ht
  unfold ksk_end
  dsimp only
  refine step _ _ ?_
  have hn2 : ¬ (ranked item rs).size < 2 := by simp; omega
  rw [if_neg hn2, if_neg hn2]
  refine wpAny_bind (O.kind _ _ _ (.refl _ _) ?_)
  have hpairs : (if b = true then (ks.toArray.zip (ranked item rs)).reverse else ks.toArray.zip (ranked item rs)) = (List.toArray (katRev b ks)).zip (List.toArray (katRev b (rs.map item))) := kat_pairs b (by rw [hl, hzl])
  rw [hpairs]
  have hlr : (katRev b rs).length = rs.length := kat_len ..
  have hll : (katRev b ks).length = (katRev b (rs.map item)).length := by rw [kat_len, kat_len, hl, hzl]
  refine wpAny_bind (wpAny_mono (kat_run (ks := katRev b ks) (vs := katRev b (rs.map item)) (Q := fun st s' => arrOf st = (srtQ (katRev b rs)).map (kas_item ((List.toArray (katRev b ks)).zip (List.toArray (katRev b (rs.map item))))) ∧ failedOf st = none ∧ s' = s)
    (G := fun p s' => p = srtQ (katRev b rs) ∧ s' = s) hll (by rw [kat_len, hzl]; exact h2) (by rw [kat_len, hzl]; omega) (fun p st s' _ a2 a3 a4 => ⟨by rw [a2, a4.1], a3, a4.2⟩) ?_) (fun r s' hr => ?_) fun _ _ e => e)
  · rw [kat_len, hzl]
    refine kas_go (n := rs.length) (lt := fun i j => ltN ((katRev b rs).getD i 0) ((katRev b rs).getD j 0)) (fun i j hi hj C hC => ?_) _ ?_ ⟨?_, rfl⟩
    · exact O.rev hl b hi hj _ _ _ (.refl _ _) hC
    · simp only [srtOk, Bool.and_eq_true] at ok
      rw [hlr] at ok
      exact ok.1.1
    · unfold srtQ; rw [hlr]
  · obtain ⟨⟨⟩, st⟩ := r
    obtain ⟨har, hf, rfl⟩ := hr
    have hout : (arrOf st).map (·.2) = List.toArray ((srtP (katRev b rs)).map item) := by
      rw [kat_snds hll har, map_rev, srt_out ok]
    unfold ksk_tail
    dsimp only
    rw [hout, kat_outs, map_rev]
    have hsz : (srtP (katRev b rs)).length = rs.length := by
      simp only [srtOk, Bool.and_eq_true, beq_iff_eq] at ok
      unfold srtP
      rw [List.length_map, Array.length_toList, ok.2, hlr]
    have s1 := Heap.SameBut.update s'.heap kS (Obj.mapSeq fun _ => (#[] : Array Value))
    have hD1 := (s1.2 D hne).trans hD
    have s2 := Heap.SameBut.update (s'.heap.update kS (Obj.mapSeq fun _ => (#[] : Array Value))) D (Obj.mapSeq fun _ => List.toArray ((katRev b (srtP (katRev b rs))).map item))
    have h2' := get?_update_seq hD1 fun _ => List.toArray ((katRev b (srtP (katRev b rs))).map item)
    refine wpAny_bind (listUpdate_at hK rfl ?_ (by simp [sizeLine_eq]; omega) (Nat.zero_le _))
    refine wpAny_bind (wpAny_letGo ?_)
    refine wpAny_bind (seqEpoch_at hD1 rfl ?_)
    refine wpAny_bind (listUpdate_at hD1 rfl ?_ (Nat.zero_le _) (by simp [sizeLine_eq, kat_len, hsz]; omega))
    rw [hf]
    simp only [bne_self_eq_false, Bool.false_eq_true, if_false]
    exact wpAny_pure (ret _ _ .heap (fun b o hb e => (s2.2 b (fun h => hb (by simp [h]))).trans ((s1.2 b (fun h => hb (by simp [h]))).trans e)) h2')

/-- the keys are made, one by one -/
inductive KeysAt (h : Heap) (is : Nat → List Int) (p : Nat → Str) : List Nat → List Value → Prop
  | nil : KeysAt h is p [] []
  | cons {r : Nat} {k : Addr} {rs : List Nat} {ks : List Value} : KeyAt h k (is r) (p r) → KeysAt h is p rs ks → KeysAt h is p (r :: rs) (.ref k :: ks)
theorem KeysAt.keeps {h h' : Heap} {is : Nat → List Int} {p : Nat → Str} {rs : List Nat} {ks : List Value} (a : KeysAt h is p rs ks) (hk : ∀ b o, (∃ vs, o = tupOf vs) → h.get? b = some o → h'.get? b = some o) : KeysAt h' is p rs ks := by
  induction a with
  | nil => exact .nil
  | cons a _ ih => exact .cons (let ⟨vs, e, q⟩ := a; ⟨vs, hk _ _ ⟨vs, rfl⟩ e, q⟩) ih
theorem KeysAt.snoc {h : Heap} {is : Nat → List Int} {p : Nat → Str} {rs : List Nat} {ks : List Value} {r : Nat} {k : Addr} (a : KeysAt h is p rs ks) (b : KeyAt h k (is r) (p r)) : KeysAt h is p (rs ++ [r]) (ks ++ [.ref k]) := by
  induction a with
  | nil => exact .cons b .nil
  | cons a _ ih => exact .cons a ih
theorem KeysAt.len {h : Heap} {is : Nat → List Int} {p : Nat → Str} {rs : List Nat} {ks : List Value} (a : KeysAt h is p rs ks) : ks.length = rs.length := by
  induction a with
  | nil => rfl
  | cons _ _ ih => simp [ih]

theorem ks_loop {D kS q : Addr} {item : Nat → Value} {is : Nat → List Int} {p : Nat → Str} {all : Array Value} {hb : Heap} {R : Shared → Prop} (hroom : A.depth < recursionLimit) (hkb : hb.get? kS = none)
    (body : Value → PUnit → Sem (ForInStep PUnit)) (hbody : ∀ x (R' : ForInStep PUnit → Shared → Prop) s, wpAny (MM w) A (call (.ref q) [x]) (fun k s' => wpAny (MM w) A (Builtin.List.listUpdate (.ref kS) (·.push k)) (fun _ s'' => R' (.yield ⟨⟩) s'') E s') (fun _ _ => False) s → wpAny (MM w) A (body x ⟨⟩) R' E s) :
    ∀ (rs done : List Nat) (ks : List Value) (e : Nat) (s : Shared), (∀ r ∈ rs, KeySpec w q hb (item r) (is r) (p r)) → s.heap.get? kS = some (seqObj "list" ks.toArray e) → KeysAt s.heap is p done ks → (∀ b o, hb.get? b = some o → s.heap.get? b = some o) → done.length + rs.length ≤ 8 →
      (∀ ks' e' s', s'.heap.get? kS = some (seqObj "list" ks'.toArray e') → KeysAt s'.heap is p (done ++ rs) ks' → Rest s s' → Ext [kS] s.heap s'.heap → R s') →
      wpAny (MM w) A (forIn (rs.map item) PUnit.unit body) (fun _ s' => R s') E s
  | [], done, ks, e, s, _, hK, hA, hs, h8, fin => by
    rw [List.map_nil, List.forIn_nil]
    exact wpAny_pure (fin ks e s hK (by simpa using hA) (.refl _) (.refl _ _))
  | r :: rs, done, ks, e, s, hkey, hK, hA, hs, h8, fin => by
    rw [List.map_cons, List.forIn_cons]
    have hlen := hA.len
    refine wpAny_bind (hbody _ _ _ (hkey r (.head _) _ _ _ _ hs hroom fun k s₁ r₁ x₁ n₁ hk₁ => ?_))
    have hK₁ := x₁.nil _ _ hK
    have up := Heap.SameBut.update s₁.heap kS (Obj.mapSeq (·.push (.ref k)))
    have hK₂ := get?_update_seq hK₁ (·.push (.ref k))
    have hup : ∀ b o, (∃ vs, o = tupOf vs) → s₁.heap.get? b = some o → (s₁.heap.update kS (Obj.mapSeq (·.push (.ref k)))).get? b = some o := fun b o ⟨vs, ho⟩ q => (up.2 b (by rintro rfl; rw [hK₁, ho] at q; injection q with q; injection q with q; simp at q)).trans q
    have hk₂ : KeyAt (s₁.heap.update kS (Obj.mapSeq (·.push (.ref k)))) k (is r) (p r) := let ⟨vs, e, q⟩ := hk₁; ⟨vs, hup _ _ ⟨vs, rfl⟩ e, q⟩
    simp only [List.length_cons] at h8
    refine listUpdate_at hK₁ rfl ?_ (by simp [sizeLine_eq]; omega) (by simp [sizeLine_eq]; omega)
    show wpAny (MM w) A (forIn (rs.map item) PUnit.unit body) _ _ _
    exact ks_loop (D := D) (all := all) hroom hkb body hbody rs (done ++ [r]) (ks ++ [.ref k]) _ { s₁ with heap := s₁.heap.update kS (Obj.mapSeq (·.push (.ref k))) } (fun r' h => hkey r' (.tail _ h)) (by simpa using hK₂)
      (((hA.keeps fun b o _ e => x₁.nil b o e).keeps hup).snoc hk₂) (fun b o e => (up.2 b (by rintro rfl; rw [hkb] at e; cases e)).trans (x₁.nil b o (hs b o e))) (by simp; omega)
      fun ks' e' s' g1 g2 g3 g4 => fin ks' e' s' g1 (by simpa using g2) ((r₁.trans .heap).trans g3) fun b o hb e => g4 b o hb ((up.2 b (by simpa using hb)).trans (x₁.nil b o e))

theorem kt_spec {D q : Addr} {b : Bool} {item : Nat → Value} {is : Nat → List Int} {p : Nat → Str} {rs : List Nat} {ep : Nat} {κ : SortKind} {hb : Heap} {Q : PySem.Fin → Shared → Prop} (hD : s.heap.get? D = some (listOf (ranked item rs) ep)) (hDb : hb.get? D = none) (h2 : 2 ≤ rs.length) (h8 : rs.length ≤ 8)
    (hs : ∀ b o, hb.get? b = some o → s.heap.get? b = some o) (hroom : A.depth < recursionLimit) (hkey : ∀ r ∈ rs, KeySpec w q hb (item r) (is r) (p r)) (ok : srtOk (katRev b rs) = true)
    (O : ∀ h ks, KeysAt h is p rs ks → SortBy w A h [] κ ks rs)
    (ret : ∀ s' c, Rest s s' → Ext [D] s.heap s'.heap → s'.heap.get? D = some (listOf (ranked item (katRev b (srtP (katRev b rs)))) c) → Q (.done (.ret .none)) s') : wpAny (MM w) A (ksk_tree D (.ref q) b) Q E s := by
  have h1 := get?_update_seq hD fun _ => #[]
  have s1 := Heap.SameBut.update s.heap D (Obj.mapSeq fun _ => (#[] : Array Value))
  have hlt : D < s.heap.objs.size := Heap.lt_size hD
  have hkS : ((s.heap.update D (Obj.mapSeq fun _ => (#[] : Array Value))).push (seqObj "tuple" (ranked item rs) 0)).objs.size = s.heap.objs.size + 1 := by rw [size_push', Heap.size_update]
  unfold ksk_tree
  refine wpAny_bind (listItems_at hD rfl ?_)
  refine wpAny_bind (listUpdate_at hD rfl ?_ (by simp [sizeLine_eq]; omega) (Nat.zero_le _))
  refine wpAny_bind (seqEpoch_at h1 rfl ?_)
  refine wpAny_bind (wpAny_newTuple ?_ (by simp [sizeLine_eq]; omega))
  refine wpAny_bind (wpAny_newList ?_ (Nat.zero_le _))
  refine wpAny_holding ?_
  show wpAny (MM w) A (ksk_rest D (.ref q) b (ranked item rs) _ (.ref ((s.heap.update D (Obj.mapSeq fun _ => (#[] : Array Value))).push (seqObj "tuple" (ranked item rs) 0)).objs.size)) Q E { s with heap := ((s.heap.update D (Obj.mapSeq fun _ => (#[] : Array Value))).push (seqObj "tuple" (ranked item rs) 0)).push (seqObj "list" #[] 0) }
  have hK : (((s.heap.update D (Obj.mapSeq fun _ => (#[] : Array Value))).push (seqObj "tuple" (ranked item rs) 0)).push (seqObj "list" #[] 0)).get? ((s.heap.update D (Obj.mapSeq fun _ => (#[] : Array Value))).push (seqObj "tuple" (ranked item rs) 0)).objs.size = some (seqObj "list" #[] 0) := Heap.get?_push_size _ rfl
  have hx : Ext [D] s.heap (((s.heap.update D (Obj.mapSeq fun _ => (#[] : Array Value))).push (seqObj "tuple" (ranked item rs) 0)).push (seqObj "list" #[] 0)) := fun b o hb e => Heap.get?_push_of_some _ (Heap.get?_push_of_some _ ((s1.2 b (by simpa using hb)).trans e))
  have hD3 := Heap.get?_push_of_some (seqObj "list" #[] 0) (Heap.get?_push_of_some (seqObj "tuple" (ranked item rs) 0) h1)
  have hne : D ≠ ((s.heap.update D (Obj.mapSeq fun _ => (#[] : Array Value))).push (seqObj "tuple" (ranked item rs) 0)).objs.size := by rw [hkS]; exact Nat.ne_of_lt (Nat.lt_succ_of_lt hlt)
  have hk0 : s.heap.get? ((s.heap.update D (Obj.mapSeq fun _ => (#[] : Array Value))).push (seqObj "tuple" (ranked item rs) 0)).objs.size = none := Heap.get?_none_of_le (by rw [hkS]; exact Nat.le_succ _)
  generalize ((s.heap.update D (Obj.mapSeq fun _ => (#[] : Array Value))).push (seqObj "tuple" (ranked item rs) 0)).objs.size = kS at *
  generalize ((s.heap.update D (Obj.mapSeq fun _ => (#[] : Array Value))).push (seqObj "tuple" (ranked item rs) 0)).push (seqObj "list" #[] 0) = h3 at *
  have hkb : hb.get? kS = none := by
    cases e : hb.get? kS with
    | none => rfl
    | some o => rw [hs _ _ e] at hk0; cases hk0
  unfold ksk_rest
  refine wpAny_bind (wpAny_rule ?_)
  rw [List.forIn_toArray]
  refine wpAny_bind (ks_loop (D := D) (all := ranked item rs) hroom hkb _ (fun x R' s' h => ?_) rs [] [] 0 _ hkey hK .nil (fun b o e => hx b o (by simp only [List.mem_singleton]; rintro rfl; rw [hDb] at e; cases e) (hs b o e)) (by simpa using h8) fun ks e s' hK' hA r' x' => ?_)
  · refine wpAny_bind (wpAny_attempt (wpAny_mono h (fun k s'' h' => ?_) fun _ _ f => f.elim))
    exact wpAny_bind (wpAny_mono h' (fun _ s3 h3 => wpAny_pure h3) fun _ _ e => e)
  · have hD' := x' D _ (by simpa using hne) hD3
    refine wpAny_bind (listItems_at hK' rfl ?_)
    refine ke_spec hD' hK' hne h2 h8 hA.len ok (O _ _ hA) fun s'' c r'' x'' h'' => ret s'' c (Rest.trans .heap (r'.trans r'')) (fun b o hb e => ?_) h''
    have hbk : b ≠ kS := fun h => by rw [h, hk0] at e; cases e
    have hbD : b ≠ D := by simpa using hb
    exact x'' b o (by simp [hbk, hbD]) (x' b o (by simpa using hbk) (hx b o hb e))
end
end Mine

end
section
open PySem PySem.W PySem.Calls PyProof.Rows PySem.SeqAt
namespace Mine

section
variable {w : World} {A : Around} {E : Value → Shared → Prop} {s : Shared} {b : Bool} {Q : Bool → Shared → Prop}

theorem katRefl : ∀ (xs : List Value) (i : Nat), Q false s → KatLex PR w A b false Q (xs.zip xs) i s
  | [], i, q => kat_nil q
  | x :: xs, i, q => kat_cons (EqAt.same x _ _ _ _ (kat_yes (katRefl xs (i + 1) q)))

theorem katOne {x y : Value} {k : Bool} (h : LtAt A s x y k) (q : Q k s) : wpAny (MM w) A (oneLt' false x y) Q E s := kat_one x y (h _ _ _ _ q)

theorem KV.kat : ∀ {xs ys : List Value} {is js : List Int} {p q : Str}, KV xs is p → KV ys js q → is.length = js.length → keq is p js q = false → ∀ (rest rest' : List Value) (fin : Bool) (i : Nat), (is ≠ [] ∨ i ≠ 0) → Q (klt is p js q) s → KatLex PR w A b fin Q ((xs ++ rest).zip (ys ++ rest')) i s
  | _, _, _, _, _, _, .nil p t, .nil q u, _, hne, rest, rest', fin, i, hi, h => by
    have hi0 : i ≠ 0 := hi.elim (fun x => absurd rfl x) id
    have h2 : (p.cps.toList == q.cps.toList) = false := hne
    refine kat_cons ((h2 ▸ (SeqRoads2.EqGives.str p q t u).at A s) _ _ _ _ (kat_no ?_))
    rw [show (b && i == 0) = false by simp [hi0]]
    exact katOne (LtAt.str p q t u) h
  | _, _, _, _, _, _, .cons i t hx, .cons j u hy, hl, hne, rest, rest', fin, n, hi, h => by
    by_cases e : i = j
    · subst e
      simp only [klt, if_true] at h
      refine kat_cons ((show EqAt A s (.int i t) (.int i u) true by have := EqAt.int_int (A := A) (s := s) i t i u; rwa [beq_self_eq_true] at this) _ _ _ _ (kat_yes ?_))
      exact KV.kat hx hy (by simpa using hl) (by simpa [keq] using hne) rest rest' fin (n + 1) (.inr (Nat.succ_ne_zero _)) h
    · simp only [klt, if_neg e] at h
      refine kat_cons (((beq_eq_false_iff_ne.mpr e) ▸ EqAt.int_int i t j u) _ _ _ _ (kat_no ?_))
      cases (b && n == 0) with
      | true => exact oneLt_int h
      | false => exact katOne (LtAt.int i j t u) h
end

/-- a row: a tuple that opens with a key -/
def RowAt (h : Heap) (v : Value) (is : List Int) (p : Str) (c : Nat) : Prop := ∃ t xs rest, v = .ref t ∧ h.get? t = some (tupOf (xs ++ rest)) ∧ KV xs is p ∧ rest.length = c

section
variable {w : World} {A : Around} {h : Heap} {S : List Addr} {vs : List Value} {rs : List Nat} {is : Nat → List Int} {p : Nat → Str} {n c : Nat}

theorem tup_out (hS : ∀ t us, h.get? t = some (tupOf us) → t ∉ S) {s : Shared} (hx : Ext S h s.heap) {t : Addr} {us : List Value} (e : h.get? t = some (tupOf us)) : s.heap.get? t = some (tupOf us) := hx _ _ (hS t us e) e

theorem nodup_ne {rs : List Nat} (hd : rs.Nodup) {i j : Nat} (hi : i < rs.length) (hj : j < rs.length) (hij : i ≠ j) : rs.getD i 0 ≠ rs.getD j 0 := by
  simp only [List.getD, List.getElem?_eq_getElem hi, List.getElem?_eq_getElem hj, Option.getD_some]
  intro e
  rcases Nat.lt_or_gt_of_ne hij with h | h
  · exact List.pairwise_iff_getElem.mp hd i j hi hj h e
  · exact List.pairwise_iff_getElem.mp hd j i hj hi h e.symm

theorem KV.len {xs : List Value} {is : List Int} {p : Str} (a : KV xs is p) : xs.length = is.length + 1 := by
  induction a with
  | nil => rfl
  | cons _ _ _ ih => simp [ih]
theorem KV.ne {xs : List Value} {is : List Int} {p : Str} (a : KV xs is p) : ∃ x r, xs = x :: r := by cases a <;> exact ⟨_, _, rfl⟩

theorem katT {κs : List Value} : ∀ (vs : List Value) (fs : List Value), vs.length = fs.length → (∀ i, i < vs.length → ∃ t x r, vs.getD i .none = .ref t ∧ h.get? t = some (tupOf (x :: r)) ∧ fs.getD i .none = x) → KatTups h vs fs
  | [], [], _, _ => .nil
  | v :: vs, f :: fs, hl, a => by
    obtain ⟨t, x, r, e1, e2, e3⟩ := a 0 (by simp)
    simp only [List.getD_cons_zero] at e1 e3
    subst e1 e3
    exact .cons e2 rfl rfl rfl (katT (κs := κs) vs fs (by simpa using hl) fun i hi => by simpa using a (i + 1) (by simpa using hi))
  | [], _ :: _, hl, _ => by simp at hl
  | _ :: _, [], hl, _ => by simp at hl

theorem SortBy.rows (KK : Keys n is p) (hr : ∀ r ∈ rs, r < n) (hd : rs.Nodup) (hne : ∀ r, r < n → is r ≠ []) (h0 : 0 < rs.length) (hl : vs.length = rs.length) (hS : ∀ t us, h.get? t = some (tupOf us) → t ∉ S)
    (a : ∀ i, i < rs.length → RowAt h (vs.getD i .none) (is (rs.getD i 0)) (p (rs.getD i 0)) c) : SortBy w A h S (tuples' true) vs rs where
  kind := fun s Q E hx q => by
    have hget : ∀ i, i < rs.length → rs.getD i 0 < n := fun i hi => hr _ (by simp [List.getD, List.getElem?_eq_getElem hi])
    let fs : List Value := (List.range vs.length).map fun i => match vs.getD i .none with
      | .ref t => match s.heap.get? t with
        | some ⟨_, _, .seq xs _, _⟩ => xs.toList.headD .none
        | _ => .none
      | _ => .none
    have hf : ∀ i, i < rs.length → ∃ t j u r, vs.getD i .none = .ref t ∧ s.heap.get? t = some (tupOf (.int j u :: r)) ∧ fs.getD i .none = .int j u := fun i hi => by
      obtain ⟨t, xs, rest, e1, e2, e3, e4⟩ := a i hi
      have e2' := tup_out hS hx e2
      have hnz := hne _ (hget i hi)
      generalize is (rs.getD i 0) = is' at e3 hnz
      cases e3 with
      | nil => exact absurd rfl hnz
      | cons j u e3 =>
        refine ⟨t, j, u, _, e1, e2', ?_⟩
        have : i < vs.length := hl ▸ hi
        simp [fs, List.getD, this]
        simp [List.getD, this] at e1
        rw [e1]
        simp [e2']
    have hfl : fs.length = vs.length := by simp [fs]
    refine kat_kind (vs := vs) (fs := fs) (T := .type "int") (katT (κs := []) vs fs hfl.symm fun i hi => ?_) (by rw [hfl, hl]; exact h0) (fun v hv => ?_) (by decide) q
    · obtain ⟨t, j, u, r, e1, e2, e3⟩ := hf i (hl ▸ hi)
      exact ⟨t, _, r, e1, e2, e3⟩
    · obtain ⟨i, hi, rfl⟩ := List.getElem_of_mem hv
      obtain ⟨t, j, u, r, e1, e2, e3⟩ := hf i (by rw [← hl, ← hfl]; exact hi)
      have : fs[i] = .int j u := by rw [← e3]; simp [hi]
      rw [this]
      exact Looks.of_pure rfl
  lt := fun i j hi hj s Q E hx q => by
    have hget : ∀ i, i < rs.length → rs.getD i 0 < n := fun i hi => hr _ (by simp [List.getD, List.getElem?_eq_getElem hi])
    obtain ⟨t, xs, rest, e1, e2, e3, e4⟩ := a i hi
    obtain ⟨t', xs', rest', f1, f2, f3, f4⟩ := a j hj
    have e2' := tup_out hS hx e2
    have f2' := tup_out hS hx f2
    rw [e1, f1]
    by_cases hij : i = j
    · subst hij
      rw [e1] at f1
      cases f1
      rw [show ltN (rs.getD i 0) (rs.getD i 0) = false by simp [ltN]] at q
      refine kat_lt e2' rfl e2' rfl ?_
      rw [show decide ((xs ++ rest).toArray.size < (xs ++ rest).toArray.size) = false by simp]
      exact katRefl _ 0 q
    · have hrn := nodup_ne hd hi hj hij
      rw [← KK.lt _ _ (hget i hi) (hget j hj)] at q
      exact kat_lt e2' rfl f2' rfl (KV.kat e3 f3 (KK.len _ _ (hget i hi) (hget j hj)) (KK.ne _ _ (hget i hi) (hget j hj) hrn) rest rest' _ 0 (.inl (hne _ (hget i hi))) q)
end
end Mine

end
section
open PySem PySem.W PySem.Calls PyProof.Rows PySem.SeqAt
namespace Mine

section
variable {w : World} {A : Around} {h : Heap} {S : List Addr} {vs : List Value} {rs : List Nat} {is : Nat → List Int} {p : Nat → Str} {n c : Nat}

theorem KeysAt.get {rs : List Nat} {ks : List Value} (a : KeysAt h is p rs ks) : ∀ i, i < rs.length → RowAt h (ks.getD i .none) (is (rs.getD i 0)) (p (rs.getD i 0)) 0 := by
  induction a with
  | nil => intro i hi; simp at hi
  | cons a _ ih =>
    intro i hi
    cases i with
    | zero => obtain ⟨vs, e, q⟩ := a; exact ⟨_, vs, [], rfl, by simpa using e, q, rfl⟩
    | succ i => simpa using ih i (by simpa using hi)
theorem SortBy.keys {ks : List Value} (KK : Keys n is p) (hr : ∀ r ∈ rs, r < n) (hd : rs.Nodup) (hne : ∀ r, r < n → is r ≠ []) (h0 : 0 < rs.length) (a : KeysAt h is p rs ks) : SortBy w A h [] (tuples' true) ks rs :=
  .rows KK hr hd hne h0 a.len (fun _ _ _ q => nomatch q) a.get

theorem SortBy.items {item : Nat → Value} (hu : A.units + 4 < cLine) (KK : Keys n is p) (hr : ∀ r ∈ rs, r < n) (hd : rs.Nodup) (h0 : 0 < rs.length) (hS : ∀ t us, h.get? t = some (tupOf us) → t ∉ S)
    (a : ∀ r ∈ rs, ItemAt h (item r) (is r) (p r) c) : SortBy w A h S (tuples' false) (rs.map item) rs where
  kind := fun s Q E hx q => by
    let fs : List Value := rs.map fun r => match item r with
      | .ref t => match s.heap.get? t with
        | some ⟨_, _, .seq xs _, _⟩ => xs.toList.headD .none
        | _ => .none
      | _ => .none
    have hf : ∀ r ∈ rs, ∃ t kt rest, item r = .ref t ∧ s.heap.get? t = some (tupOf (.ref kt :: rest)) ∧ (∃ us, s.heap.get? kt = some (tupOf us)) := fun r hr' => by
      obtain ⟨t, kt, rest, e1, e2, ⟨us, e3, _⟩, e4⟩ := a r hr'
      exact ⟨t, kt, rest, e1, tup_out hS hx e2, us, tup_out hS hx e3⟩
    have hf2 : ∀ r ∈ rs, ∀ t kt rest, item r = .ref t → s.heap.get? t = some (tupOf (.ref kt :: rest)) → (match item r with
      | .ref t => match s.heap.get? t with
        | some ⟨_, _, .seq xs _, _⟩ => xs.toList.headD .none
        | _ => .none
      | _ => .none : Value) = .ref kt := fun r _ t kt rest e1 e2 => by rw [e1]; simp [e2]
    refine kat_kind (vs := rs.map item) (fs := fs) (T := .type "tuple") (katT (κs := []) _ fs (by simp [fs]) fun i hi => ?_) (by simpa [fs] using h0) (fun v hv => ?_) (by decide) q
    · have hi' : i < rs.length := by simpa using hi
      obtain ⟨t, kt, rest, e1, e2, _⟩ := hf rs[i] (List.getElem_mem hi')
      refine ⟨t, .ref kt, rest, by simpa [List.getD, hi'] using e1, e2, ?_⟩
      simpa [fs, List.getD, hi'] using hf2 _ (List.getElem_mem hi') t kt rest e1 e2
    · obtain ⟨r, hr', rfl⟩ := List.mem_map.mp hv
      obtain ⟨t, kt, rest, e1, e2, us, e3⟩ := hf r hr'
      rw [hf2 r hr' t kt rest e1 e2]
      exact (Looks.ld e3).andThen .now
  lt := fun i j hi hj s Q E hx q => by
    have hm : ∀ i, i < rs.length → rs.getD i 0 ∈ rs := fun i hi => by simp [List.getD, List.getElem?_eq_getElem hi]
    have hv : ∀ i, i < rs.length → (rs.map item).getD i .none = item (rs.getD i 0) := fun i hi => by simp [hi]
    rw [hv i hi, hv j hj]
    obtain ⟨t, kt, rest, e1, e2, e3, e4⟩ := a _ (hm i hi)
    obtain ⟨t', kt', rest', f1, f2, f3, f4⟩ := a _ (hm j hj)
    have e2' := tup_out hS hx e2
    have f2' := tup_out hS hx f2
    rw [e1, f1]
    by_cases hij : i = j
    · subst hij
      rw [e1] at f1
      cases f1
      rw [show ltN (rs.getD i 0) (rs.getD i 0) = false by simp [ltN]] at q
      refine kat_lt e2' rfl e2' rfl ?_
      rw [show decide ((Value.ref kt :: rest).toArray.size < (Value.ref kt :: rest).toArray.size) = false by simp]
      exact katRefl _ 0 q
    · have hrn := nodup_ne hd hi hj hij
      have hin := hr _ (hm i hi)
      have hjn := hr _ (hm j hj)
      have e3' : KeyAt s.heap kt _ _ := let ⟨us, g1, g2⟩ := e3; ⟨us, tup_out hS hx g1, g2⟩
      have f3' : KeyAt s.heap kt' _ _ := let ⟨us, g1, g2⟩ := f3; ⟨us, tup_out hS hx g1, g2⟩
      have hne : kt ≠ kt' := by
        rintro rfl
        obtain ⟨vs, g1, g2⟩ := e3
        obtain ⟨us, g3, g4⟩ := f3
        rw [g1] at g3
        have : vs = us := by injection g3 with g3; injection g3 with _ _ g3; injection g3 with g3; simpa using g3
        subst this
        have h1 := KK.ne _ _ hin hjn hrn
        have : ∀ {vs : List Value} {is js : List Int} {p q : Str}, KV vs is p → KV vs js q → keq is p js q = true := by
          intro vs is js p q a
          induction a generalizing js with
          | nil p t => intro b; cases b; simp [keq]
          | cons i t a ih => intro b; cases b with | cons _ _ b => simp [keq, ih b]
        rw [this g2 g4] at h1
        cases h1
      have he := KeyAt.eq (A := A) e3' f3' hne (KK.len _ _ hin hjn) (by omega)
      rw [KK.ne _ _ hin hjn hrn] at he
      have hlt := KeyAt.lt (A := A) e3' f3' (KK.len _ _ hin hjn) (by omega)
      rw [KK.lt _ _ hin hjn] at hlt
      exact kat_lt e2' rfl f2' rfl (kat_cons (he _ _ _ _ (kat_no (katOne hlt q))))
end

/-- the orders of up to five things -/
def permsOf : Nat → List (List Nat)
  | 0 => [[]]
  | n + 1 => (permsOf n).flatMap fun l => (List.range (n + 1)).map fun i => l.take i ++ [n] ++ l.drop i
def sortsAll (n : Nat) : Bool := (permsOf n).all fun rs => srtOk rs && (srtP rs == List.range n)
theorem sorts2 : sortsAll 2 = true := by decide +kernel
theorem sorts3 : sortsAll 3 = true := by decide +kernel
theorem sorts4 : sortsAll 4 = true := by decide +kernel
theorem sorts5 : sortsAll 5 = true := by decide +kernel
end Mine

end
section
open PySem PySem.W PySem.Calls PyProof.Rows PySem.SeqAt
namespace Mine

section
variable {prog : Program} {w : World} {A : Around} {E : Value → Shared → Prop} {s : Shared}

theorem noLen_listiter : typeLookup (.type "list_iterator") "__len__" = pure none := by rw [typeLookup_type, builtinLookup_eq_fast]; kernel_rfl
/-- len of a list's iterator raises -/
theorem len_raises {I : Addr} {Q : Value → Shared → Prop} (hT : s.TypeIs (.ref I) "list_iterator") (hh : A.handled = none)
    (hE : ∀ h' tk e, Heap.NewExc s.heap h' e "TypeError" → E (.ref e) { s with heap := h', toks := tk }) : wpAny (model prog w) A (call (.builtin "len") [.ref I]) Q E s := by
  refine call_function_entry kind_len plain_len entry_len (args_len1 _) ?_
  unfold Builtin.«len»
  refine wpAny_bind (m := oneArg "len" _) (wpAny_pure ?_)
  refine wpAny_bind (m := callSpecial? (.ref I) (Str.ofString "__len__")) (wpAny_callSpecial?_none hT noLen_listiter ?_)
  refine wpAny_bind (wpAny_rule ?_)
  refine wpAny_bind (wpAny_typeNameOf' hT (h := ?_))
  exact_raiseError plainExc_TypeError (by exact hh) hE

/-- the clause «except (TypeError, AttributeError)» -/
theorem exc_two {e t : Addr} {Q : Bool → Shared → Prop} (hX : s.TypeIs (.ref e) "TypeError") (ht : s.heap.IsTuple t #[.type "TypeError", .type "AttributeError"]) (h : Q true s) : wpAny (model prog w) A (excMatches (.ref e) (.ref t)) Q E s := by
  obtain ⟨o, ho, hc, n, hd⟩ := ht
  have hT : s.TypeIs (.ref t) "tuple" := ⟨o, ho, hc⟩
  unfold excMatches
  refine wpAny_bind (wpAny_isInstance (v := .ref t) (T := "tuple") (b := true) hT (by rw [isSubtype_type]; kernel_rfl) ?_)
  simp only [if_true]
  refine wpAny_bind (wpAny_seqItems ho hd (wpAny_bind (wpAny_pure ?_)))
  have e1 : isExcClass (.type "TypeError") = pure true := by first | rfl | kernel_rfl
  have e2 : isExcClass (.type "AttributeError") = pure true := by first | rfl | kernel_rfl
  have e3 : isSubtype (.type "TypeError") (.type "TypeError") = pure true := by rw [isSubtype_type]; kernel_rfl
  simp only [Option.getD_some, List.forIn_cons, List.forIn_nil]
  refine wpAny_bind (wpAny_bind ?_)
  refine wpAny_bind (wpAny_of_eq e1 ?_)
  simp only [Bool.not_true, Bool.false_eq_true, if_false]
  refine wpAny_pure (wpAny_bind ?_)
  refine wpAny_bind (wpAny_of_eq e2 ?_)
  simp only [Bool.not_true, Bool.false_eq_true, if_false]
  refine wpAny_pure (wpAny_pure ?_)
  refine wpAny_bind (wpAny_typeOf hX ?_)
  refine wpAny_bind (wpAny_bind (wpAny_bind (wpAny_of_eq e3 ?_)))
  simp only [if_true]
  exact wpAny_pure (wpAny_pure (wpAny_pure h))
end
end Mine

end
section
open PySem PySem.W PySem.Calls PyProof.Rows PySem.SeqAt
namespace Mine

/-- the frames below: function frames that stand -/
def OutF (h : Heap) : List Env → Prop
  | [] => True
  | env :: rest => env.scope.kind ≠ .module ∧ (∃ L o, env.frame = some L ∧ h.get? L = some o ∧ ∀ vs, o.data ≠ .fields vs) ∧ OutF h rest
theorem OutF.fun {h : Heap} {F : List Addr} : ∀ {l : List Env}, OutF h l → (∀ b ∈ l.filterMap (·.frame), b ∈ F) → h.FunFrames (hideAll h F) l
  | [], _, _ => trivial
  | env :: rest, ⟨k, ⟨L, o, hf, ho, hd⟩, r⟩, hF => by
    rw [List.filterMap_cons, hf] at hF
    exact ⟨k, ⟨L, o, hf, hideAll_none _ (hF L (.head _)), ho, hd⟩, OutF.fun r fun b hb => hF b (.tail _ hb)⟩
theorem OutF.mono {h h' : Heap} : ∀ {l : List Env}, OutF h l → (∀ b o, h.get? b = some o → (∀ vs, o.data ≠ .fields vs) → ∃ o', h'.get? b = some o' ∧ o'.data = o.data) → OutF h' l
  | [], _, _ => trivial
  | env :: rest, ⟨k, ⟨L, o, hf, ho, hd⟩, r⟩, hk => by
    obtain ⟨o', ho', hd'⟩ := hk L o ho hd
    exact ⟨k, ⟨L, o', hf, ho', fun vs => hd' ▸ hd vs⟩, r.mono hk⟩

/-- all but the frames F stays, and the frames keep their data -/
structure ExtF (F : List Addr) (h h' : Heap) : Prop where
  ext : Ext F h h'
  slots : ∀ b o, h.get? b = some o → (∀ vs, o.data ≠ .fields vs) → ∃ sl, h'.get? b = some { o with slots := sl }
theorem ExtF.refl (F : List Addr) (h : Heap) : ExtF F h h := ⟨.refl _ _, fun b o e _ => ⟨o.slots, e⟩⟩
theorem ExtF.trans {F : List Addr} {a b c : Heap} (x : ExtF F a b) (y : ExtF F b c) : ExtF F a c :=
  ⟨x.ext.trans y.ext, fun d o e n => let ⟨_, e₁⟩ := x.slots d o e n; let ⟨sl, e₂⟩ := y.slots d _ e₁ n; ⟨sl, e₂⟩⟩
theorem ExtF.of {F : List Addr} {h h' : Heap} (k : ∀ b o, h.get? b = some o → h'.get? b = some o) : ExtF F h h' := ⟨fun b o _ e => k b o e, fun b o e _ => ⟨o.slots, k b o e⟩⟩
theorem ExtF.ns {F : List Addr} {h h' : Heap} {a : Addr} {m : Str → Option Value} (x : ExtF F h h') (hn : h.Ns a m) : h'.Ns a m := Heap.UpToSlots.ns (h := h) (fun b o e n => x.slots b o e n) hn

section
variable {w : World} {A : Around} {E : Value → Shared → Prop} {env : Env} {s : Shared} {L : Addr} {outer : List Env}

/-- an exception made here is noted and comes to rest -/
theorem note_land {e : Addr} {h' : Heap} {tk : Nat} {cls : String} {F : List Addr} {Q : Unit → Shared → Prop} (hfr : A.frames = some (env :: outer)) (hf : env.frame = some L) (hO : OutF s.heap (env :: outer)) (hF : ∀ b ∈ (env :: outer).filterMap (·.frame), b ∈ F) (X : Heap.NewExc s.heap h' e cls)
    (h : ∀ h'' a0, Heap.FlyingW (hideAll s.heap F) (env :: outer) e (.type cls) a0 h'' → s.heap.UpToSlots h'' → Q () { s with heap := h'', toks := tk }) :
    wpAny (MM w) A (noteFrame (.ref e) env) (fun _ s₂ => wpAny (MM w) A (setFlight (.ref e) none) Q E s₂) E { s with heap := h', toks := tk } := by
  obtain ⟨ob, t, he, hc, hd⟩ := X.there
  have hfun : h'.FunFrames (hideAll s.heap F) (env :: outer) := (hO.fun hF).of_keeps fun b o e _ => ⟨o, X.keeps b o e, rfl⟩
  have hkb : (hideAll s.heap F).StaysIn h' := fun b o q => X.keeps b o (of_hideAll _ q)
  have hen : (hideAll s.heap F).get? e = none := by
    cases q : (hideAll s.heap F).get? e with
    | none => rfl
    | some o => have := of_hideAll _ q; rw [X.new] at this; cases this
  unfold noteFrame
  simp only [hf]
  refine wpAny_bind (wpAny_field he hd (x := .none) rfl ?_)
  rw [if_neg (by decide)]
  refine wpAny_entryW (s := { s with heap := h', toks := tk }) (base := hideAll s.heap F) hfr hfun hf he hkb hen hd (by simp) (a0 := t) rfl fun h₂ N => ?_
  obtain ⟨n1, n2, n3, n4⟩ := N
  rw [hc] at n3
  refine wpAny_landsW (s := { s with heap := h₂, toks := tk }) ⟨n1, hen, n2, n3⟩ fun h₃ fl us => h h₃ t fl fun b o q nf => ?_
  obtain ⟨sl, q2⟩ := n4 b o (X.keeps b o q) nf
  obtain ⟨sl', q3⟩ := us b _ q2 nf
  exact ⟨sl', q3⟩
theorem land_again {e : Addr} {base : Heap} {l : List Env} {cls a0 : Value} {Q : Unit → Shared → Prop} (hfl : Heap.FlyingW base l e cls a0 s.heap)
    (h : ∀ h', Heap.FlyingW base l e cls a0 h' → s.heap.UpToSlots h' → Q () { s with heap := h' }) : wpAny (MM w) A (setFlight (.ref e) none) Q E s := by
  obtain ⟨f1, f2, f3, f4⟩ := hfl
  exact wpAny_setFlight_noneW f1 f3 (fl := .none) f4 fun h' k1 k2 k3 k4 => h h' ⟨k1, f2, k2, k3⟩ fun b o hb hn => ⟨o.slots, k4 b o hb hn⟩
theorem fly_keeps {e : Addr} {base h h' : Heap} {l : List Env} {cls a0 : Value} (hfl : Heap.FlyingW base l e cls a0 h) (k : ∀ b o, h.get? b = some o → h'.get? b = some o) : Heap.FlyingW base l e cls a0 h' := by
  obtain ⟨f1, f2, f3, oe, vs, T, oT, ts, he, hcls, hd, h1, hnT, hTe, hT, hdT, h3⟩ := hfl
  exact ⟨fun b o q => k b o (f1 b o q), f2, f3.of_keeps fun b o q _ => ⟨o, k b o q, rfl⟩, oe, vs, T, oT, ts, k _ _ he, hcls, hd, h1, hnT, hTe, k _ _ hT, hdT, h3⟩
theorem fly_ext {e : Addr} {F : List Addr} {h' : Heap} {l : List Env} {cls a0 : Value} (hfl : Heap.FlyingW (hideAll s.heap F) l e cls a0 h') (us : s.heap.UpToSlots h') : ExtF F s.heap h' :=
  ⟨fun b o n q => hfl.1 b o (hideAll_get _ q n), fun b o q n => us b o q n⟩
end
end Mine

end
section
open PySem PySem.W PySem.Calls PyProof.Rows PySem.SeqAt
namespace Mine

section
variable {w : World} {A : Around} {E : Value → Shared → Prop} {env : Env} {h₀ : Heap} {L : Addr} {s₀ s : Shared} {news : List (Addr × Obj)} {m : Str → Option Value} {rest orelse : List Stmt} {Q : Flow → Shared → Prop} {outer : List Env} {e₁ : Expr} {x : Str} {px p1 pc pa q1 q2 qt qp qh pt : Pos} {k : Nat} {I : Addr}

/-- what the frames' marking leaves of a frame and its ledger -/
theorem Fm.extF {s' : Shared} {F : List Addr} (Z : Fm h₀ L s₀ news m s) (r : Rest s s') (x : ExtF F s.heap s'.heap) (h0 : ∀ b ∈ F, h₀.get? b = none) (hn : ∀ p ∈ news, p.1 ∉ F) : Fm h₀ L s₀ news m s' :=
  ⟨x.ns Z.ns, fun b o e => x.ext b o (fun hb => by rw [h0 b hb] at e; cases e) (Z.keep b o e), Z.off, fun p hp => ⟨x.ext _ _ (hn p hp) (Z.nw p hp).1, (Z.nw p hp).2⟩, Z.rest.trans r⟩

set_option maxHeartbeats 4000000 in
/-- «try: x = len(it) / except (TypeError, AttributeError): pass / else: ..» where it is a list's iterator -/
theorem s_tryIter (G : Gd w h₀) (Z : Fm h₀ L s₀ news m s) (hh : A.handled = none) (hfr : A.frames = some (env :: outer)) (hO : OutF s.heap outer) (h0 : ∀ b ∈ outer.filterMap (·.frame), h₀.get? b = none) (hn : ∀ p ∈ news, p.1 ∉ outer.filterMap (·.frame))
    (a : EvV w A env s.heap e₁ (.ref I)) (hT : s.TypeIs (.ref I) "list_iterator")
    (h : ∀ s', Fm h₀ L s₀ news m s' → ExtF (L :: outer.filterMap (·.frame)) s.heap s'.heap → wpAny (MM w) A (execs rest env) Q E s')
    (n1 : nsIn (K w.params) mainGlobals "len" = some none := by k_is) (n2 : nsIn (K w.params) mainGlobals "TypeError" = some none := by k_is) (n3 : nsIn (K w.params) mainGlobals "AttributeError" = some none := by k_is)
    (hf : env.frame = some L := by rfl) (hg : env.globals = mainGlobals := by rfl) (hb : env.builtins = builtinsNs := by rfl) (hk : env.scope.kind = .function := by rfl)
    (x1 : env.kindOf "len" = some .globalImplicit := by rfl) (x2 : env.kindOf "TypeError" = some .globalImplicit := by rfl) (x3 : env.kindOf "AttributeError" = some .globalImplicit := by rfl)
    (he : starEach [e₁] env = [(false, eval e₁ env)] := by rfl) (hs : swapsWith (.Call (.Name "len" p1) [e₁] [] pc) (some (.Name x px)) pa.line env = pure false := by rfl) :
    wpAny (MM w) A (execs (.Try [.Assign [.Name x px] (.Call (.Name "len" p1) [e₁] [] pc) pa] [.ExceptHandler (some (.Tuple [.Name "TypeError" q1, .Name "AttributeError" q2] k qt)) none [.Pass qp] qh] orelse [] pt :: rest) env) Q E s := by
  refine xs_cons (wpAny_Try_except (xs_cons (wpAny_Assign_Name ?_ hs)))
  refine callP1 (f := .builtin "len") (EvV.bltN G Z.keep n1 (hg := hg) (hb := hb) (hk := hk) (hx := x1)) .blt a (fun v s₁ hv h₁ r₁ => ?_) he
  subst hv
  have Z₁ := Z.touch h₁ r₁
  refine len_raises (by simpa [Shared.TypeIs, h₁] using hT) hh fun h' tk e X => ?_
  have hOe : OutF s₁.heap (env :: outer) := by
    obtain ⟨oL, es, ep, hL, hd, _⟩ := Z₁.ns
    exact ⟨by rw [hk]; decide, ⟨L, oL, hf, hL, fun vs q => by rw [hd] at q; cases q⟩, h₁ ▸ hO⟩
  have hFe : ∀ b ∈ (env :: outer).filterMap (·.frame), b ∈ L :: outer.filterMap (·.frame) := fun b hb => by
    rw [List.filterMap_cons, hf] at hb; exact hb
  refine note_land (w := w) (L := L) (F := L :: outer.filterMap (·.frame)) hfr hf hOe hFe X fun h₂ a0 fl us => ?_
  have hF0 : ∀ b ∈ L :: outer.filterMap (·.frame), h₀.get? b = none := fun b hb => by
    rcases List.mem_cons.mp hb with rfl | hb
    · exact Z.off
    · exact h0 b hb
  have hnF : ∀ p ∈ news, p.1 ∉ L :: outer.filterMap (·.frame) := fun p hp hb => by
    rcases List.mem_cons.mp hb with q | hb
    · exact (Z.nw p hp).2.1 q
    · exact hn p hp hb
  have Z₂ : Fm h₀ L s₀ news m { s₁ with heap := h₂, toks := tk } := Z₁.extF .heap (fly_ext fl us) hF0 hnF
  refine wpAny_handleBy_cons (codeAny_handlers_test ?_) (by intro q; cases q)
  refine wpAny_Tuple ((EvL.cons (EvV.bltN (v := .type "TypeError") G Z₂.keep n2 (hg := hg) (hb := hb) (hk := hk) (hx := x2)) (EvL.cons (EvV.bltN (v := .type "AttributeError") G Z₂.keep n3 (hg := hg) (hb := hb) (hk := hk) (hx := x3)) .nil)) _ _ _ _ rfl fun vs s₃ hv h₃ r₃ => ⟨?_, ?_⟩)
  · obtain ⟨_, _, rfl, rfl, _, _, rfl, rfl, rfl⟩ := hv
    rw [sizeLine_eq]; decide
  obtain ⟨_, _, rfl, rfl, _, _, rfl, rfl, rfl⟩ := hv
  have k₃ : ∀ b o, h₂.get? b = some o → (s₃.heap.push (tupOf [.type "TypeError", .type "AttributeError"])).get? b = some o := fun b o q => Heap.get?_push_of_some _ (h₃ ▸ q)
  have fl₃ := fly_keeps fl k₃
  have hX : Shared.TypeIs { s₃ with heap := s₃.heap.push (tupOf [.type "TypeError", .type "AttributeError"]) } (.ref e) "TypeError" := fl₃.there
  refine exc_two (s := { s₃ with heap := s₃.heap.push (tupOf [.type "TypeError", .type "AttributeError"]) }) hX ⟨_, Heap.get?_push_size _ rfl, rfl, 0, rfl⟩ ?_
  refine codeAny_handlers_suite (land_again (s := { s₃ with heap := s₃.heap.push (tupOf [.type "TypeError", .type "AttributeError"]) }) fl₃ fun h₄ fl₄ us₄ => ?_)
  refine wpAny_execs_cons (wpAny_Pass (wpAny_execs_nil ?_))
  have x₄ : ExtF (L :: outer.filterMap (·.frame)) s₁.heap h₄ := ⟨fun b o nb q => fl₄.1 b o (hideAll_get _ q nb), fun b o q nf => by
    obtain ⟨sl, q2⟩ := us b o q nf
    obtain ⟨sl', q3⟩ := us₄ b _ (k₃ _ _ q2) nf
    exact ⟨sl', q3⟩⟩
  exact h _ (Z₁.extF (Rest.trans (Rest.trans (b := { s₁ with heap := h₂, toks := tk }) .heap r₃) .heap) x₄ hF0 hnF) (h₁ ▸ x₄)
end
end Mine

end
section
open PySem PySem.W PySem.Calls PyProof.Rows PySem.SeqAt
namespace Mine

section
variable {w : World} {A : Around} {E : Value → Shared → Prop} {s : Shared}
  {name qual : Str} {params : Arguments} {body : List Stmt} {scope : Scope} {dV kV doc pm cdv ct oc : Value} {an od : Option Addr} {osl : Array (Option Value)} {f : Addr} {pos : List Value} {kw : List (Str × Value)} {binds : List (Str × Value)} {Q : Value → Shared → Prop}
/-- a call of a def, its frames told -/
theorem callFrc {h₀ : Heap} (G : Gd w h₀) (hk₀ : ∀ b o, h₀.get? b = some o → s.heap.get? b = some o) (mu : List (Addr × Obj)) (hm : ∀ p ∈ mu, s.heap.get? p.1 = some p.2 ∧ h₀.get? p.1 = none)
    (ho : (K w.params).lookup f = some ⟨oc, od, .func (fnOf name qual params body scope dV kV doc pm an cdv ct), osl⟩) (hcd : codeIn (K w.params) cdv qual = true) (hroom : A.depth < recursionLimit)
    (hbind : BindsTo s (fnOf name qual params body scope dV kV doc pm an cdv ct) ⟨pos, kw⟩ binds) (hloc : (binds.all fun y => decide (scope.names.lookup y.1 = some .local)) = true)
    (h : ∀ h₁ L s₁ (A' : Around) (E' : Value → Shared → Prop) (Q' : Flow → Shared → Prop), A'.handled = A.handled → A'.units = A.units + 3 → A'.depth = A.depth + 1 → A'.frames = A.frames.map (envOf qual scope L f cdv :: ·) →
      (∀ v s', Q v s' → Q' (.ret v) s') → (∀ s', Q .none s' → Q' .next s') →
      Gd w h₁ → (∀ b o, h₀.get? b = some o → h₁.get? b = some o) → Ext (mu.map (·.1)) s.heap h₁ → Fm h₁ L s mu (mOf binds) s₁ →
      wpAny (MM w) A' (execs body (envOf qual scope L f cdv)) Q' E' s₁)
    (hcell : ∀ x ∈ scope.names, x.2 ≠ .cell := by decide) (hco : scope.isCoroutine = false := by rfl) (hgen : scope.isGenerator = false := by rfl) (hk : scope.kind = .function := by rfl) :
    codeAny (MM w) A (.call (.ref f) ⟨pos, kw⟩) (fun r s' => match r with | .ok (.ret v) => Q v s' | .ok _ => False | .error e => E e s') s := by
  have X := G.X.keeps hk₀
  have hn : ∀ b o, h₀.get? b = some o → b ∉ mu.map (·.1) := fun b o e q => by
    obtain ⟨p, hp, rfl⟩ := List.mem_map.mp q
    rw [(hm p hp).2] at e; cases e
  refine (codeAny_call_def (fd := fnOf name qual params body scope dV kV doc pm an cdv ct) (body := body) (binds := binds) hroom (X _ _ ho) rfl (G.lim.keeps hk₀) (codeRec_of X hcd) rfl hbind hcell
    (locs hloc) (fun h₂ hns hk₂ => ?_) hco hgen hk)
  have st : ∀ b o, h₀.get? b = some o → (hideAll s.heap (mu.map (·.1))).get? b = some o := fun b o e => hideAll_get _ (hk₀ b o e) (hn b o e)
  exact h (hideAll s.heap (mu.map (·.1))) s.heap.objs.size _ (A.deeper (envOf qual scope s.heap.objs.size f cdv)) _ (fun fl s' => Q (match fl with | .ret v => v | _ => .none) s') rfl rfl rfl rfl (fun _ _ q => q) (fun _ q => q)
    (G.keeps st) st (fun b o n e => hideAll_get _ e n)
    ⟨hns, fun b o e => hk₂ b o (of_hideAll _ e), Heap.get?_none_of_le (Nat.le_of_eq (hideAll_size _ _)),
    (fun p hp => ⟨hk₂ _ _ (hm p hp).1, Nat.ne_of_lt (Heap.lt_size (hm p hp).1), hideAll_none _ (List.mem_map_of_mem hp)⟩), .heap⟩
end
end Mine

end
section
open PySem PySem.W PySem.Calls PyProof.Rows PySem.SeqAt
namespace Mine

section
variable {prog : Program} {w : World} {A : Around} {E : Value → Shared → Prop} {s : Shared}
theorem mro_obj : mroOf (.type "object") = pure [.type "object"] := by kernel_rfl
theorem lk_obj_new : typeLookup (.type "object") "__new__" = pure (some (.builtin "object.__new__")) := by rw [typeLookup_type, builtinLookup_eq_fast]; kernel_rfl
theorem slot_obj_init : Slot "object" "__init__" "object.__init__" := by
  first | exact PySem.F.slot_object_init | exact ⟨by rw [typeLookup_type, builtinLookup_eq_fast]; kernel_rfl, by intro _; kernel_rfl, by kernel_rfl⟩
theorem called_obj : TypeCalled "object" "object.__new__" "object.__init__" :=
  ⟨by decide +kernel, by decide +kernel, ⟨_, _, mro_obj⟩, madeBy_type mro_obj lk_obj_new (by decide +kernel), by decide +kernel, by rw [isSubtype_type]; kernel_rfl, slot_obj_init⟩
theorem entry_obj_new : entryFor table "object.__new__" = some Builtin.«object.__new__» := entryFor_of_tree (by kernel_rfl)
theorem objnew_meets : Meets (Builtin.«object.__new__» ⟨[.type "object"], []⟩) (fun _ R s => R (.ok (.ret (.ref s.heap.objs.size))) { s with heap := s.heap.push { cls := .type "object", data := .plain } }) :=
  .of_wp fun prog w A R s h => by
    obtain ⟨hp, g, d, tk, os⟩ := s
    have h1 : Bind.madeHere "object.__new__" (.type "object") = pure () := by first | rfl | kernel_rfl
    have h2 : typeHasDict (.type "object") = false := by first | rfl | decide +kernel
    have h3 : ((Manifest.find? "object").elim false (·.mro.any fun t => (Manifest.find? t).elim false (·.noNew))) = false := by decide +kernel
    unfold Builtin.«object.__new__»
    refine wpAny_bind (wpAny_of_eq (a := true) (by first | rfl | kernel_rfl) ?_)
    wp_walk
    exact ⟨_, rfl, h⟩

/-- «object()» -/
theorem call_object {Q : Value → Shared → Prop} (h : Q (.ref s.heap.objs.size) { s with heap := s.heap.push { cls := .type "object", data := .plain } }) : wpAny (model prog w) A (call (.type "object") []) Q E s := by
  refine callType_meets (Q₁ := fun v s' => v = .ref s.heap.objs.size ∧ s' = { s with heap := s.heap.push { cls := .type "object", data := .plain } }) called_obj (by kernel_rfl) (by kernel_rfl) entry_obj_new PySem.F.entry_object_init objnew_meets ⟨rfl, rfl⟩ ?_
  rintro obj s₁ ⟨rfl, rfl⟩
  refine ⟨⟨_, Heap.get?_push_size _ rfl, rfl⟩, by unfold argsOk; kernel_rfl, (fun _ R s => R (.ok (.ret .none)) s), .of_wp fun prog w A R s h => wpAny_pure ⟨_, rfl, h⟩, rfl, h⟩

/-- «iter(x)» -/
theorem call_iter {v : Value} {Q : Value → Shared → Prop} (h : wpAny (model prog w) A.in1 (pyIter v) Q E s) : wpAny (model prog w) A (call (.builtin "iter") [v]) Q E s := by
  refine call_function_entry (by decide +kernel) (by decide +kernel) kdk_entry_iter (kdk_args_iter _) ?_
  unfold Builtin.«iter»
  refine wpAny_bind (m := someArgs "iter" 1 2 _) (wpAny_of_eq (a := [v]) (by first | rfl | kernel_rfl!) ?_)
  show wpAny _ _ (pyIter v >>= _) _ _ _
  exact wpAny_bind (wpAny_mono h (fun r s' q => wpAny_pure ⟨_, rfl, q⟩) fun _ _ e => e)
end

section
variable {w : World} {A : Around} {E : Value → Shared → Prop} {env : Env} {h : Heap} {s : Shared} {e e₁ e₂ e₃ : Expr} {P₁ P₂ P₃ : Value → Prop} {Q : Value → Shared → Prop} {x : Str} {p pos : Pos} {f : Value} {i j : Int}

theorem Tst.eq (a : EvI w A env h e₁ i) (b : EvI w A env h e₂ j) (hm : behindInMarks .Eq e₂ = false := by with_unfolding_all rfl) : Tst w A env h (.Compare e₁ [.Eq] [e₂] pos) (i == j) :=
  Tst.cmp a b (fun _ _ ⟨_, hx⟩ ⟨_, hy⟩ s Q E hs k => by subst hx hy; exact PyProof.Rows.eq_int (k _ hs (.refl _))) hm
theorem Tst.ne (a : EvI w A env h e₁ i) (b : EvI w A env h e₂ j) (hm : behindInMarks .NotEq e₂ = false := by with_unfolding_all rfl) : Tst w A env h (.Compare e₁ [.NotEq] [e₂] pos) (i != j) :=
  Tst.cmp a b (fun _ _ ⟨_, hx⟩ ⟨_, hy⟩ s Q E hs k => by subst hx hy; exact PyProof.Rows.ne_int (k _ hs (.refl _))) hm
theorem Tst.ge (a : EvI w A env h e₁ i) (b : EvI w A env h e₂ j) (hm : behindInMarks .GtE e₂ = false := by with_unfolding_all rfl) : Tst w A env h (.Compare e₁ [.GtE] [e₂] pos) (decide (j ≤ i)) :=
  Tst.cmp a b (fun _ _ ⟨_, hx⟩ ⟨_, hy⟩ s Q E hs k => by subst hx hy; exact PyProof.Rows.ge_int (k _ hs (.refl _))) hm
theorem Tst.isNone {v : Value} (a : EvV w A env h e₁ v) (b : EvV w A env h e₂ .none) (hm : behindInMarks .Is e₂ = false := by with_unfolding_all rfl) : Tst w A env h (.Compare e₁ [.Is] [e₂] pos) (v == .none) :=
  Tst.cmp a b (fun _ _ hx hy s Q E hs k => by subst hx hy; exact is_none (k _ hs (.refl _))) hm
theorem Tst.isNotNone {v : Value} (a : EvV w A env h e₁ v) (b : EvV w A env h e₂ .none) (hm : behindInMarks .IsNot e₂ = false := by with_unfolding_all rfl) : Tst w A env h (.Compare e₁ [.IsNot] [e₂] pos) (!(v == .none)) :=
  Tst.cmp a b (fun _ _ hx hy s Q E hs k => by subst hx hy; exact isNot_none (k _ hs (.refl _))) hm
theorem Tst.isRefs {a b : Addr} {oa ob : Obj} (x : EvV w A env h e₁ (.ref a)) (y : EvV w A env h e₂ (.ref b)) (ha : h.get? a = some oa) (hb : h.get? b = some ob) (hne : a ≠ b) (hc : oa.cls ≠ Value.type "tuple") (hm : behindInMarks .Is e₂ = false := by with_unfolding_all rfl) :
    Tst w A env h (.Compare e₁ [.Is] [e₂] pos) false :=
  Tst.cmp x y (fun _ _ hx hy s Q E hs k => by subst hx hy; exact kto_is (hs ▸ ha) (hs ▸ hb) hne hc (k _ hs (.refl _))) hm

/-- a call of a name, with keywords -/
theorem callK {es : List Expr} {kws : List Keyword} (hf : EvV w A env s.heap (.Name x p) f)
    (h : ∀ s₁, s₁.heap = s.heap → Rest s s₁ → wpAny (MM w) A (spliced (backTo pos (starEach (e :: es) env))) (fun vs s₂ => wpAny (MM w) A (evalAll ((backToKw pos (keywordEach kws env)).map (·.2))) (fun ks s₃ => Kp w s₃.heap f ∧ wpAny (MM w) A (call f vs (((backToKw pos (keywordEach kws env)).filterMap (·.1)).zip ks)) Q E s₃) E s₂) E s₁)
    (hall : (backToKw pos (keywordEach kws env)).all (·.1.isSome) = true := by rfl)
    (he : starEach (e :: es) env = (false, eval e env) :: starEach es env := by rfl) (hplain : (((backTo pos (starEach (e :: es) env)).any (·.1)) || (backToKw pos (keywordEach kws env)).any (·.1.isNone)) = false := by rfl) :
    wpAny (MM w) A (eval (.Call (.Name x p) (e :: es) kws pos) env) Q E s := by
  refine wpAny_Call_Name_kw (hf s _ E rfl fun v s₁ hv h₁ r₁ => ?_)
  subst hv
  exact callWith_of (P := fun h => Kp w h v) hplain (fun _ k => k) (evalArgs_kw2 hall (h s₁ h₁ r₁) he)

/-- a tuple's item -/
theorem EvV.titem {T : Addr} {vs : List Value} {n : Nat} {v : Value} (a : EvV w A env h e₁ (.ref T)) (b : EvI w A env h e₂ (n : Int)) (hl : h.get? T = some (tupOf vs)) (hx : vs[n]? = some v) (hf : (n : Int) < 2 ^ 63)
    (hs : ∀ (D k u), subscripted e₂ false (.ref D) (.int k u) = operate [.ref D, .int k u] (getItem (.ref D) (.int k u)) := by intros; with_unfolding_all rfl) : EvV w A env h (.Subscript e₁ e₂ pos) v := fun s Q E hh k => by
  subst hh
  refine Subscript_ (a s _ E rfl fun x s₁ hx₁ h₁ r₁ => b s₁ _ E h₁ fun y s₂ hy h₂ r₂ => ?_)
  obtain ⟨u, rfl⟩ := hy
  subst hx₁
  have hk := (List.getElem?_eq_some_iff.mp hx).1
  have hT : s₂.TypeIs (.ref T) "tuple" := ⟨_, h₂ ▸ hl, rfl⟩
  refine tail_any hT (by first | exact tuple_getitem_lookup | exact slot_tuple_getitem.lookup) (getItem_tuple (items := vs.toArray) (j := n) ⟨_, h₂ ▸ hl, rfl, 0, rfl⟩ (by omega) hf ?_ (x := v) (by simpa using hx) (k _ _ rfl h₂ (r₁.trans r₂))) (hs _ _ _)
  have hneg : ¬ ((n : Int) < 0) := by omega
  simp only [seqIndex?, List.size_toArray, if_neg hneg]
  rw [if_pos (by simp [hk])]
  simp
end

section
variable {w : World} {A : Around} {E : Value → Shared → Prop} {env : Env} {h₀ : Heap} {L : Addr} {s₀ s : Shared} {news : List (Addr × Obj)} {m : Str → Option Value} {rest : List Stmt} {e e₁ : Expr} {pos tp p1 p2 p3 pa : Pos} {D : Addr} {es : List Expr} {PL : List Value → Prop}

/-- a list display of plain values -/
theorem e_list {Q : Value → Shared → Prop} (Z : Fm h₀ L s₀ news m s) (a : EvL w A env s.heap es PL) (hsz : es.length ≤ 1000) (hlen : ∀ vs, PL vs → vs.length = es.length)
    (h : ∀ vs t s', PL vs → Fm h₀ L s₀ ((t, listOf vs.toArray 0) :: news) m s' → (∀ p ∈ news, p.1 ≠ t) → s.heap.get? t = none → Q (.ref t) s') : wpAny (MM w) A (eval (.List es pos) env) Q E s := by
  refine wpAny_List (a _ s _ E rfl fun vs s₁ hv h₁ r₁ => ⟨by rw [hlen vs hv, sizeLine_eq]; omega, ?_⟩)
  have Z₁ := Z.touch h₁ r₁
  obtain ⟨Z₂, n2⟩ := Z₁.new (ob := listOf vs.toArray 0) (tk := s₁.toks)
  exact h vs _ _ hv Z₂ n2 (by rw [← h₁]; exact Heap.get?_none_of_le (Nat.le_refl _))

/-- «x += e», «x -= e» on ints -/
theorem s_augAdd {x : Str} {px : Pos} {i j : Int} {t : Tok} {Q : Flow → Shared → Prop} (Z : Fm h₀ L s₀ news m s) (hv : m x = some (.int i t)) (a : EvI w A env s.heap e j)
    (h : ∀ t' s', Fm h₀ L s₀ news (upd m x (.int (i + j) t')) s' → wpAny (MM w) A (execs rest env) Q E s')
    (hL : env.locals = L := by rfl) (hk : env.scope.kind = .function := by rfl) (hl : env.kindOf x = some .local := by rfl) : wpAny (MM w) A (execs (.AugAssign (.Name x px) .Add e pos :: rest) env) Q E s := by
  refine xs_cons (wpAny_AugAssign_Name (wpAny_loadName_local hk hl (hL ▸ Z.ns) hv (a s _ E rfl fun v s₁ hv h₁ r₁ => ?_)))
  obtain ⟨u, rfl⟩ := hv
  exact PyProof.Rows.iadd_int ((Z.touch h₁ r₁).touch (s' := { s₁ with toks := s₁.toks + 1 }) rfl .heap |>.store (fun s' Z' => h _ s' Z') hL hk hl)
theorem s_augSub {x : Str} {px : Pos} {i j : Int} {t : Tok} {Q : Flow → Shared → Prop} (Z : Fm h₀ L s₀ news m s) (hv : m x = some (.int i t)) (a : EvI w A env s.heap e j)
    (h : ∀ t' s', Fm h₀ L s₀ news (upd m x (.int (i - j) t')) s' → wpAny (MM w) A (execs rest env) Q E s')
    (hL : env.locals = L := by rfl) (hk : env.scope.kind = .function := by rfl) (hl : env.kindOf x = some .local := by rfl) : wpAny (MM w) A (execs (.AugAssign (.Name x px) .Sub e pos :: rest) env) Q E s := by
  refine xs_cons (wpAny_AugAssign_Name (wpAny_loadName_local hk hl (hL ▸ Z.ns) hv (a s _ E rfl fun v s₁ hv h₁ r₁ => ?_)))
  obtain ⟨u, rfl⟩ := hv
  exact PyProof.Rows.isub_int ((Z.touch h₁ r₁).touch (s' := { s₁ with toks := s₁.toks + 1 }) rfl .heap |>.store (fun s' Z' => h _ s' Z') hL hk hl)

/-- what an unpacking leaves: one object more, that no one knows -/
theorem Fm.grew {h' : Heap} {tk : Nat} (Z : Fm h₀ L s₀ news m s) (x : ∀ b o, s.heap.get? b = some o → h'.get? b = some o) : Fm h₀ L s₀ news m { s with heap := h', toks := tk } :=
  Z.ext0 .heap fun b o _ e => x b o e

theorem a_unpack2 {T : Addr} {a b : Str} {v1 v2 : Value} {k : Nat} {Q : Unit → Shared → Prop} (hh : A.handled = none) (Z : Fm h₀ L s₀ news m s) (hT : s.heap.IsTuple T #[v1, v2])
    (h : ∀ s', Fm h₀ L s₀ news (upd (upd m a v1) b v2) s' → Q () s') (hL : env.locals = L := by rfl) (hk : env.scope.kind = .function := by rfl) (ha : env.kindOf a = some .local := by rfl) (hb : env.kindOf b = some .local := by rfl) :
    wpAny (MM w) A (assign (.Tuple [.Name a p1, .Name b p2] k tp) env (.ref T)) Q E s := by
  refine wpAny_assign_Tuple hh hT rfl rfl fun h₁ he₁ => ?_
  have Z₁ := Z.grew (tk := s.toks) (h' := h₁) fun c o e => he₁ c o (Nat.ne_of_lt (Heap.lt_size e)) e
  show wpAny _ _ (assignInOrder [assign (.Name a p1) env, assign (.Name b p2) env] [v1, v2]) _ _ _
  refine assignInOrder_cons (wpAny_assign_Name (Z₁.store (fun s₂ Z₂ => ?_) hL hk ha))
  exact assignInOrder_cons (wpAny_assign_Name (Z₂.store (fun s₃ Z₃ => assignInOrder_nil (h _ Z₃)) hL hk hb))
theorem a_unpack3 {T : Addr} {a b c : Str} {v1 v2 v3 : Value} {k : Nat} {Q : Unit → Shared → Prop} (hh : A.handled = none) (Z : Fm h₀ L s₀ news m s) (hT : s.heap.IsTuple T #[v1, v2, v3])
    (h : ∀ s', Fm h₀ L s₀ news (upd (upd (upd m a v1) b v2) c v3) s' → Q () s') (hL : env.locals = L := by rfl) (hk : env.scope.kind = .function := by rfl) (ha : env.kindOf a = some .local := by rfl) (hb : env.kindOf b = some .local := by rfl) (hc : env.kindOf c = some .local := by rfl) :
    wpAny (MM w) A (assign (.Tuple [.Name a p1, .Name b p2, .Name c p3] k tp) env (.ref T)) Q E s := by
  refine wpAny_assign_Tuple hh hT rfl rfl fun h₁ he₁ => ?_
  have Z₁ := Z.grew (tk := s.toks) (h' := h₁) fun c o e => he₁ c o (Nat.ne_of_lt (Heap.lt_size e)) e
  show wpAny _ _ (assignInOrder [assign (.Name a p1) env, assign (.Name b p2) env, assign (.Name c p3) env] [v1, v2, v3]) _ _ _
  refine assignInOrder_cons (wpAny_assign_Name (Z₁.store (fun s₂ Z₂ => ?_) hL hk ha))
  refine assignInOrder_cons (wpAny_assign_Name (Z₂.store (fun s₃ Z₃ => ?_) hL hk hb))
  exact assignInOrder_cons (wpAny_assign_Name (Z₃.store (fun s₄ Z₄ => assignInOrder_nil (h _ Z₄)) hL hk hc))
theorem s_unpack2 {a b : Str} {k : Nat} {Q : Flow → Shared → Prop} (h : wpAny (MM w) A (eval e env) (fun v s₁ => wpAny (MM w) A (assign (.Tuple [.Name a p1, .Name b p2] k tp) env v) (fun _ s₂ => wpAny (MM w) A (execs rest env) Q E s₂) E s₁) E s)
    (hs : swapsWithSole [.Tuple [.Name a p1, .Name b p2] k tp] e pos.line env = pure false := by rfl) (hw : swappedStores [.Tuple [.Name a p1, .Name b p2] k tp] e env = pure none := by rfl) :
    wpAny (MM w) A (execs (.Assign [.Tuple [.Name a p1, .Name b p2] k tp] e pos :: rest) env) Q E s := xs_cons (Assign_Tuple h hs hw)
theorem s_unpack3 {a b c : Str} {k : Nat} {Q : Flow → Shared → Prop} (h : wpAny (MM w) A (eval e env) (fun v s₁ => wpAny (MM w) A (assign (.Tuple [.Name a p1, .Name b p2, .Name c p3] k tp) env v) (fun _ s₂ => wpAny (MM w) A (execs rest env) Q E s₂) E s₁) E s)
    (hs : swapsWithSole [.Tuple [.Name a p1, .Name b p2, .Name c p3] k tp] e pos.line env = pure false := by rfl) (hw : swappedStores [.Tuple [.Name a p1, .Name b p2, .Name c p3] k tp] e env = pure none := by rfl) :
    wpAny (MM w) A (execs (.Assign [.Tuple [.Name a p1, .Name b p2, .Name c p3] k tp] e pos :: rest) env) Q E s := xs_cons (Assign_Tuple h hs hw)

/-- «x[:n]» of a list, whatever makes x -/
theorem e_upto {e₂ : Expr} {sp : Pos} {Q : Value → Shared → Prop} (h : wpAny (MM w) A (eval e env) (fun v s₁ => ∃ D its n h₁ news' m', v = .ref D ∧ s₁.heap.IsList D its ∧ its.size ≤ 1000 ∧ Fm h₁ L s₀ news' m' s₁ ∧ EvI w A env s₁.heap e₂ ((n : Nat) : Int) ∧
      ∀ t s', Fm h₁ L s₀ ((t, listOf (its.toList.take n).toArray 0) :: news') m' s' → (∀ p ∈ news', p.1 ≠ t) → s₁.heap.get? t = none → Q (.ref t) s') E s) :
    wpAny (MM w) A (eval (.Subscript e (.Slice none (some e₂) none sp) pos) env) Q E s := by
  refine Subscript_ (wpAny_mono h (fun v s₁ h₁ => ?_) fun _ _ e => e)
  obtain ⟨D, its, n, hb, news', m', rfl, hD, hsz, Z, b, q⟩ := h₁
  refine wpAny_Slice (wpAny_pure ?_)
  rw [evalPart_some]
  refine b s₁ _ E rfl fun y s₂ hy h₂ r₂ => ?_
  obtain ⟨u, rfl⟩ := hy
  refine wpAny_pure ?_
  have Z₂ := Z.touch h₂ r₂
  obtain ⟨Z₃, n3⟩ := Z₂.new (ob := { cls := .type "slice", data := .fields #[.none, .int (n : Int) u, .none] }) (tk := s₂.toks)
  have hl : Heap.IsList (s₂.heap.push { cls := .type "slice", data := .fields #[.none, .int (n : Int) u, .none] }) D its := (show s₂.heap.IsList D its from h₂ ▸ hD).push _
  refine tail_any (ops := [.ref s₂.heap.objs.size, .ref D]) (Heap.IsList.typeIs (s := { s₂ with heap := s₂.heap.push { cls := .type "slice", data := .fields #[.none, .int (n : Int) u, .none] } }) hl) list_getitem_lookup
    (wpAny_getItem_list_slice hl (Heap.IsSliceOf.new ..) .none (.int _ _) .none (by simp) ?_ (by rw [sizeLine_eq]; omega)) (by with_unfolding_all rfl)
  rw [slicePick_upto']
  obtain ⟨Z₄, n4⟩ := Z₃.new (ob := listOf (its.toList.take n).toArray 0) (tk := s₂.toks)
  refine q _ _ (Z₄.sub fun p hp => ?_) (fun p hp => n4 p (.tail _ hp)) ?_
  · rcases List.mem_cons.mp hp with rfl | hp
    · exact .head _
    · exact .tail _ (.tail _ hp)
  · rw [← h₂]
    exact Heap.get?_none_of_le (by rw [Heap.size_push]; exact Nat.le_succ _)
end
end Mine

end
section
open PySem PySem.W PySem.Calls PyProof.Rows PySem.SeqAt
namespace Mine

section
variable {w : World} {A : Around} {E : Value → Shared → Prop} {env : Env} {h₀ : Heap} {L : Addr} {s₀ s : Shared} {news : List (Addr × Obj)} {m : Str → Option Value} {rest body : List Stmt} {Q : Flow → Shared → Prop} {target : Expr}
  {I : Addr} {fp wr : List Addr} {n : Nat} {P Md : Nat → Value → Heap → Prop} {St : Nat → Heap → Prop} {Fn : Heap → Prop}

/-- a for, by an invariant over the ledger, the frame and a base that grows -/
theorem for_walkH (W : Trn w A target I fp wr n P Md St Fn) (J : Nat → List (Addr × Obj) → (Str → Option Value) → Heap → Prop) (Z : Fm h₀ L s₀ news m s) (hst : St 0 s.heap) (hJ : J 0 news m h₀)
    (hfp : ∀ b ∈ fp, b ≠ L ∧ b ∉ news.map (·.1)) (hwr : ∀ b ∈ wr, h₀.get? b = none)
    (turn : ∀ i v news m s h₁ hx E (B : Flow → Shared → Prop), i < n → P i v s.heap → J i news m hx → (∀ b o, h₀.get? b = some o → hx.get? b = some o) → (∀ b o, hx.get? b = some o → h₁.get? b = some o) → Fm h₁ L s₀ news m s →
      (∀ extra news' m' s', Fm h₁ L s₀ (extra ++ news') m' s' → (∀ p ∈ extra, ∀ q ∈ news', p.1 ≠ q.1) → (∀ hx', (∀ b o, hx.get? b = some o → hx'.get? b = some o) → (∀ p ∈ extra, hx'.get? p.1 = some p.2) → J (i + 1) news' m' hx') → B .next s') →
      (∀ v s', Q (.ret v) s' → B (.ret v) s') → wpAny (MM w) A (assign target env v) (fun _ s₂ => wpAny (MM w) A (execs body env) B E s₂) E s)
    (done : ∀ news m s' hx E, J n news m hx → (∀ b o, h₀.get? b = some o → hx.get? b = some o) → Fm hx L s₀ news m s' → wpAny (MM w) A (execs rest env) Q E s') :
    codeAny (MM w) A (.forLoop target (.ref I) body [] env) (fun r s' => match r with | .ok f => Then w A E env rest Q f s' | .error e => cameBackBy (MM w) A env E e s') s := by
  refine codeAny_forLoop_any (fun k s' => ∃ i news m hx, k = n - i ∧ i ≤ n ∧ (∀ b o, h₀.get? b = some o → hx.get? b = some o) ∧ Fm hx L s₀ news m s' ∧ St i s'.heap ∧ J i news m hx ∧ (∀ b ∈ fp, b ≠ L ∧ b ∉ news.map (·.1)) ∧ ∀ b ∈ wr, hx.get? b = none) ?_ n
    ⟨0, news, m, h₀, rfl, Nat.zero_le _, fun _ _ e => e, Z, hst, hJ, hfp, hwr⟩
  rintro k s' ⟨i, news, m, hx, rfl, hi, st0, Z, hst, hJ, hfp, hwr⟩
  have hS : ∀ s'', (∀ b o, b ∉ wr → s'.heap.get? b = some o → s''.heap.get? b = some o) → Rest s' s'' → Fm hx L s₀ news m s'' := fun s'' hx' r =>
    Z.extS r hx' (fun q => (hfp L (W.sub _ q)).1 rfl) hwr fun p hp q => (hfp _ (W.sub _ q)).2 (List.mem_map_of_mem hp)
  by_cases hlt : i < n
  · refine W.item i s' _ _ hlt hst fun v h' tk hmd hk' => ?_
    refine W.go i v _ _ _ hmd fun h'' hP hst' hk'' => ?_
    have hxx : ∀ b o, b ∉ wr → s'.heap.get? b = some o → h''.get? b = some o := fun b o hb e => hk'' b o hb (hk' b o hb e)
    have Z' := hS { s' with heap := h'', toks := tk } hxx .heap
    obtain ⟨h₁, st, hx₁, Z₁⟩ := Z'.rebase
    have stay : ∀ b ∈ fp, ∀ o, h''.get? b = some o → h₁.get? b = some o := fun b hb o e => hx₁ b o (fun q => by
      rcases List.mem_cons.mp q with rfl | q
      · exact (hfp _ hb).1 rfl
      · exact (hfp _ hb).2 q) e
    refine wpAny_mono (turn i v news m _ h₁ hx _ (fun f s₃ => match f with
          | .next | .cont => ∃ m, m < n - i ∧ ∃ i news m_1 hx, m = n - i ∧ i ≤ n ∧ (∀ b o, h₀.get? b = some o → hx.get? b = some o) ∧ Fm hx L s₀ news m_1 s₃ ∧ St i s₃.heap ∧ J i news m_1 hx ∧ (∀ b ∈ fp, b ≠ L ∧ b ∉ news.map (·.1)) ∧ ∀ b ∈ wr, hx.get? b = none
          | .brk => False
          | .ret v => Q (.ret v) s₃) hlt hP hJ st0 st Z₁ ?_ fun v _ q => q) (fun _ s₂ h₂ => wpAny_mono h₂ (fun f s₃ h₃ => ?_) fun _ _ e => e) fun _ _ e => e
    · intro extra news' m' s₃ Z₃ dis hJ'
      have alv : ∀ b ∈ fp, ∃ o, h₁.get? b = some o := fun b hb => let ⟨o, e⟩ := W.alive _ _ hst' _ hb; ⟨o, stay b hb o e⟩
      have nfp : ∀ p ∈ extra ++ news', p.1 ∉ fp := fun p hp q => by
        obtain ⟨o, e⟩ := alv _ q
        have := (Z₃.nw p hp).2.2
        rw [e] at this; cases this
      refine ⟨n - (i + 1), by omega, i + 1, news', m', hideAll s₃.heap (L :: (news'.map (·.1) ++ wr)), rfl, hlt, ?_, ⟨Z₃.ns, fun b o e => of_hideAll _ e, hideAll_none _ (.head _), fun p hp => ?_, Z₃.rest⟩, ?_, hJ' _ ?_ ?_, ?_, ?_⟩
      · intro b o e
        have e1 := st b o (st0 b o e)
        refine hideAll_get _ (Z₃.keep b o e1) fun q => ?_
        rcases List.mem_cons.mp q with rfl | q
        · rw [Z₃.off] at e1; cases e1
        · rcases List.mem_append.mp q with q | q
          · obtain ⟨p, hp, rfl⟩ := List.mem_map.mp q
            rw [(Z₃.nw p (List.mem_append_right _ hp)).2.2] at e1; cases e1
          · have := hwr b q; rw [st0 b o e] at this; cases this
      · exact ⟨(Z₃.nw p (List.mem_append_right _ hp)).1, (Z₃.nw p (List.mem_append_right _ hp)).2.1, hideAll_none _ (.tail _ (List.mem_append_left _ (List.mem_map_of_mem hp)))⟩
      · exact W.frame _ _ _ hst' fun b hb o e => Z₃.keep b o (stay b hb o e)
      · intro b o e
        have e1 := st b o e
        refine hideAll_get _ (Z₃.keep b o e1) fun q => ?_
        rcases List.mem_cons.mp q with rfl | q
        · rw [Z₃.off] at e1; cases e1
        · rcases List.mem_append.mp q with q | q
          · obtain ⟨p, hp, rfl⟩ := List.mem_map.mp q
            rw [(Z₃.nw p (List.mem_append_right _ hp)).2.2] at e1; cases e1
          · have := hwr b q; rw [e] at this; cases this
      · intro p hp
        have z := Z₃.nw p (List.mem_append_left _ hp)
        refine hideAll_get _ z.1 fun q => ?_
        rcases List.mem_cons.mp q with q | q
        · exact z.2.1 q
        · rcases List.mem_append.mp q with q | q
          · obtain ⟨p', hp', e⟩ := List.mem_map.mp q
            exact dis p hp p' hp' e.symm
          · exact nfp p (List.mem_append_left _ hp) (W.sub _ q)
      · exact fun b hb => ⟨(hfp b hb).1, fun q => by obtain ⟨p, hp, rfl⟩ := List.mem_map.mp q; exact nfp p (List.mem_append_right _ hp) hb⟩
      · exact fun b hb => hideAll_none _ (.tail _ (List.mem_append_right _ hb))
    · cases f with
      | next => exact h₃
      | cont => exact h₃
      | brk => exact h₃.elim
      | ret v => exact h₃
  · have hin : i = n := Nat.le_antisymm hi (Nat.le_of_not_lt hlt)
    subst hin
    refine W.done s' _ _ hst fun h' tk _ hk' => ?_
    exact wpAny_execs_nil (done news m _ hx _ hJ st0 (hS { s' with heap := h', toks := tk } hk' .heap))

/-- the target is a name -/
theorem a_name {x : Str} {px : Pos} {v : Value} {Q : Unit → Shared → Prop} (Z : Fm h₀ L s₀ news m s) (h : ∀ s', Fm h₀ L s₀ news (upd m x v) s' → Q () s')
    (hL : env.locals = L := by rfl) (hk : env.scope.kind = .function := by rfl) (hl : env.kindOf x = some .local := by rfl) : wpAny (MM w) A (assign (.Name x px) env v) Q E s := wpAny_assign_Name (Z.store h hL hk hl)
end

/-- a state of an iterator that hangs on its object and what stands below -/
def Held (hb : Heap) (I : Addr) (F : Heap → Prop) : Prop := ∀ h, F h → ∃ o vs, h.get? I = some o ∧ o.data = .fields vs ∧ ∀ h', h'.get? I = some o → (∀ b o, hb.get? b = some o → h'.get? b = some o) → F h'
/-- an iterator, as nsmallest and nlargest go over it -/
structure Itr (w : World) (hb : Heap) (I : Addr) (fp : List Addr) (xs : List Value) (St : Nat → Heap → Prop) (Fn : Heap → Prop) (en : Prop) : Prop where
  nx : ∀ A : Around, A.handled = none → Nx w A I fp [I] xs.length (fun i v => xs[i]? = some v) St Fn en
  walks : ∀ A : Around, A.handled = none → Walks PR w A I fp [I] xs.length (fun i v => xs[i]? = some v) St
  ended : en → ∀ A : Around, A.handled = none → Walks PR w A I fp [I] 0 (fun _ _ => False) (fun _ h => Fn h)
  self : ∀ i h, St i h → SelfIt h I
  of : ∀ i, Held hb I (St i)
  fin : Held hb I Fn
  aliveF : ∀ h, Fn h → ∀ b ∈ fp, ∃ o, h.get? b = some o
  low : ∀ b ∈ fp, b ≠ I → ∃ o, hb.get? b = some o
  here : I ∈ fp
  new : hb.get? I = none

/-- what is left of it behind the first m -/
theorem Itr.rest {w : World} {A : Around} {hb : Heap} {I : Addr} {fp : List Addr} {xs : List Value} {St : Nat → Heap → Prop} {Fn : Heap → Prop} {en : Prop} {mm : Nat} (T : Itr w hb I fp xs St Fn en) (hh : A.handled = none) (hen : xs.length < mm → en) :
    ∃ St' : Nat → Heap → Prop, (∀ h, (if mm ≤ xs.length then St mm h else Fn h) → St' 0 h) ∧ Walks PR w A I fp [I] (xs.length - mm) (fun i v => xs[mm + i]? = some v) St' ∧ ∀ i h, St' i h → ∀ b ∈ fp, ∃ o, h.get? b = some o := by
  by_cases hle : mm ≤ xs.length
  · refine ⟨fun i h => St (mm + i) h, fun h e => by rw [if_pos hle] at e; exact e, ?_, fun i h st => (T.nx A hh).alive _ _ st⟩
    have W := T.walks A hh
    exact ⟨W.sub, fun i => W.frame (mm + i), fun i s Q E hi st hQ => W.item (mm + i) s Q E (by omega) st fun v h' tk hv st' hk => hQ v h' tk hv st' hk, fun s Q E st hQ => W.done s Q E (by rwa [Nat.add_sub_cancel' hle] at st) hQ, fun i => W.self (mm + i)⟩
  · refine ⟨fun i h => Fn h, fun h e => by rw [if_neg hle] at e; exact e, ?_, fun i h st => T.aliveF _ st⟩
    have W := T.ended (hen (by omega)) A hh
    have e0 : xs.length - mm = 0 := by omega
    rw [e0]
    exact ⟨W.sub, W.frame, fun i s Q E hi => absurd hi (Nat.not_lt_zero _), W.done, W.self⟩

theorem Itr.list {w : World} {hb : Heap} {I l : Addr} {xs : List Value} {ep : Nat} (hl : hb.get? l = some (listOf xs.toArray ep)) (hI : hb.get? I = none) :
    Itr w hb I [I, l] xs (fun i h => LIter h I l i ∧ h.IsList l xs.toArray) (fun h => Ended h I ∧ h.IsList l xs.toArray) True := by
  have hne : l ≠ I := by rintro rfl; rw [hl] at hI; cases hI
  have hz : xs.toArray.size = xs.length := by simp
  refine ⟨fun A hh => ?_, fun A hh => ?_, fun _ A hh => ?_, fun i h st => .list st.1, fun i h st => ⟨_, _, st.1, rfl, fun h' e hk => ⟨e, ⟨_, hk _ _ hl, rfl, ep, rfl⟩⟩⟩, fun h st => ?_, fun h st b hb => ?_, fun b hb hne => ?_, by simp, hI⟩
  · have N := nx_list (w := w) (A := A) hh I l hne xs.toArray
    exact ⟨N.sub, N.frame, fun h h' st hk => ⟨N.frameF h h' st.1 hk, st.2.at fun o e => hk l (by simp) o e⟩, N.alive, fun i s Q E hi st hQ => N.item i s Q E (by simpa using hi) st fun v h' tk hv => hQ v h' tk (by simpa using hv),
      fun en s Q E st hQ => N.done trivial s Q E (by simpa using st) fun h' x f k => hQ h' x ⟨f, st.2.at fun o e => k l o (by simpa using hne) e⟩ k⟩
  · exact {
      sub := fun b hb => by simp at hb; simp [hb]
      frame := fun _ _ _ st hk => ⟨hk I (by simp) _ st.1, st.2.at fun o e => hk l (by simp) o e⟩
      item := fun i s Q E hi st hQ => pn_of ⟨_, st.1, rfl⟩ slot_listiter_next entry_listiter_next (args_listiter_next _) (lb_item st.1 st.2 (x := xs[i]) (by simp [hi]) fun h' a b =>
        ⟨_, rfl, hQ _ h' s.toks (by simp [hi]) ⟨a, st.2.extBut b.extBut hne⟩ fun b' o hb e => b.extBut b' o (fun h => hb (by simp [h])) e⟩)
      done := fun s Q E st hQ => pn_of ⟨_, st.1, rfl⟩ slot_listiter_next entry_listiter_next (args_listiter_next _) (lb_end (by exact hh) st.1 st.2 (by simp) fun h' e a b c => ⟨e, rfl, c, hQ h' s.toks fun b' o hb e => b b' o (fun h => hb (by simp [h])) e⟩)
      self := fun i s Q E st hQ => wpAny_pyIter_listiter (l := l) (i := i) ⟨_, st.1, rfl, rfl⟩ hQ }
  · have W := walks_ended (w := w) (A := A) hh I
    exact {
      sub := fun b hb => by simp at hb; simp [hb]
      frame := fun _ _ _ st hk => ⟨let ⟨i, e⟩ := st.1; ⟨i, hk I (by simp) _ e⟩, st.2.at fun o e => hk l (by simp) o e⟩
      item := fun i s Q E hi => absurd hi (Nat.not_lt_zero _)
      done := fun s Q E st hQ => W.done s Q E st.1 hQ
      self := fun i s Q E st hQ => W.self i s Q E st.1 hQ }
  · obtain ⟨⟨i, e⟩, _⟩ := st
    exact ⟨_, _, e, rfl, fun h' e' hk => ⟨⟨i, e'⟩, ⟨_, hk _ _ hl, rfl, ep, rfl⟩⟩⟩
  · simp only [List.mem_cons, List.not_mem_nil, or_false] at hb
    rcases hb with rfl | rfl
    · obtain ⟨⟨i, e⟩, _⟩ := st; exact ⟨_, e⟩
    · obtain ⟨_, o, e, _⟩ := st; exact ⟨o, e⟩
  · simp only [List.mem_cons, List.not_mem_nil, or_false] at hb
    exact ⟨_, (hb.resolve_left hne) ▸ hl⟩

theorem Itr.vals {w : World} {KT : Type} [DecidableEq KT] {knd : KeyKind PR w KT} {hb : Heap} {I d : Addr} {kvs : List (KT × Value)} {ep : Nat} (hl : hb.DictAt knd d kvs ep) (hI : hb.get? I = none) :
    Itr w hb I [I, d] (kvs.map (·.2)) (fun i h => h.IsValIter I d i kvs.length ep ∧ h.DictAt knd d kvs ep) (fun h => False) False := by
  have hne : d ≠ I := by rintro rfl; obtain ⟨o, es, e, _⟩ := hl; rw [e] at hI; cases hI
  have hz : (kvs.map (·.2)).length = kvs.length := by simp
  have hv : ∀ (i : Nat) (v : Value), (∃ k : KT, kvs[i]? = some (k, v)) ↔ (kvs.map (·.2))[i]? = some v := fun i v => by
    rw [List.getElem?_map]
    constructor
    · rintro ⟨k, e⟩; rw [e]; rfl
    · intro e
      obtain ⟨⟨k, v'⟩, e1, e2⟩ := Option.map_eq_some_iff.mp e
      exact ⟨k, by rw [e1]; simp at e2; rw [e2]⟩
  refine ⟨fun A hh => ?_, fun A hh => ?_, fun e => e.elim, fun i h st => .vals st.1, fun i h st => ?_, fun h st => st.elim, fun h st => st.elim, fun b hb hne => ?_, by simp, hI⟩
  · have N := nx_vals (w := w) (A := A) (knd := knd) I d hne kvs ep
    rw [hz]
    exact ⟨N.sub, N.frame, fun _ _ st => st.elim, N.alive, fun i s Q E hi st hQ => N.item i s Q E hi st fun v h' tk hv' => hQ v h' tk ((hv i v).mp hv'), fun e => e.elim⟩
  · have W := Walks.dictValues (prog := PR) (w := w) (A := A) (knd := knd) hh I d hne kvs ep
    rw [hz]
    exact ⟨W.sub, W.frame, fun i s Q E hi st hQ => W.item i s Q E hi st fun v h' tk hv' => hQ v h' tk ((hv i v).mp (by simpa using hv')), W.done, W.self⟩
  · obtain ⟨⟨o, e, c, dt⟩, _⟩ := st
    exact ⟨o, _, e, dt, fun h' e' hk => ⟨⟨o, e', c, dt⟩, hl.at' fun o e => hk d o e⟩⟩
  · simp only [List.mem_cons, List.not_mem_nil, or_false] at hb
    obtain ⟨o, es, e, _⟩ := hl
    exact ⟨o, (hb.resolve_left hne) ▸ e⟩
end Mine

end
section
open PySem PySem.W PySem.Calls PyProof.Rows PySem.SeqAt
namespace Mine

abbrev rangeOb (a b c : Int) (t u v : Tok) : Obj := { cls := .type "range", data := .fields #[.int a t, .int b u, .int c v] }

/-- things by rank, and the key that a function of the text makes of each -/
structure KC (w : World) (hb : Heap) (q : Addr) (n : Nat) (ev : Nat → Value) (is : Nat → List Int) (p : Nat → Str) : Prop where
  KK : Keys n is p
  key : ∀ r, r < n → KeySpec w q hb (ev r) (is r) (p r)
  kp : keepIn (K w.params) (.ref q) = true
  ne : ∀ r, r < n → is r ≠ []
  inst : ∀ r, r < n → ∃ x o, ev r = .ref x ∧ hb.get? x = some o ∧ o.cls ≠ Value.type "tuple"
theorem KC.keeps {w : World} {h h' : Heap} {q : Addr} {n : Nat} {ev : Nat → Value} {is : Nat → List Int} {p : Nat → Str} (a : KC w h q n ev is p) (hk : ∀ b o, h.get? b = some o → h'.get? b = some o) : KC w h' q n ev is p :=
  ⟨a.KK, fun r hr => (a.key r hr).keeps hk, a.kp, a.ne, fun r hr => let ⟨x, o, e1, e2, e3⟩ := a.inst r hr; ⟨x, o, e1, hk _ _ e2, e3⟩⟩

/-- the thing that is laid into the heap: key, number, thing -/
def TupOf (h : Heap) (ev : Nat → Value) (is : Nat → List Int) (p : Nat → Str) (r : Nat) (v : Value) : Prop :=
  ∃ t kt i tk, v = .ref t ∧ h.get? t = some (tupOf [.ref kt, .int i tk, ev r]) ∧ KeyAt h kt (is r) (p r)
theorem TupOf.keeps {h h' : Heap} {ev : Nat → Value} {is : Nat → List Int} {p : Nat → Str} {r : Nat} {v : Value} (a : TupOf h ev is p r v) (hk : ∀ b o, h.get? b = some o → h'.get? b = some o) : TupOf h' ev is p r v :=
  let ⟨t, kt, i, tk, e1, e2, e3⟩ := a; ⟨t, kt, i, tk, e1, hk _ _ e2, e3.keeps hk⟩
theorem TupOf.keepsT {h h' : Heap} {ev : Nat → Value} {is : Nat → List Int} {p : Nat → Str} {r : Nat} {v : Value} (a : TupOf h ev is p r v) (hk : ∀ b us, h.get? b = some (tupOf us) → h'.get? b = some (tupOf us)) : TupOf h' ev is p r v :=
  let ⟨t, kt, i, tk, e1, e2, vs, e3, e4⟩ := a; ⟨t, kt, i, tk, e1, hk _ _ e2, vs, hk _ _ e3, e4⟩
theorem TupOf.item {h : Heap} {ev : Nat → Value} {is : Nat → List Int} {p : Nat → Str} {r : Nat} {v : Value} (a : TupOf h ev is p r v) : ItemAt h v (is r) (p r) 2 :=
  let ⟨t, kt, i, tk, e1, e2, e3⟩ := a; ⟨t, kt, _, e1, e2, e3, rfl⟩

section
variable {w : World} {A : Around} {E : Value → Shared → Prop} {env : Env} {h₀ hb : Heap} {L : Addr} {s₀ s s' : Shared} {news : List (Addr × Obj)} {m : Str → Option Value} {k : Addr} {o : Obj}

theorem EvV.go {e : Expr} {v : Value} {Q : Value → Shared → Prop} (a : EvV w A env s.heap e v) (k : ∀ s', s'.heap = s.heap → Rest s s' → Q v s') : wpAny (MM w) A (eval e env) Q E s := a s Q E rfl fun _ s' hv hh r => hv ▸ k s' hh r
theorem Evs.go {e : Expr} {P : Value → Prop} {Q : Value → Shared → Prop} (a : Evs w A env s.heap e P) (k : ∀ v s', P v → s'.heap = s.heap → Rest s s' → Q v s') : wpAny (MM w) A (eval e env) Q E s := a s Q E rfl fun v s' hv hh r => k v s' hv hh r
/-- a callee has made one thing -/
theorem Fm.got (Z : Fm h₀ L s₀ news m s) (r : Rest s s') (x : Ext [] s.heap s'.heap) (n : s.heap.get? k = none) (e : s'.heap.get? k = some o) : Fm h₀ L s₀ ((k, o) :: news) m s' ∧ ∀ p ∈ news, p.1 ≠ k := by
  have Z' := Z.ext0 r x
  refine ⟨⟨Z'.ns, Z'.keep, Z'.off, fun p hp => ?_, Z'.rest⟩, fun p hp => ?_⟩
  · rcases List.mem_cons.mp hp with rfl | hp
    · exact ⟨e, (by rintro rfl; obtain ⟨oL, _, _, hL, _⟩ := Z.ns; rw [n] at hL; cases hL), none_of Z.keep n⟩
    · exact Z'.nw p hp
  · rintro rfl
    rw [(Z.nw p hp).1] at n; cases n

variable {q : Addr} {n : Nat} {ev : Nat → Value} {is : Nat → List Int} {p : Nat → Str} {r : Nat} {i : Int} {t : Tok} {Q : Value → Shared → Prop} {kx ex ix : Str} {p1 p2 p3 p4 p5 pos : Pos} {kk : Nat} {fv : Addr}

/-- «(key(elem), i, elem)» -/
theorem e_keyTup (G : Gd w h₀) (Z : Fm h₀ L s₀ news m s) (kc : KC w hb q n ev is p) (hbk : ∀ b o, hb.get? b = some o → h₀.get? b = some o) (hr : r < n) (hroom : A.depth < recursionLimit)
    (a : EvV w A env s.heap (.Name kx p1) (.ref q)) (h1 : m ex = some (ev r)) (h2 : m ix = some (.int i t))
    (h : ∀ t' kt vs s', Fm h₀ L s₀ ((t', tupOf [.ref kt, .int i t, ev r]) :: (kt, tupOf vs) :: news) m s' → KV vs (is r) (p r) → kt ≠ t' → (∀ p ∈ news, p.1 ≠ t' ∧ p.1 ≠ kt) → Q (.ref t') s')
    (hL : env.locals = L := by rfl) (hk : env.scope.kind = .function := by rfl) (l1 : env.kindOf ex = some .local := by rfl) (l2 : env.kindOf ix = some .local := by rfl)
    (d1 : (ex == ("__debug__" : Str)) = false := by decide) (d2 : (ix == ("__debug__" : Str)) = false := by decide) :
    wpAny (MM w) A (eval (.Tuple [.Call (.Name kx p1) [.Name ex p2] [] p3, .Name ix p4, .Name ex p5] kk pos) env) Q E s := by
  refine wpAny_Tuple (wpAny_items_cons (callP1 a (.K G Z.keep kc.kp) (EvV.name Z.ns h1 hL hk l1 d1) (fun v s₁ hv h₁ r₁ => ?_) rfl) rfl)
  subst hv
  have Z₁ := Z.touch h₁ r₁
  refine kc.key r hr A s₁ _ _ (fun b o e => Z₁.keep b o (hbk b o e)) hroom fun kt s₂ r₂ x₂ n₂ ⟨vs, e₂, hkv⟩ => ?_
  obtain ⟨Z₂, nn⟩ := Z₁.got r₂ x₂ n₂ e₂
  refine (EvL.cons (EvV.name Z₂.ns h2 hL hk l2 d2) (EvL.cons (EvV.name Z₂.ns h1 hL hk l1 d1) .nil rfl) rfl) _ s₂ _ E rfl fun vs' s₃ hv h₃ r₃ => ?_
  obtain ⟨_, _, rfl, rfl, _, _, rfl, rfl, rfl⟩ := hv
  refine ⟨by rw [sizeLine_eq]; simp, ?_⟩
  obtain ⟨Z₄, n4⟩ := (Z₂.touch h₃ r₃).new (ob := tupOf [.ref kt, .int i t, ev r]) (tk := s₃.toks)
  exact h _ kt vs _ Z₄ hkv (n4 _ (.head _)) fun p hp => ⟨n4 p (.tail _ hp), nn p hp⟩
end
end Mine

end
section
open PySem PySem.W PySem.Calls PyProof.Rows PySem.SeqAt
namespace Mine

abbrev eNs (L : Addr) : Env := envOfC (Str.ofString "nsmallest") (scp (st 15)) L 217 (.ref 216)
abbrev eNl (L : Addr) : Env := envOfC (Str.ofString "nlargest") (scp (st 16)) L 223 (.ref 222)

/-- what the first comprehension of nsmallest and nlargest keeps -/
def CJ (ev : Nat → Value) (is : Nat → List Int) (p : Nat → Str) (ρ : List Nat) (i : Nat) (ys : List Value) (hx : Heap) : Prop := ∃ item : Nat → Value, ys = (ρ.take i).map item ∧ ∀ r ∈ ρ.take i, TupOf hx ev is p r (item r)
theorem CJ.snoc {ev : Nat → Value} {is : Nat → List Int} {p : Nat → Str} {ρ : List Nat} {i : Nat} {ys : List Value} {hx hx' : Heap} {y : Value} (a : CJ ev is p ρ i ys hx) (hk : ∀ b o, hx.get? b = some o → hx'.get? b = some o) (hd : ρ.Nodup) (hi : i < ρ.length)
    (hy : TupOf hx' ev is p (ρ.getD i 0) y) : CJ ev is p ρ (i + 1) (ys ++ [y]) hx' := by
  obtain ⟨item, e, hT⟩ := a
  have hgi : ρ.getD i 0 = ρ[i] := by simp [hi]
  have hni : ρ[i] ∉ ρ.take i := fun hm => by
    obtain ⟨j, hj, e⟩ := List.getElem_of_mem hm
    simp only [List.length_take] at hj
    rw [List.getElem_take] at e
    exact List.pairwise_iff_getElem.mp hd j i (by omega) hi (by omega) e
  have htk : ρ.take (i + 1) = ρ.take i ++ [ρ[i]] := by rw [List.take_succ_eq_append_getElem hi]
  refine ⟨fun r => if r = ρ[i] then y else item r, ?_, ?_⟩
  · rw [htk, List.map_append, List.map_cons, List.map_nil, if_pos rfl, e]
    congr 1
    refine List.map_congr_left fun r hr => ?_
    rw [if_neg (fun h : r = ρ[i] => hni (h ▸ hr))]
  · intro r hr
    rw [htk] at hr
    rcases List.mem_append.mp hr with hr | hr
    · show TupOf hx' ev is p r (if r = ρ[i] then y else item r)
      rw [if_neg (fun h : r = ρ[i] => hni (h ▸ hr))]; exact (hT r hr).keeps hk
    · have : r = ρ[i] := by simpa using hr
      subst this
      show TupOf hx' ev is p ρ[i] (if ρ[i] = ρ[i] then y else item ρ[i])
      rw [if_pos rfl, ← hgi]; exact hy

section
variable {w : World} {A : Around} {E : Value → Shared → Prop} {h₀ hb hi : Heap} {L I q : Addr} {s₀ s : Shared} {o : Obj} {m : Str → Option Value} {fp : List Addr} {xs : List Value} {St : Nat → Heap → Prop} {Fn : Heap → Prop} {en : Prop}
  {n mm : Nat} {ev : Nat → Value} {is : Nat → List Int} {p : Nat → Str} {ρ : List Nat} {N : Int} {t : Tok} {Q : Flow → Shared → Prop}

set_option maxHeartbeats 4000000 in
theorem ns_comp (G : Gd w h₀) (hh : A.handled = none) (hroom : A.depth < recursionLimit) (Z : Fm h₀ L s₀ [(I, o)] m s) (T : Itr w hi I fp xs St Fn en) (hik : ∀ b o, hi.get? b = some o → h₀.get? b = some o) (hst : St 0 s.heap)
    (kc : KC w hb q n ev is p) (hbk : ∀ b o, hb.get? b = some o → h₀.get? b = some o) (hxs : xs = ρ.map ev) (hd : ρ.Nodup) (hρ : ∀ r ∈ ρ, r < n) (h8 : ρ.length ≤ 8)
    (hcell : h₀.IsCell (L + 1) (some (.ref q))) (mi : m "it" = some (.ref I)) (mn : m "n" = some (.int N t)) (hN : -10 ≤ N ∧ N ≤ 10) (hm : Builtin.Range.rangeSize 0 N 1 = (mm : Int)) (hen : xs.length < mm → en)
    (cont : ∀ D hx item o' s' ep, (∀ b o, h₀.get? b = some o → hx.get? b = some o) → Fm hx L s₀ [(D, listOf (ranked item (ρ.take mm)) ep), (I, o')] (upd m "result" (.ref D)) s' → D ≠ I → (∀ r ∈ ρ.take mm, TupOf hx ev is p r (item r)) →
      (if mm ≤ xs.length then St mm s'.heap else Fn s'.heap) → wpAny (MM w) A (execs ((txt (st 15)).drop 5) (eNs L)) Q E s') :
    wpAny (MM w) A (execs ((txt (st 15)).drop 4) (eNs L)) Q E s := by
  have hlen : xs.length = ρ.length := by rw [hxs, List.length_map]
  have zI := Z.nw _ (.head _)
  have hfpL : ∀ b ∈ fp, b ≠ L := fun b hb' => by
    by_cases hbI : b = I
    · rw [hbI]; exact zI.2.1
    · obtain ⟨o', e⟩ := T.low b hb' hbI
      rintro rfl
      have := Z.off; rw [hik _ _ e] at this; cases this
  refine comp_use (L := L) (s₀ := s₀) (m₀ := m) (news := []) (h₀ := h₀) (cl := [("key", L + 1)]) (callN (EvV.bltN (v := .type "zip") G Z.keep) (fun s₁ h₁ r₁ => ?_) rfl rfl) rfl rfl rfl
  have Z₁ := Z.touch h₁ r₁
  refine wpAny_items_cons (callP1 (EvV.bltN (v := .type "range") G Z₁.keep) .type (EvI.name Z₁.ns mn) (fun v s₂ hv h₂ r₂ => ?_) rfl) rfl
  obtain ⟨t', rfl⟩ := hv
  have Z₂ := Z₁.touch h₂ r₂
  refine call_range_1 ?_
  obtain ⟨Z₃, n3⟩ := Z₂.new (ob := rangeOb 0 N 1 s₂.toks t' (s₂.toks + 1)) (tk := s₂.toks + 1 + 1)
  refine wpAny_items_cons (EvV.go (EvV.name Z₃.ns mi) fun s₄ h₄ r₄ => wpAny_items_nil ⟨.type, ?_⟩) rfl
  have Z₄ := Z₃.touch h₄ r₄
  have hI₄ : s₄.heap.get? I = some o := (Z₄.nw _ (.tail _ (.head _))).1
  have hst₄ : St 0 s₄.heap := by
    obtain ⟨o', vs, e1, _, e2⟩ := T.of 0 _ hst
    rw [zI.1] at e1
    cases e1
    exact e2 _ hI₄ fun b o e => Z₄.keep b o (hik b o e)
  have hsm : Builtin.Range.small 0 N 1 = true := small_one (by omega) (by omega) (by omega) (by omega)
  refine call_zipR (I := I) (Z₄.nw _ (.head _)).1 hsm hm (T.self 0 _ hst₄) fun z TI TO i1 s₅ z1 z2 z3 z4 a1 a2 a3 a4 a5 a6 nz nTI nTO ni1 x₅ r₅ => ?_
  have Z₅ := Z₄.ext0 r₅ x₅
  refine wpAny_pyIter_zip z1 ?_
  have alv : ∀ b ∈ fp, ∃ o, s₄.heap.get? b = some o := (T.nx A hh).alive 0 _ hst₄
  have nf : ∀ b, s₄.heap.get? b = none → b ∉ fp := fun b hn h => by obtain ⟨o, e⟩ := alv _ h; rw [hn] at e; cases e
  have hap : ZApart z TI TO i1 fp := ⟨a1, a2, a3, a4, a5, a6, nf _ nz, nf _ nTI, nf _ nTO, nf _ ni1⟩
  have tz := Trn.zip (w := w) (A := A) (elts := [.Name "i" ⟨193, 39, 193, 40⟩, .Name "elem" ⟨193, 42, 193, 46⟩]) (kk := 0) (pos := ⟨193, 39, 193, 46⟩) hh (T.nx A.in1 hh) hap 0 1 mm hen
  have hst₅ : St 0 s₅.heap := (T.nx A hh).frame _ _ _ hst₄ fun b _ o e => x₅.nil b o e
  have neL : ∀ b, s₄.heap.get? b = none → L ≠ b := fun b hn q => by obtain ⟨oL, _, _, hL, _⟩ := Z₄.ns; rw [q, hn] at hL; cases hL
  have h0n : ∀ b, s₄.heap.get? b = none → h₀.get? b = none := fun b hn => none_of Z₄.keep hn
  have hw0 : ∀ b ∈ z :: TO :: i1 :: [I], h₀.get? b = none := fun b hb => by
    simp only [List.mem_cons, List.not_mem_nil, or_false] at hb
    rcases hb with rfl | rfl | rfl | rfl
    · exact h0n _ nz
    · exact h0n _ nTO
    · exact h0n _ ni1
    · exact zI.2.2
  have hLw : L ∉ z :: TO :: i1 :: [I] := fun hb => by
    simp only [List.mem_cons, List.not_mem_nil, or_false] at hb
    rcases hb with h | h | h | h
    · exact neL _ nz h
    · exact neL _ nTO h
    · exact neL _ ni1 h
    · exact zI.2.1 h.symm
  refine ⟨z, _, _, _, _, _, _, _, rfl, tz, ⟨z1, z2, ⟨_, _, z3⟩, ?_, hst₅⟩, ?_, CJ ev is p ρ, m, Z₅.ns, hLw, Z₅.rest, fun hx => ⟨fun _ => .none, by simp, by simp⟩, ?_, ?_, ?_, ?_⟩
  · simpa using z4
  · exact Nat.le_trans (Nat.min_le_right ..) (by omega)
  · rintro i ys hx ⟨item, rfl, _⟩
    simp; omega
  · intro i v ys C hb₂ hx s₆ m₆ E' hi' hP hJ hxb hsx Z₆
    obtain ⟨T', t6, x, rfl, hx6, hT6⟩ := hP
    have hiρ : i < ρ.length := by omega
    have hgd : ρ.getD i 0 = ρ[i] := by simp [hiρ]
    have hmem : ρ.getD i 0 ∈ ρ := by rw [hgd]; exact List.getElem_mem hiρ
    have hxe : x = ev (ρ.getD i 0) := by
      rw [hxs, List.getElem?_map, List.getElem?_eq_getElem hiρ] at hx6
      rw [hgd]; simpa using hx6.symm
    subst hxe
    have h0x : ∀ b o, h₀.get? b = some o → hx.get? b = some o := fun b o e => hsx b o (fun h => by rw [hw0 b h] at e; cases e) (Z₅.keep b o e)
    have h0b : ∀ b o, h₀.get? b = some o → hb₂.get? b = some o := fun b o e => hxb b o (h0x b o e)
    have G₂ := G.keeps h0b
    refine a_unpack2 hh Z₆ ⟨_, hT6, rfl, 0, rfl⟩ fun s₇ Z₇ => ?_
    have hc7 : s₇.heap.IsCell (L + 1) (some (.ref q)) := by
      obtain ⟨oc, e1, e2⟩ := hcell
      exact ⟨oc, Z₇.keep _ _ (h0b _ _ e1), e2⟩
    refine e_keyTup G₂ Z₇ (kc.keeps hbk) h0b (hρ _ hmem) hroom (EvV.cell hc7) (by walk_at "lk") (by walk_at "lk") ?_
    intro t' kt vs s₈ Z₈ hkv hne _
    refine ⟨_, _, Z₈, fun hx' hxx hnw => hJ.snoc hxx hd hiρ ⟨t', kt, _, _, rfl, hnw _ (.head _), vs, hnw _ (.tail _ (.head _)), hkv⟩⟩
  · intro D ys hx ep s₆ hD0 hD hJ hxs6 hxD hsx r₆ hFn hns
    obtain ⟨item, rfl, hT⟩ := hJ
    have htk : ρ.take (min mm xs.length) = ρ.take mm := by rw [hlen, List.take_eq_take_iff]; omega
    rw [htk] at hD hT
    have hI6 : ∃ o' vs, s₆.heap.get? I = some o' ∧ o'.data = .fields vs := by
      by_cases hle : mm ≤ xs.length
      · rw [if_pos hle] at hFn
        obtain ⟨o', vs, e1, e2, _⟩ := T.of mm _ hFn
        exact ⟨o', vs, e1, e2⟩
      · rw [if_neg hle] at hFn
        obtain ⟨o', vs, e1, e2, _⟩ := T.fin _ hFn
        exact ⟨o', vs, e1, e2⟩
    obtain ⟨o', vs', hI6, hI6d⟩ := hI6
    have hDL : D ≠ L := fun h => by obtain ⟨oL, _, _, hL, _⟩ := Z₅.ns; rw [← h, hD0] at hL; cases hL
    have hDI : D ≠ I := fun h => by
      have := x₅.nil _ _ hI₄
      rw [← h, hD0] at this; cases this
    have h0x : ∀ b o, h₀.get? b = some o → hx.get? b = some o := fun b o e => hsx b o (fun h => by rw [hw0 b h] at e; cases e) (Z₅.keep b o e)
    have hb3 : ∀ b o, h₀.get? b = some o → b ∉ [L, D, I] := fun b o e q => by
      simp only [List.mem_cons, List.not_mem_nil, or_false] at q
      rcases q with rfl | rfl | rfl
      · rw [Z.off] at e; cases e
      · rw [none_of Z₅.keep hD0] at e; cases e
      · rw [zI.2.2] at e; cases e
    refine cont D (hideAll s₆.heap [L, D, I]) item o' s₆ ep (fun b o e => hideAll_get _ (hxs6 b o (fun h => hb3 b o e (by simp [h])) (h0x b o e)) (hb3 b o e)) ⟨hns, fun b o e => of_hideAll _ e, hideAll_none _ (by simp), fun p hp => ?_, Z₅.rest.trans r₆⟩ hDI (fun r hr => (hT r hr).keepsT fun b us e => ?_) hFn
    · simp only [List.mem_cons, List.not_mem_nil, or_false] at hp
      rcases hp with rfl | rfl
      · exact ⟨hD, hDL, hideAll_none _ (by simp)⟩
      · exact ⟨hI6, zI.2.1, hideAll_none _ (by simp)⟩
    · have hbL : b ≠ L := by
        rintro rfl
        obtain ⟨oL, es, ep', hL, hdL, _⟩ := Z₅.ns
        have := hsx _ _ hLw hL
        rw [e] at this
        injection this with this
        rw [← this] at hdL
        cases hdL
      have hbD : b ≠ D := by rintro rfl; rw [hxD] at e; cases e
      have e6 := hxs6 b _ hbL e
      have hbI : b ≠ I := by
        rintro rfl
        rw [e6] at hI6
        injection hI6 with hI6
        rw [← hI6] at hI6d
        cases hI6d
      exact hideAll_get _ e6 (by simp [hbL, hbD, hbI])
  · intro h h' hF hk
    by_cases hle : mm ≤ xs.length
    · rw [if_pos hle] at hF ⊢
      exact (T.nx A hh).frame _ _ _ hF fun b hb' o e => hk b (by simp [hb']) (hfpL b hb') o e
    · rw [if_neg hle] at hF ⊢
      exact (T.nx A hh).frameF _ _ hF fun b hb' o e => hk b (by simp [hb']) (hfpL b hb') o e
end
end Mine

end
section
open PySem PySem.W PySem.Calls PyProof.Rows PySem.SeqAt
namespace Mine

abbrev MethEqK (o : Expr) (name : Str) (apos pos : Pos) (args : List Expr) (kws : List Keyword) (env : Env) (pl : Sem Bool) : Prop :=
  eval (.Call (.Attribute o name apos) args kws pos) env = (do
      let ov ← eval o env
      standAt apos.atName
      let (f, first) ← holding [ov] (getMethod ov name pl)
      callWith pos f first (backTo pos (starEach args env)) (backToKw pos (keywordEach kws env)))

section
variable {w : World} {A : Around} {E : Value → Shared → Prop} {env : Env} {h₀ : Heap} {L : Addr} {s₀ s : Shared} {news : List (Addr × Obj)} {m : Str → Option Value} {rest : List Stmt} {e o : Expr} {pos apos : Pos} {pl : Sem Bool} {D : Addr}

/-- an expression as a statement, whatever it gives -/
theorem s_exprA {Q : Flow → Shared → Prop} (h : wpAny (MM w) A (eval e env) (fun v s' => wpAny (MM w) A (execs rest env) Q E s') E s)
    (hi : interactive env = false := by rfl) (hs : swapsWith e none pos.line env = pure false := by rfl) : wpAny (MM w) A (execs (.Expr e pos :: rest) env) Q E s :=
  xs_cons (wpAny_Expr_any h hi hs)

theorem MethodCallK {name : Str} {args : List Expr} {kws : List Keyword} {Q : Value → Shared → Prop}
    (h : wpAny (MM w) A (eval o env) (fun ov s₁ => wpAny (MM w) A (getMethod ov name pl) (fun fx s₂ => wpAny (MM w) A (callWith pos fx.1 fx.2 (backTo pos (starEach args env)) (backToKw pos (keywordEach kws env))) Q E s₂) E s₁) E s)
    (he : MethEqK o name apos pos args kws env pl := by rfl) : wpAny (MM w) A (eval (.Call (.Attribute o name apos) args kws pos) env) Q E s := by
  rw [he]
  exact wpAny_bind (wpAny_mono h (fun ov s₁ h₁ => wpAny_bind (wpAny_standAt (wpAny_bind (wpAny_holding (wpAny_mono h₁ (fun fx s₂ h₂ => h₂) fun _ _ x => x))))) fun _ _ x => x)

/-- «x.sort()» -/
theorem e_sort {item : Nat → Value} {rs : List Nat} {ep : Nat} {κ : SortKind} {Q : Value → Shared → Prop} (Z : Fm h₀ L s₀ ((D, listOf (ranked item rs) ep) :: news) m s) (hn : ∀ p ∈ news, p.1 ≠ D) (a : EvV w A env s.heap o (.ref D)) (h2 : 2 ≤ rs.length) (h8 : rs.length ≤ 8) (ok : srtOk rs = true)
    (O : SortBy w A.in1 s.heap [D] κ (rs.map item) rs)
    (h : ∀ s' c, Fm h₀ L s₀ ((D, listOf (ranked item (srtP rs)) c) :: news) m s' → Q .none s') (he : MethEq o "sort" apos pos [] env pl := by rfl) :
    wpAny (MM w) A (eval (.Call (.Attribute o "sort" apos) [] [] pos) env) Q E s := by
  refine MethodCall_ (a s _ E rfl fun x s₁ hx h₁ r₁ => ?_) he
  subst hx
  have Z := Z.touch h₁ r₁
  have z := Z.nw _ (List.Mem.head _)
  refine getMethL z.1 F.slot_list_sort F.type_list_sort ?_
  refine callWith_of (P := fun h => Kp w h (.builtin "list.sort")) rfl (fun _ k => k) (evalArgs_nil3 ⟨.blt, ?_⟩)
  show wpAny (MM w) A (call (.builtin "list.sort") [.ref D]) _ _ _
  refine wpAny_call_entry F.slot_list_sort ⟨_, z.1, rfl⟩ F.entry_list_sort ?_ (F.args_list_sort_1 _)
  show wpAny (MM w) A.in1 (Builtin.«list.sort» ⟨[.ref D], []⟩) _ _ _
  rw [pl_plain]
  refine plT_spec (b := false) z.1 h2 h8 ok (h₁ ▸ O) fun s' c r x hD => ⟨_, rfl, h s' c (Z.ext r x hD hn)⟩
/-- «x.sort(reverse=True)» -/
theorem e_sortR {item : Nat → Value} {rs : List Nat} {ep : Nat} {κ : SortKind} {kp vp : Pos} {k : Nat} {Q : Value → Shared → Prop} (Z : Fm h₀ L s₀ ((D, listOf (ranked item rs) ep) :: news) m s) (hn : ∀ p ∈ news, p.1 ≠ D) (a : EvV w A env s.heap o (.ref D)) (h2 : 2 ≤ rs.length) (h8 : rs.length ≤ 8) (ok : srtOk rs.reverse = true)
    (O : SortBy w A.in1 s.heap [D] κ (rs.map item) rs)
    (h : ∀ s' c, Fm h₀ L s₀ ((D, listOf (ranked item (srtP rs.reverse).reverse) c) :: news) m s' → Q .none s') (he : MethEqK o "sort" apos pos [] [{ arg := some "reverse", value := .Constant (.bool true) k vp, pos := kp }] env pl := by rfl) :
    wpAny (MM w) A (eval (.Call (.Attribute o "sort" apos) [] [{ arg := some "reverse", value := .Constant (.bool true) k vp, pos := kp }] pos) env) Q E s := by
  refine MethodCallK (a s _ E rfl fun x s₁ hx h₁ r₁ => ?_) he
  subst hx
  have Z := Z.touch h₁ r₁
  have z := Z.nw _ (List.Mem.head _)
  refine getMethL z.1 F.slot_list_sort F.type_list_sort ?_
  refine callWith_of (P := fun h => Kp w h (.builtin "list.sort")) rfl (fun _ k => k) (evalArgs_kw2_nil rfl (kwAll_cons (EvV.go EvV.bool fun s₂ h₂ r₂ => kwAll_nil ⟨.blt, ?_⟩)))
  have Z₂ := Z.touch h₂ r₂
  have z₂ := Z₂.nw _ (List.Mem.head _)
  show wpAny (MM w) A (call (.builtin "list.sort") [.ref D] [(Str.ofString "reverse", .bool true)]) _ _ _
  refine wpAny_call_entry_kw F.slot_list_sort ⟨_, z₂.1, rfl⟩ F.entry_list_sort ?_ (args_sort_rev _ _)
  rw [pl_rev]
  refine plT_spec (b := true) z₂.1 h2 h8 ok (h₂ ▸ h₁ ▸ O) fun s' c r x hD => ⟨_, rfl, h s' c (Z₂.ext r x hD hn)⟩

/-- a list's items, unpacked -/
theorem Trn.listT {elts : List Expr} {k : Nat} {I l : Addr} (hh : A.handled = none) (hne : l ≠ I) (items : Array Value) (hr : ∀ (i : Nat) (v : Value), items[i]? = some v → ∃ T, v = .ref T) :
    Trn w A (.Tuple elts k pos) I [I, l] [I] items.size (fun i v _ => items[i]? = some v) (fun i v h => items[i]? = some v ∧ h.IsListIter I l (i + 1) ∧ h.IsList l items) (fun i h => h.IsListIter I l i ∧ h.IsList l items) (fun _ => True) where
  sub := fun b hb => by simp at hb; simp [hb]
  frame := (Walks.list (prog := PR) (w := w) (A := A) hh I l hne items).frame
  frameF := fun _ _ _ _ => trivial
  item := fun i s Q E hi st hQ => (Walks.list (prog := PR) (w := w) (A := A) hh I l hne items).item i s Q E hi st fun v h' tk hv st' hk => hQ v h' tk ⟨hv, st'⟩ hk
  go := fun i v s Q E hm hQ => by
    obtain ⟨T, rfl⟩ := hr i v hm.1
    exact wpAny_letOwnedTupleGo_listiter hm.2.1 (hQ s.heap hm.1 hm.2 fun _ _ _ e => e)
  done := fun s Q E st hQ => (Walks.list (prog := PR) (w := w) (A := A) hh I l hne items).done s Q E st fun h' tk hk => hQ h' tk trivial hk
  self := (Walks.list (prog := PR) (w := w) (A := A) hh I l hne items).self
  alive := fun i h st b hb => by
    simp only [List.mem_cons, List.not_mem_nil, or_false] at hb
    rcases hb with rfl | rfl
    · obtain ⟨o, e, _⟩ := st.1; exact ⟨o, e⟩
    · obtain ⟨o, e, _⟩ := st.2; exact ⟨o, e⟩

variable {ev : Nat → Value} {is : Nat → List Int} {p : Nat → Str} {item : Nat → Value} {rs : List Nat} {ep : Nat} {scope : Scope} {a b c : Str} {p0 p1 p2 p3 tp ip : Pos} {k : Nat}
/-- «[elem for k, order, elem in result]» -/
theorem e_elems {x : Str} {Q : Value → Shared → Prop} (hh : A.handled = none) (Z : Fm h₀ L s₀ news m s) (hm : m x = some (.ref D)) (hD : s.heap.get? D = some (listOf (ranked item rs) ep)) (h8 : rs.length ≤ 8) (hT : ∀ r ∈ rs, TupOf s.heap ev is p r (item r))
    (h : ∀ R ep s', s.heap.get? R = none → s'.heap.get? R = some (listOf (ranked ev rs) ep) → Ext [] s.heap s'.heap → Rest s s' → Q (.ref R) s')
    (hclos : closureFor scope env = pure [] := by rfl) (hkind : scope.kind = .function := by rfl) (hnames : ∀ y ∈ scope.names, y.2 = .local → scope.names.lookup y.1 = some .local := by decide) (hcell : ∀ y ∈ scope.names, y.2 ≠ .cell := by decide)
    (hL : env.locals = L := by rfl) (hk : env.scope.kind = .function := by rfl) (hl : env.kindOf x = some .local := by rfl) (hd : (x == ("__debug__" : Str)) = false := by decide)
    (la : scope.names.lookup a = some .local := by rfl) (lb : scope.names.lookup b = some .local := by rfl) (lc : scope.names.lookup c = some .local := by rfl) (hdc : (c == ("__debug__" : Str)) = false := by decide) :
    wpAny (MM w) A (eval (.ListComp (.Name c p0) [⟨.Tuple [.Name a p1, .Name b p2, .Name c p3] k tp, .Name x ip, [], 0⟩] scope pos) env) Q E s := by
  refine e_comp (cl := []) (EvV.go (EvV.name Z.ns hm hL hk hl hd) fun s₁ h₁ r₁ => ?_) hclos hkind hnames (fun _ => rfl)
  have hDl : s₁.heap.IsList D (ranked item rs) := ⟨_, h₁ ▸ hD, rfl, ep, rfl⟩
  refine wpAny_pyIter_list hDl ?_
  have hlt : D < s₁.heap.objs.size := Heap.lt_size (h₁ ▸ hD)
  have upS : ∀ b o, s.heap.get? b = some o → s₁.heap.get? b = some o := fun b o e => by rw [h₁]; exact e
  have hmm : ∀ i, i < rs.length → rs.getD i 0 ∈ rs := fun i hi => by simp [hi]
  have hget : ∀ (i : Nat) (v : Value), (ranked item rs)[i]? = some v → i < rs.length ∧ v = item (rs.getD i 0) := fun i v e => by
    have hi : i < rs.length := by have := (Array.getElem?_eq_some_iff.mp e).1; simpa using this
    rw [ranked_get hi] at e
    exact ⟨hi, (Option.some.inj e).symm⟩
  have tr := Trn.listT (w := w) (A := A) (elts := [.Name a p1, .Name b p2, .Name c p3]) (k := k) (pos := tp) (I := s₁.heap.objs.size) hh (Nat.ne_of_lt hlt) (ranked item rs) (fun i v e => by
    obtain ⟨hi, rfl⟩ := hget i v e
    obtain ⟨t, _, _, _, e1, _⟩ := hT _ (hmm i hi)
    exact ⟨t, e1⟩)
  refine comp_loop tr ⟨⟨_, Heap.get?_push_size _ rfl, rfl, rfl⟩, ⟨_, Heap.get?_push_of_some _ (h₁ ▸ hD), rfl, ep, rfl⟩⟩ (by rw [sizeR]; omega) (fun i ys _ => ys = (rs.take i).map ev) (fun _ => by simp) ?_ ?_ (fun i ys _ e => by rw [e]; simp; omega) hcell hkind
  · intro i v ys C hb hx s₂ m₂ E' hi' hP hJ hxb hsx Z₂
    obtain ⟨hi, rfl⟩ := hget i v hP
    obtain ⟨t, kt, j, tk, e1, e2, e3⟩ := hT _ (hmm i hi)
    rw [e1]
    have ht2 : s₂.heap.get? t = some (tupOf [.ref kt, .int j tk, ev (rs.getD i 0)]) := Z₂.keep _ _ (hxb _ _ (hsx _ _ (by simp only [List.mem_singleton]; rintro rfl; have := Heap.lt_size (upS _ _ e2); exact Nat.lt_irrefl _ this) (Heap.get?_push_of_some _ (upS _ _ e2))))
    refine a_unpack3 hh Z₂ ⟨_, ht2, rfl, 0, rfl⟩ (fun s₃ Z₃ => ?_) rfl hkind (lookup_relabel_local la) (lookup_relabel_local lb) (lookup_relabel_local lc)
    refine EvV.go (EvV.name Z₃.ns upd_same rfl hkind (lookup_relabel_local lc) hdc) fun s₄ h₄ r₄ => ⟨[], _, Z₃.touch h₄ r₄, fun hx' _ _ => ?_⟩
    rw [hJ, List.take_succ_eq_append_getElem hi, List.map_append]
    simp [hi]
  · intro R ys hx ep' s' hR0 hR hJ hxs hxR hsx r' _
    have e : rs.take (ranked item rs).size = rs := by rw [sizeR, List.take_length]
    rw [e] at hJ
    subst hJ
    refine h R ep' s' ?_ hR (fun b o _ e => hxs b o (hsx b o ?_ (Heap.get?_push_of_some _ (upS _ _ e)))) (r₁.trans (Rest.trans .heap r'))
    · cases e : s.heap.get? R with
      | none => rfl
      | some o => rw [Heap.get?_push_of_some _ (upS _ _ e)] at hR0; cases hR0
    · simp only [List.mem_singleton]; rintro rfl; have := Heap.lt_size (upS _ _ e); exact Nat.lt_irrefl _ this
end
end Mine

end
section
open PySem PySem.W PySem.Calls PyProof.Rows PySem.SeqAt
namespace Mine

def nsStep (rs : List Nat) (r : Nat) : List Nat := if ltN r (rs.getD 0 0) = true then su gtN (rs.set 0 r) 0 else rs
def nsRun (rs l : List Nat) : List Nat := l.foldl nsStep rs
theorem nsRun_snoc {rs l : List Nat} {r : Nat} : nsRun rs (l ++ [r]) = nsStep (nsRun rs l) r := by simp [nsRun]

theorem take_snoc {ρ : List Nat} {mm i : Nat} (h : mm + i < ρ.length) : (ρ.drop mm).take (i + 1) = (ρ.drop mm).take i ++ [ρ.getD (mm + i) 0] := by
  have hi : i < (ρ.drop mm).length := by simp; omega
  rw [List.take_succ_eq_append_getElem hi]
  simp [h]
theorem take_mono {ρ : List Nat} {a b : Nat} (h : a ≤ b) {r : Nat} (hr : r ∈ ρ.take a) : r ∈ ρ.take b := by
  have : (ρ.take b).take a = ρ.take a := by rw [List.take_take, Nat.min_eq_left h]
  rw [← this] at hr
  exact List.mem_of_mem_take hr
theorem get_notin {ρ : List Nat} (hd : ρ.Nodup) {i : Nat} (hi : i < ρ.length) : ρ.getD i 0 ∉ ρ.take i := fun hm => by
  obtain ⟨j, hj, e⟩ := List.getElem_of_mem hm
  simp only [List.length_take] at hj
  rw [List.getElem_take] at e
  have : ρ.getD i 0 = ρ[i] := by simp [hi]
  rw [this] at e
  exact List.pairwise_iff_getElem.mp hd j i (by omega) hi (by omega) e
theorem get_in {ρ : List Nat} {i : Nat} (hi : i < ρ.length) : ρ.getD i 0 ∈ ρ.take (i + 1) := by
  have : ρ.getD i 0 = ρ[i] := by simp [hi]
  rw [this, List.take_succ_eq_append_getElem hi]
  exact List.mem_append_right _ (.head _)

/-- between the turns of the loop of nsmallest -/
inductive NJ (ev : Nat → Value) (is : Nat → List Int) (p : Nat → Str) (ρ : List Nat) (mm : Nat) (D hr : Addr) (run : List Nat → List Nat) (len : Nat) (i : Nat) : List (Addr × Obj) → (Str → Option Value) → Heap → Prop
  | mk (item : Nat → Value) (rs : List Nat) (ep : Nat) (kt : Addr) (od : Int) (tk : Tok) (m : Str → Option Value) (hx : Heap) : rs = run ((ρ.drop mm).take i) → Rk (fun r => r ∈ ρ.take (mm + i)) rs → rs.length = len → (∀ r ∈ rs, TupOf hx ev is p r (item r)) →
      m "result" = some (.ref D) → m "top" = some (.ref kt) → KeyAt hx kt (is (rs.getD 0 0)) (p (rs.getD 0 0)) → m "order" = some (.int od tk) → m "_heapreplace" = some (.ref hr) → NJ ev is p ρ mm D hr run len i [(D, listOf (ranked item rs) ep)] m hx

theorem ranked_other {item : Nat → Value} {rs : List Nat} {r : Nat} {v : Value} (h : r ∉ rs) : ranked (fun x => if x = r then v else item x) rs = ranked item rs := by
  unfold ranked
  congr 1
  refine List.map_congr_left fun x hx => ?_
  rw [if_neg (fun e : x = r => h (e ▸ hx))]

section
variable {w : World} {A : Around} {E : Value → Shared → Prop} {h₀ hb hi : Heap} {L I q : Addr} {s₀ s : Shared} {o : Obj} {m : Str → Option Value} {fp : List Addr} {xs : List Value} {St : Nat → Heap → Prop} {Fn : Heap → Prop} {en : Prop}
  {n mm : Nat} {ev : Nat → Value} {is : Nat → List Int} {p : Nat → Str} {ρ : List Nat} {N : Int} {t : Tok} {Q : Flow → Shared → Prop}

set_option maxHeartbeats 8000000 in
theorem ns_loop {D kt : Addr} {item : Nat → Value} {ep : Nat} {rs₀ : List Nat} {od : Int} {tk : Tok} (G : Gd w h₀) (hh : A.handled = none) (hroom : A.depth + 10 < recursionLimit) (hu : A.units + 200 < cLine) (Z : Fm h₀ L s₀ [(D, listOf (ranked item rs₀) ep), (I, o)] m s) (hDI : D ≠ I) (T : Itr w hi I fp xs St Fn en) (hik : ∀ b o, hi.get? b = some o → h₀.get? b = some o)
    (hst : if mm ≤ xs.length then St mm s.heap else Fn s.heap) (kc : KC w hb q n ev is p) (hbk : ∀ b o, hb.get? b = some o → h₀.get? b = some o) (hxs : xs = ρ.map ev) (hd : ρ.Nodup) (hρ : ∀ r ∈ ρ, r < n) (h8 : ρ.length ≤ 8)
    (hcell : h₀.IsCell (L + 1) (some (.ref q))) (mi : m "it" = some (.ref I)) (hen : xs.length < mm → en)
    (hR : Rk (fun r => r ∈ ρ.take mm) rs₀) (hpos : 0 < rs₀.length) (hT : ∀ r ∈ rs₀, TupOf h₀ ev is p r (item r)) (m1 : m "result" = some (.ref D)) (m2 : m "top" = some (.ref kt)) (hkt : KeyAt h₀ kt (is (rs₀.getD 0 0)) (p (rs₀.getD 0 0))) (m3 : m "order" = some (.int od tk)) (m4 : m "_heapreplace" = some (.ref 176))
    (cont : ∀ hx item ep m' s' E, (∀ b o, h₀.get? b = some o → hx.get? b = some o) → Fm hx L s₀ [(D, listOf (ranked item (nsRun rs₀ (ρ.drop mm))) ep)] m' s' → Rk (fun r => r ∈ ρ) (nsRun rs₀ (ρ.drop mm)) → (nsRun rs₀ (ρ.drop mm)).length = rs₀.length → (∀ r ∈ nsRun rs₀ (ρ.drop mm), TupOf hx ev is p r (item r)) → m' "result" = some (.ref D) →
      wpAny (MM w) A (execs ((txt (st 15)).drop 11) (eNs L)) Q E s') :
    wpAny (MM w) A (execs ((txt (st 15)).drop 10) (eNs L)) Q E s := by
  have hlen : xs.length = ρ.length := by rw [hxs, List.length_map]
  have zI := Z.nw _ (.tail _ (.head _))
  have zD := Z.nw _ (.head _)
  have hfpL : ∀ b ∈ fp, b ≠ L := fun b hb' => by
    by_cases hbI : b = I
    · rw [hbI]; exact zI.2.1
    · obtain ⟨o', e⟩ := T.low b hb' hbI
      rintro rfl
      have := Z.off; rw [hik _ _ e] at this; cases this
  have hfpD : ∀ b ∈ fp, b ≠ D := fun b hb' => by
    by_cases hbI : b = I
    · rw [hbI]; exact hDI.symm
    · obtain ⟨o', e⟩ := T.low b hb' hbI
      rintro rfl
      have := zD.2.2; rw [hik _ _ e] at this; cases this
  obtain ⟨St', hs0, W, hal⟩ := T.rest (A := A) (mm := mm) hh hen
  refine xs_cons (wpAny_For (EvV.go (EvV.name Z.ns mi) fun s₁ h₁ r₁ => ?_) fun _ => rfl)
  have Z₁ := Z.touch h₁ r₁
  have hst₁ : St' 0 s₁.heap := hs0 _ (h₁ ▸ hst)
  refine W.self 0 _ _ _ hst₁ ?_
  refine for_walkH (news := [(D, listOf (ranked item rs₀) ep)]) (Trn.ofWalks W hal) (NJ ev is p ρ mm D 176 (nsRun rs₀) rs₀.length) (Z₁.sub fun p hp => ?_) hst₁ ?_ ?_ ?_ ?_ ?_
  · rw [List.mem_singleton.mp hp]; exact .head _
  · exact .mk item rs₀ ep kt od tk m h₀ (by simp [nsRun]) (by simpa using hR) rfl hT m1 m2 hkt m3 m4
  · exact fun b hb' => ⟨hfpL b hb', by simpa using hfpD b hb'⟩
  · exact fun b hb' => by rw [List.mem_singleton.mp hb']; exact zI.2.2
  · rintro i v _ _ s₂ h₂ hx E' B hi' hP ⟨item, rs, ep, kt, od, tk, m, hx, hrs, hRk, hln, hT, m1, m2, hkt, m3, m4⟩ h0x hx2 Z₂ bn _
    have hi1 : mm + i < ρ.length := by omega
    have hve : v = ev (ρ.getD (mm + i) 0) := by
      have hP : xs[mm + i]? = some v := hP
      rw [hxs, List.getElem?_map, List.getElem?_eq_getElem hi1] at hP
      simp [hi1]; simpa using hP.symm
    have hmem : ρ.getD (mm + i) 0 ∈ ρ := by simp [hi1]
    have hrn := hρ _ hmem
    have hnin : ρ.getD (mm + i) 0 ∉ rs := fun h => get_notin hd hi1 (hRk.lt _ h)
    have hin1 := get_in hi1
    have hsn := take_snoc hi1
    generalize ρ.getD (mm + i) 0 = r at *
    subst hve
    have h02 : ∀ b o, h₀.get? b = some o → h₂.get? b = some o := fun b o e => hx2 b o (h0x b o e)
    have G₂ := G.keeps h02
    refine a_name Z₂ fun s₃ Z₃ => ?_
    have hc3 : ∀ {s : Shared} {news m}, Fm h₂ L s₀ news m s → s.heap.IsCell (L + 1) (some (.ref q)) := fun Z => by
      obtain ⟨oc, e1, e2⟩ := hcell
      exact ⟨oc, Z.keep _ _ (h02 _ _ e1), e2⟩
    refine s_asgW (s₀ := s₀) (callP1 (EvV.cell (hc3 Z₃)) (.K G₂ Z₃.keep kc.kp) (EvV.name Z₃.ns (by walk_at "lk")) (fun v s₄ hv h₄ r₄ => ?_) rfl)
    subst hv
    have Z₄ := Z₃.touch h₄ r₄
    refine kc.key r hrn A s₄ _ _ (fun b o e => Z₄.keep b o (h02 _ _ (hbk b o e))) (by omega) fun kt' s₅ r₅ x₅ n₅ ⟨vs, e₅, hkv⟩ => ?_
    obtain ⟨Z₅, nn⟩ := Z₄.got r₅ x₅ n₅ e₅
    refine ⟨_, _, _, Z₅, fun s₆ Z₆ => ?_⟩
    have hpos' : 0 < rs.length := by omega
    have hr0 : rs.getD 0 0 < n := hρ _ (List.mem_of_mem_take (hRk.get hpos'))
    refine s_if (b := ltN r (rs.getD 0 0)) Z₆ (.ltV (.name Z₆.ns (by walk_at "lk")) (.name Z₆.ns (by walk_at "lk")) fun s hs => ?_) fun B' s₇ Z₇ b1 _ _ _ => ⟨fun hb => ?_, fun hb => ?_⟩
    · have hk1 : KeyAt s.heap kt' (is r) (p r) := ⟨vs, hs ▸ (Z₆.nw _ (.head _)).1, hkv⟩
      have hk2 : KeyAt s.heap kt (is (rs.getD 0 0)) (p (rs.getD 0 0)) := hkt.keeps fun b o e => by rw [hs]; exact Z₆.keep b o (hx2 b o e)
      rw [← kc.KK.lt _ _ hrn hr0]
      exact KeyAt.lt hk1 hk2 (kc.KK.len _ _ hrn hr0) (by omega)
    · refine s_exprA (callN (EvV.name Z₇.ns (by walk_at "lk")) (fun s₈ h₈ r₈ => wpAny_items_cons ?_ rfl) rfl rfl)
      have Z₈ := Z₇.touch h₈ r₈
      refine EvV.go (EvV.name Z₈.ns (by walk_at "lk")) fun s₉ h₉ r₉ => wpAny_items_cons ?_ rfl
      have Z₉ := Z₈.touch h₉ r₉
      refine e_tuple Z₉ (.cons (EvV.name Z₉.ns (by walk_at "lk")) (.cons (EvV.name Z₉.ns (by walk_at "lk")) (.cons (EvV.name Z₉.ns (by walk_at "lk")) .nil))) (by decide) ?_ ?_
      · rintro _ ⟨_, _, rfl, rfl, _, _, rfl, rfl, _, _, rfl, rfl, rfl⟩; rfl
      rintro _ t' s₁₀ ⟨_, _, rfl, rfl, _, _, rfl, rfl, _, _, rfl, rfl, rfl⟩ Z₁₀ nt _
      refine wpAny_items_nil ⟨.K G₂ Z₁₀.keep (by k_is), ?_⟩
      have zt := Z₁₀.nw _ (.head _)
      have zk := Z₁₀.nw _ (.tail _ (.head _))
      have zd := Z₁₀.nw _ (.tail _ (.tail _ (.head _)))
      have ntD : D ≠ t' := nt (D, _) (.tail _ (.head _))
      have nkD : D ≠ kt' := nn (D, _) (.head _)
      have hid : ∀ b o, h₂.get? b = some o → (hideAll s₁₀.heap [D]).get? b = some o := fun b o e => hideAll_get _ (Z₁₀.keep b o e) (by simp only [List.mem_singleton]; rintro rfl; rw [zd.2.2] at e; cases e)
      have hnew : TupOf (hideAll s₁₀.heap [D]) ev is p r (.ref t') := ⟨t', kt', od, tk, rfl, hideAll_get _ zt.1 (by simpa using ntD.symm), vs, hideAll_get _ zk.1 (by simpa using nkD.symm), hkv⟩
      obtain ⟨item', ir, io⟩ : ∃ item' : Nat → Value, item' r = .ref t' ∧ ∀ x, x ≠ r → item' x = item x := ⟨fun x => if x = r then .ref t' else item x, if_pos rfl, fun x hx => if_neg hx⟩
      have hrk : ranked item' rs = ranked item rs := by
        unfold ranked
        congr 1
        exact List.map_congr_left fun x hx => io x (fun e : x = r => hnin (e ▸ hx))
      have hall : ∀ x, (x ∈ rs ∨ x = r) → TupOf (hideAll s₁₀.heap [D]) ev is p x (item' x) := fun x hx' => by
        by_cases hxr : x = r
        · rw [hxr, ir]; exact hnew
        · rw [io x hxr]; exact (hT x (hx'.resolve_right hxr)).keeps fun b o e => hid b o (hx2 b o e)
      have hlt : ∀ x, (x ∈ rs ∨ x = r) → x < n := fun x hx' => hx'.elim (fun h => hρ _ (List.mem_of_mem_take (hRk.lt _ h))) fun h => h ▸ hrn
      have O : Ord (hideAll s₁₀.heap [D]) (fun x => x ∈ rs ∨ x = r) item' := Ord.of kc.KK hlt fun x hx' => (hall x hx').item
      have hRk' : Rk (fun x => x ∈ rs ∨ x = r) rs := ⟨fun x hx' => .inl hx', hRk.small⟩
      show wpAny (MM w) A (call (.ref 176) [.ref D, .ref t']) _ _ _
      rw [← ir]
      refine heapreplaceM_spec (r := r) (D := D) (rs := rs) (ep := ep) (G₂.keeps hid) (fun b o e => of_hideAll _ e) O (by rw [hrk]; exact zd.1) (hideAll_none _ (.head _)) hRk' hpos' (.inr rfl) (by omega) (by omega) ?_
      intro s₁₁ r₁₁ x₁₁ hD₁₁
      have Z₁₁ := (Z₁₀.sub (news' := [(D, listOf (ranked item rs) ep), (t', tupOf [.ref kt', .int od tk, ev r]), (kt', tupOf vs)]) fun p hp => by
        simp only [List.mem_cons, List.not_mem_nil, or_false] at hp ⊢
        rcases hp with rfl | rfl | rfl <;> simp).ext r₁₁ x₁₁ hD₁₁ (fun p hp => by
        simp only [List.mem_cons, List.not_mem_nil, or_false] at hp
        rcases hp with rfl | rfl
        · exact ntD.symm
        · exact nkD.symm)
      have hRn : Rk (fun x => x ∈ rs ∨ x = r) (su gtN (rs.set 0 r) 0) := su_rk (hRk'.set (.inr rfl)) (by rw [List.length_set]; exact hpos')
      have hln' : (su gtN (rs.set 0 r) 0).length = rs.length := by rw [su_len (by rw [List.length_set]; exact hpos'), List.length_set]
      have hstep : nsStep rs r = su gtN (rs.set 0 r) 0 := by rw [nsStep, if_pos hb]
      have hp2 : 0 < (su gtN (rs.set 0 r) 0).length := by rw [hln']; exact hpos'
      generalize su gtN (rs.set 0 r) 0 = rs' at *
      refine s_unpack3 (EvV.go (EvV.item (k := 0) (.name Z₁₁.ns (by walk_at "lk")) .const (Z₁₁.nw _ (.head _)).1 (ranked_get hp2) (by decide)) fun s₁₂ h₁₂ r₁₂ => ?_)
      have Z₁₂ := Z₁₁.touch h₁₂ r₁₂
      have h00 : ∃ t0 kt0 j0 tk0, item' rs'[0] = .ref t0 ∧ s₁₂.heap.get? t0 = some (tupOf [.ref kt0, .int j0 tk0, ev rs'[0]]) ∧ ∀ hx', (∀ b o, hx.get? b = some o → hx'.get? b = some o) → (∀ p ∈ [(t', tupOf [.ref kt', .int od tk, ev r]), (kt', tupOf vs)], hx'.get? p.1 = some p.2) → KeyAt hx' kt0 (is rs'[0]) (p rs'[0]) := by
        by_cases hxr : rs'[0] = r
        · rw [hxr, ir]
          exact ⟨t', kt', od, tk, rfl, (Z₁₂.nw _ (.tail _ (.head _))).1, fun hx' _ hnw => ⟨vs, hnw _ (.tail _ (.head _)), hkv⟩⟩
        · rw [io _ hxr]
          obtain ⟨t1, kt1, j1, tk1, f0, f1, f2⟩ := hT _ ((hRn.lt _ (List.getElem_mem hp2)).resolve_right hxr)
          exact ⟨t1, kt1, j1, tk1, f0, Z₁₂.keep _ _ (hx2 _ _ f1), fun hx' hxx _ => f2.keeps hxx⟩
      obtain ⟨t0, kt0, j0, tk0, e0, e1, e2⟩ := h00
      have hg0 : rs'.getD 0 0 = rs'[0] := by simp [hp2]
      rw [hg0, e0]
      refine a_unpack3 hh Z₁₂ ⟨_, e1, rfl, 0, rfl⟩ fun s₁₃ Z₁₃ => ?_
      refine s_augAdd Z₁₃ (by walk_at "lk") .const fun tk' s₁₄ Z₁₄ => xs_nil (b1 _ (xs_nil (bn [(t', tupOf [.ref kt', .int od tk, ev r]), (kt', tupOf vs)] [(D, listOf (ranked item' rs') ep)] _ _ (Z₁₄.sub fun p hp => ?_) (fun p hp q hq => ?_) fun hx' hxx hnw => ?_)))
      · simp only [List.mem_append, List.mem_cons, List.not_mem_nil, or_false] at hp ⊢
        rcases hp with (rfl | rfl) | rfl <;> simp
      · rw [List.mem_singleton.mp hq]
        simp only [List.mem_cons, List.not_mem_nil, or_false] at hp
        rcases hp with rfl | rfl
        · exact ntD.symm
        · exact nkD.symm
      · have hT' : ∀ x ∈ rs', TupOf hx' ev is p x (item' x) := fun x hx1 => by
          by_cases hxr : x = r
          · rw [hxr, ir]; exact ⟨t', kt', od, tk, rfl, hnw _ (.head _), vs, hnw _ (.tail _ (.head _)), hkv⟩
          · rw [io x hxr]; exact (hT x ((hRn.lt x hx1).resolve_right hxr)).keeps hxx
        have hk0 : KeyAt hx' kt0 (is (rs'.getD 0 0)) (p (rs'.getD 0 0)) := by
          rw [hg0]; exact e2 hx' hxx hnw
        refine .mk item' rs' ep kt0 _ tk' _ hx' ?_ ⟨fun x hx1 => (hRn.lt x hx1).elim (fun h => take_mono (by omega) (hRk.lt x h)) fun h => h ▸ hin1, hRn.small⟩ (by rw [hln', hln]) hT' (by walk_at "lk") (by walk_at "lk") hk0 (by walk_at "lk") (by walk_at "lk")
        rw [hsn, nsRun_snoc, ← hrs, hstep]
    · refine xs_nil (b1 _ (xs_nil (bn [(kt', tupOf vs)] _ _ _ Z₇ (fun p hp q hq => ?_) fun hx' hxx hnw => ?_)))
      · rw [List.mem_singleton.mp hp]
        rw [List.mem_singleton.mp hq]
        exact (nn _ (.head _)).symm
      · refine .mk item rs ep kt od tk _ hx' ?_ ⟨fun r hr => take_mono (by omega) (hRk.lt r hr), hRk.small⟩ hln (fun r hr => (hT r hr).keeps hxx) (by walk_at "lk") (by walk_at "lk") (hkt.keeps hxx) (by walk_at "lk") (by walk_at "lk")
        rw [hsn, nsRun_snoc, ← hrs, nsStep, if_neg (by rw [hb]; decide)]
  · rintro _ _ s₂ hx E' ⟨item, rs, ep, kt, od, tk, m, hx, hrs, hRk, hln, hT, m1, m2, hkt, m3, m4⟩ h0x Z₂
    have htk : (ρ.drop mm).take (xs.length - mm) = ρ.drop mm := List.take_of_length_le (by simp; omega)
    rw [htk] at hrs
    subst hrs
    exact cont hx item ep _ s₂ E' h0x Z₂ ⟨fun r hr => List.mem_of_mem_take (hRk.lt r hr), hRk.small⟩ hln hT m1
end
end Mine

end
section
open PySem PySem.W PySem.Calls PyProof.Rows PySem.SeqAt
namespace Mine

theorem hpL_rk {S : Nat → Prop} {lt : Nat → Nat → Bool} : ∀ (k : Nat) (xs : List Nat), k ≤ xs.length → Rk S xs → Rk S (hpL lt k xs) ∧ (hpL lt k xs).length = xs.length
  | 0, xs, _, R => ⟨R, rfl⟩
  | k + 1, xs, h, R => by
    have h1 := su_rk (lt := lt) (ps := k) R (by omega)
    have h2 := su_len (lt := lt) (rs := xs) (ps := k) (by omega)
    have := hpL_rk (lt := lt) k (su lt xs k) (by omega) h1
    exact ⟨this.1, this.2.trans h2⟩
theorem hpf_rk {S : Nat → Prop} {lt : Nat → Nat → Bool} {xs : List Nat} (R : Rk S xs) : Rk S (hpf lt xs) ∧ (hpf lt xs).length = xs.length := hpL_rk _ _ (by omega) R

def nsEnd (mm : Nat) (ρ : List Nat) : List Nat := nsRun (hpf gtN (ρ.take mm)) (ρ.drop mm)
def nsOut (mm : Nat) (ρ : List Nat) : List Nat := if ρ.take mm = [] then [] else srtP (nsEnd mm ρ)
def nsOk (mm : Nat) (ρ : List Nat) : Bool := decide (ρ.take mm = []) || (decide (2 ≤ (nsEnd mm ρ).length) && srtOk (nsEnd mm ρ) && decide (nsEnd mm ρ).Nodup)

section
variable {w : World} {A : Around} {E : Value → Shared → Prop} {h₀ hb hi : Heap} {L I q : Addr} {s₀ s : Shared} {o : Obj} {m : Str → Option Value} {fp : List Addr} {xs : List Value} {St : Nat → Heap → Prop} {Fn : Heap → Prop} {en : Prop}
  {n mm : Nat} {ev : Nat → Value} {is : Nat → List Int} {p : Nat → Str} {ρ : List Nat} {N : Int} {t : Tok} {Q : Flow → Shared → Prop}

set_option maxHeartbeats 8000000 in
theorem ns_tail (G : Gd w h₀) (hh : A.handled = none) (hroom : A.depth + 10 < recursionLimit) (hu : A.units + 200 < cLine) (Z : Fm h₀ L s₀ [(I, o)] m s) (T : Itr w hi I fp xs St Fn en) (hik : ∀ b o, hi.get? b = some o → h₀.get? b = some o) (hst : St 0 s.heap)
    (kc : KC w hb q n ev is p) (hbk : ∀ b o, hb.get? b = some o → h₀.get? b = some o) (hxs : xs = ρ.map ev) (hd : ρ.Nodup) (hρ : ∀ r ∈ ρ, r < n) (h8 : ρ.length ≤ 8)
    (hcell : h₀.IsCell (L + 1) (some (.ref q))) (mi : m "it" = some (.ref I)) (mn : m "n" = some (.int N t)) (hN : -10 ≤ N ∧ N ≤ 10) (hm : Builtin.Range.rangeSize 0 N 1 = (mm : Int)) (hen : xs.length < mm → en) (ok : nsOk mm ρ = true)
    (ret : ∀ D ep s', s'.heap.get? D = some (listOf (ranked ev (nsOut mm ρ)) ep) → (∀ b o, h₀.get? b = some o → s'.heap.get? b = some o) → Rest s₀ s' → Q (.ret (.ref D)) s') :
    wpAny (MM w) A (execs ((txt (st 15)).drop 4) (eNs L)) Q E s := by
  refine ns_comp G hh (by omega) Z T hik hst kc hbk hxs hd hρ h8 hcell mi mn hN hm hen ?_
  intro D hx item o' s₁ ep h0x Z₁ hDI hT hst₁
  have hxsz : (ranked item (ρ.take mm)).size ≤ 1000 := by rw [sizeR, List.length_take]; omega
  refine s_if Z₁ (.not (.list (.name Z₁.ns (by walk_at "lk")) (Z₁.nw _ (.head _)).1 hxsz)) fun B' s₂ Z₂ b1 _ _ b4 => ⟨fun hb => ?_, fun hb => xs_nil (b1 _ ?_)⟩
  · rw [rk_empty] at hb
    have he : ρ.take mm = [] := by simpa using hb
    refine s_retE Z₂ (EvV.name Z₂.ns (by walk_at "lk")) ?_
    rintro _ s₃ rfl Z₃
    have zd := (Z₃.nw _ (.head _)).1
    rw [he] at zd
    refine b4 _ _ (ret D ep s₃ ?_ (fun b o e => Z₃.keep b o (h0x b o e)) Z₃.rest)
    rw [nsOut, if_pos he]
    exact zd
  · rw [rk_empty] at hb
    have hne : ¬ ρ.take mm = [] := by simpa using hb
    have hpos := ne_len hne
    have Gx := G.keeps h0x
    have hR0 : Rk (fun r => r ∈ ρ.take mm) (ρ.take mm) := ⟨fun _ h => h, by rw [List.length_take]; omega⟩
    obtain ⟨hR, hRl⟩ := hpf_rk (lt := gtN) hR0
    have hps : 0 < (hpf gtN (ρ.take mm)).length := by omega
    refine s_expr (callP1 (EvV.glob Gx Z₂.keep (by k_is)) (.K Gx Z₂.keep (by k_is)) (EvV.name Z₂.ns (by walk_at "lk")) ?_)
    rintro _ s₃ rfl h₃ r₃
    have Z₃ := Z₂.touch h₃ r₃
    have O : Ord hx (fun r => r ∈ ρ.take mm) item := Ord.of kc.KK (fun r hr => hρ r (List.mem_of_mem_take hr)) fun r hr => (hT r hr).item
    refine heapifyM_spec Gx Z₃.keep O (Z₃.nw _ (.head _)).1 (Z₃.nw _ (.head _)).2.2 hR0 hh (by omega) (by omega) fun s₄ r₄ x₄ hD₄ => ⟨rfl, ?_⟩
    have Z₄ := Z₃.ext r₄ x₄ hD₄ (fun p hp => by rw [List.mem_singleton.mp hp]; exact hDI.symm)
    have hg0 : (hpf gtN (ρ.take mm)).getD 0 0 ∈ ρ.take mm := hR.get hps
    obtain ⟨t0, kt0, j0, tk0, e0, e1, e2⟩ := hT _ hg0
    refine s_asg Z₄ (EvV.titem (n := 0) (EvV.item (k := 0) (.name Z₄.ns (by walk_at "lk")) .const (Z₄.nw _ (.head _)).1 ((ranked_get hps).trans (congrArg some e0)) (by decide)) .const (Z₄.keep _ _ e1) (v := .ref kt0) rfl (by decide)) ?_
    rintro _ s₅ rfl Z₅
    refine s_asg Z₅ (EvV.name Z₅.ns (by walk_at "lk")) ?_
    rintro _ s₆ rfl Z₆
    refine s_asg Z₆ (EvV.glob Gx Z₆.keep (by k_is)) ?_
    rintro _ s₇ rfl Z₇
    have hst₇ : if mm ≤ xs.length then St mm s₇.heap else Fn s₇.heap := by
      have zI1 := (Z₁.nw _ (.tail _ (.head _))).1
      have zI7 := (Z₇.nw _ (.tail _ (.head _))).1
      by_cases hle : mm ≤ xs.length
      · rw [if_pos hle] at hst₁ ⊢
        obtain ⟨o'', vs, f1, _, f2⟩ := T.of mm _ hst₁
        rw [zI1] at f1; cases f1
        exact f2 _ zI7 fun b o e => Z₇.keep b o (h0x b o (hik b o e))
      · rw [if_neg hle] at hst₁ ⊢
        obtain ⟨o'', vs, f1, _, f2⟩ := T.fin _ hst₁
        rw [zI1] at f1; cases f1
        exact f2 _ zI7 fun b o e => Z₇.keep b o (h0x b o (hik b o e))
    refine ns_loop (rs₀ := hpf gtN (ρ.take mm)) (mm := mm) Gx hh hroom hu Z₇ hDI T (fun b o e => h0x b o (hik b o e)) hst₇ kc (fun b o e => h0x b o (hbk b o e)) hxs hd hρ h8 (let ⟨oc, f1, f2⟩ := hcell; ⟨oc, h0x _ _ f1, f2⟩) (by walk_at "lk") hen hR hps (fun r hr => hT r (hR.lt r hr)) (by walk_at "lk") (by walk_at "lk") e2 (by walk_at "lk") (by walk_at "lk") ?_
    clear Z₇ Z₆ Z₅ Z₄ Z₃ Z₂ Z₁ hst₇ hst₁ O
    intro hy item' ep' m' s₈ E' hxy Z₈ hRk hlen' hT' m1
    rw [nsOk, decide_eq_false hne, Bool.false_or] at ok
    simp only [Bool.and_eq_true, decide_eq_true_eq] at ok
    obtain ⟨⟨ok1, ok2⟩, ok3⟩ := ok
    have eE : nsRun (hpf gtN (ρ.take mm)) (ρ.drop mm) = nsEnd mm ρ := rfl
    rw [eE] at Z₈ hRk hlen' hT'
    rw [nsOut, if_neg hne] at ret
    generalize nsEnd mm ρ = rs at *
    have zd := (Z₈.nw _ (.head _)).1
    have hyD := (Z₈.nw _ (.head _)).2.2
    refine s_exprA (e_sort Z₈ (fun _ => not_nil) (.name Z₈.ns m1) ok1 hRk.small ok2 (κ := tuples' false) (SortBy.items (c := 2) (n := n) (is := is) (p := p) (by show A.units + 1 + 4 < _; omega) kc.KK (fun r hr => hρ r (hRk.lt r hr)) ok3 (by omega) ?_ (fun r hr => ((hT' r hr).keeps Z₈.keep).item)) fun s₉ c Z₉ => ?_)
    · intro t us e hm'
      rw [List.mem_singleton.mp hm', zd] at e
      injection e with e
      injection e with e
      simp at e
    refine s_ret (e_elems (ev := ev) (is := is) (p := p) (item := item') (rs := srtP rs) (ep := c) hh Z₉ m1 (Z₉.nw _ (.head _)).1 ?_ ?_ ?_)
    · have := (List.length_map (as := (srtQ rs).toList) fun i => rs.getD i 0)
      simp only [srtOk, Bool.and_eq_true, beq_iff_eq] at ok2
      show (srtP rs).length ≤ 8
      unfold srtP
      rw [this, Array.length_toList, ok2.2]
      exact hRk.small
    · intro r hr
      have hr' : r ∈ rs := by
        simp only [srtOk, Bool.and_eq_true, List.all_eq_true, decide_eq_true_eq] at ok2
        obtain ⟨i, hi', rfl⟩ := List.mem_map.mp hr
        have := ok2.1.2 i hi'
        simp [this]
      exact (hT' r hr').keeps Z₉.keep
    · intro R ep'' s₁₀ _ hR10 x10 r10
      exact ret R ep'' s₁₀ hR10 (fun b o e => x10.nil _ _ (Z₉.keep b o (hxy b o (h0x b o e)))) (Z₉.rest.trans r10)
end
end Mine

end
section
open PySem PySem.W PySem.Calls PyProof.Rows PySem.SeqAt
namespace Mine

/-- all of the first stands in the second -/
abbrev Sub (h h' : Heap) : Prop := ∀ b o, h.get? b = some o → h'.get? b = some o

/-- what is gone over: its iterator -/
def Src (w : World) (hb : Heap) (news : List (Addr × Obj)) (V : Value) (xs : List Value) (en : Prop) : Prop :=
  ∀ (h₀ : Heap) (A : Around) (L : Addr) (s₀ s : Shared) (m : Str → Option Value) (Q E : Value → Shared → Prop), Sub hb h₀ → A.handled = none → Fm h₀ L s₀ news m s →
    (∀ I o fp St Fn s', Fm h₀ L s₀ [(I, o)] m s' → Itr w h₀ I fp xs St Fn en → St 0 s'.heap → Q (.ref I) s') → wpAny (MM w) A (pyIter V) Q E s
/-- its length -/
def LenIs (w : World) (hb : Heap) (V : Value) (k : Nat) : Prop :=
  ∀ (A : Around) (s : Shared) (Q E : Value → Shared → Prop), Sub hb s.heap → (∀ t s', s'.heap = s.heap → Rest s s' → Q (.int k t) s') → wpAny (MM w) A (call (.builtin "len") [V]) Q E s
/-- its items, all at once -/
def CollIs (w : World) (hb : Heap) (V : Value) (xs : List Value) : Prop :=
  ∀ (A : Around) (s : Shared) (Q : List Value → Shared → Prop) (E : Value → Shared → Prop), A.handled = none → Sub hb s.heap → (∀ s', Rest s s' → Ext [] s.heap s'.heap → Q xs s') → wpAny (MM w) A (collect V) Q E s

section
variable {w : World} {A : Around} {E : Value → Shared → Prop} {s : Shared} {hb : Heap} {l : Addr} {xs : List Value} {ep : Nat}

theorem Src.list (hl : hb.get? l = some (listOf xs.toArray ep)) : Src w hb [] (.ref l) xs True := fun h₀ A L s₀ s m Q E hs hh Z h => by
  have hl' := Z.keep _ _ (hs _ _ hl)
  refine wpAny_pyIter_list ⟨_, hl', rfl, ep, rfl⟩ ?_
  obtain ⟨Z', _⟩ := Z.new (ob := { cls := .type "list_iterator", data := .fields #[.ref l, .int ((0 : Nat) : Int) 0] }) (tk := s.toks)
  exact h _ _ _ _ _ _ Z' (Itr.list (hs _ _ hl) (Z'.nw _ (.head _)).2.2) ⟨(Z'.nw _ (.head _)).1, ⟨_, Z'.keep _ _ (hs _ _ hl), rfl, ep, rfl⟩⟩
theorem Src.itr {I : Addr} (hl : hb.get? l = some (listOf xs.toArray ep)) : Src w hb [(I, { cls := .type "list_iterator", data := .fields #[.ref l, .int ((0 : Nat) : Int) 0] })] (.ref I) xs True := fun h₀ A L s₀ s m Q E hs hh Z h => by
  have z := Z.nw _ (.head _)
  exact wpAny_pyIter_listiter (l := l) (i := 0) ⟨_, z.1, rfl, rfl⟩ (h _ _ _ _ _ _ Z (Itr.list (hs _ _ hl) z.2.2) ⟨z.1, ⟨_, Z.keep _ _ (hs _ _ hl), rfl, ep, rfl⟩⟩)
theorem Src.vals {KT : Type} [DecidableEq KT] {knd : KeyKind PR w KT} {v d : Addr} {kvs : List (KT × Value)} (hv : hb.IsValuesView v d) (hl : hb.DictAt knd d kvs ep) : Src w hb [] (.ref v) (kvs.map (·.2)) False := fun h₀ A L s₀ s m Q E hs hh Z h => by
  have hv' : s.heap.IsValuesView v d := let ⟨o, e, r⟩ := hv; ⟨o, Z.keep _ _ (hs _ _ e), r⟩
  have h0 : h₀.DictAt knd d kvs ep := hl.at' fun o e => hs d o e
  have hl' : s.heap.DictAt knd d kvs ep := h0.at' fun o e => Z.keep d o e
  refine wpAny_pyIter_values hv' hl' ?_
  obtain ⟨Z', _⟩ := Z.new (ob := { cls := .type "dict_valueiterator", data := .fields #[.ref d, .int 0 0, .int kvs.length 0, .int ep 0] }) (tk := s.toks)
  exact h _ _ _ _ _ _ Z' (Itr.vals h0 (Z'.nw _ (.head _)).2.2) ⟨⟨_, (Z'.nw _ (.head _)).1, rfl, rfl⟩, h0.at' fun o e => Z'.keep d o e⟩

theorem LenIs.list (hl : hb.get? l = some (listOf xs.toArray ep)) (h8 : xs.length ≤ 8) : LenIs w hb (.ref l) xs.length := fun A s Q E hs h => by
  have hz : xs.toArray.size = xs.length := by simp
  have := call_len_list (prog := PR) (w := w) (A := A) (E := E) (s := s) (Q := Q) ⟨_, hs _ _ hl, rfl, ep, rfl⟩ (by rw [hz]; omega) (by rw [hz]; exact h _ _ rfl .heap)
  exact this

theorem entry_vals_len : entryFor table "dict_values.__len__" = some Builtin.«dict_items.__len__» := entryFor_alias (id' := "dict_items.__len__") (by rw [fastTable_eq_tree]; kernel_rfl) (by decide +kernel) (by decide +kernel) (by rw [fastTable_eq_tree]; kernel_rfl)
theorem LenIs.vals {KT : Type} [DecidableEq KT] {knd : KeyKind PR w KT} {v d : Addr} {kvs : List (KT × Value)} (hv : hb.IsValuesView v d) (hl : hb.DictAt knd d kvs ep) (h8 : kvs.length ≤ 8) : LenIs w hb (.ref v) kvs.length := fun A s Q E hs h => by
  have hv' : s.heap.IsValuesView v d := let ⟨o, e, r⟩ := hv; ⟨o, hs _ _ e, r⟩
  have hl' : s.heap.DictAt knd d kvs ep := hl.at' fun o e => hs d o e
  obtain ⟨ov, hov, hcv, hdv⟩ := id hv'
  obtain ⟨o, es, ho, hc, hdat, hk, hp, hn⟩ := id hl'
  have hsz : es.size = kvs.length := by rw [← hp.length]; simp
  refine call_function_entry kind_len plain_len entry_len (args_len1 _) ?_
  unfold Builtin.«len»
  refine wpAny_bind (m := oneArg "len" _) (wpAny_pure ?_)
  refine wpAny_bind (m := callSpecial? (.ref v) (Str.ofString "__len__")) (wpAny_callSpecial?_slot (name := Str.ofString "__len__") hv'.typeIs PySem.F.slot_dict_values_len
    (wpAny_call_entry PySem.F.slot_dict_values_len hv'.typeIs entry_vals_len ?_ (PySem.F.args_dict_values_len_1 _)))
  unfold Builtin.«dict_items.__len__»
  refine wpAny_bind (wpAny_pure ?_)
  refine wpAny_bind ?_
  unfold Builtin.Dict_items.dictOf
  refine wpAny_bind (wpAny_field hov hdv (x := .ref d) rfl (wpAny_pure ?_))
  refine wpAny_bind (wpAny_dictEntries ho hdat ?_)
  refine wpAny_bind (wpAny_mkInt (wpAny_pure ⟨_, rfl, ?_⟩))
  refine wpAny_bind (wpAny_holding (wpAny_pure ?_))
  refine wpAny_bind (wpAny_letGo ?_)
  rw [hsz]
  show wpAny _ _ (if ((kvs.length : Nat) : Int) < 0 then _ else _) _ _ _
  rw [if_neg (by omega)]
  show wpAny _ _ (if ((kvs.length : Nat) : Int) ≥ 2 ^ 63 then _ else _) _ _ _
  rw [if_neg (by omega)]
  exact wpAny_bind (wpAny_mkInt (wpAny_pure ⟨_, rfl, h _ _ rfl .heap⟩))

theorem CollIs.list (hl : hb.get? l = some (listOf xs.toArray ep)) (h8 : xs.length ≤ 8) : CollIs w hb (.ref l) xs := fun A s Q E hh hs h => by
  refine collect_list ⟨_, hs _ _ hl, rfl, ep, rfl⟩ (h _ .heap fun b o _ e => ?_) (by rw [sizeLine_eq]; omega)
  exact (Heap.get?_update_other _ _ (Nat.ne_of_gt (Heap.lt_size e))).trans (Heap.get?_push_of_some _ e)
theorem CollIs.vals {KT : Type} [DecidableEq KT] {knd : KeyKind PR w KT} {v d : Addr} {kvs : List (KT × Value)} (hv : hb.IsValuesView v d) (hl : hb.DictAt knd d kvs ep) (h8 : kvs.length ≤ 8) : CollIs w hb (.ref v) (kvs.map (·.2)) := fun A s Q E hh hs h => by
  have hv' : s.heap.IsValuesView v d := let ⟨o, e, r⟩ := hv; ⟨o, hs _ _ e, r⟩
  have hl' : s.heap.DictAt knd d kvs ep := hl.at' fun o e => hs d o e
  have hvl : v < s.heap.objs.size := let ⟨_, e, _⟩ := hv'; Heap.lt_size e
  unfold collect
  refine wpAny_bind (wpAny_runValue (codeAny_builtin PySem.F.entry_proto_collect ?_))
  rw [Around.under_plainId PySem.F.plain_proto_collect _]
  show wpAny _ A.in1 (newList [] >>= fun l => again (.builtin "list.__iadd__" ⟨[l, .ref v], []⟩)) _ _ s
  refine wpAny_bind (wpAny_newObj_type ?_)
  refine wpAny_pure ⟨plainId_quiet PySem.F.plain_list_iadd _, codeAny_builtin PySem.F.entry_list_iadd ?_⟩
  rw [Around.under_plainId PySem.F.plain_list_iadd _]
  show wpAny _ A.in1 (Builtin.List.listExtendWith (.ref s.heap.objs.size) (.ref v) (.ref s.heap.objs.size)) _ _ _
  have key := kdl_extend (A := A) (R := fun r s' => r = .ok (.ret (.ref s.heap.objs.size)) ∧ ∃ c, s'.heap.get? s.heap.objs.size = some { cls := .type "list", dict := none, data := .seq (kvs.map (·.2)).toArray c, slots := #[] } ∧ Rest s s' ∧ Ext [] s.heap s'.heap)
    (s := { s with heap := s.heap.push { cls := .type "list", data := .seq ([] : List Value).toArray } }) (kdl_values (knd := knd) (kvs := kvs) (ep := ep) (r := v) (d := d)) hh ⟨let ⟨o, e, r⟩ := hv'; ⟨o, Heap.get?_push_of_some _ e, r⟩, hl'.push _⟩ s.heap.objs.size (Nat.ne_of_gt hvl) (Nat.ne_of_gt hl'.lt_size) (.ref s.heap.objs.size) 0 (Heap.get?_push_size _ rfl) (fun h' tk acc c hk hS hacc => ?_) (by rw [sizeLine_eq]; omega)
  · refine wpAny_mono key (fun fin s' hf => ?_) fun e s' hf => ?_
    · have fin_ : ∀ s', (∃ c, s'.heap.get? s.heap.objs.size = some { cls := .type "list", dict := none, data := .seq (kvs.map (·.2)).toArray c, slots := #[] } ∧ Rest s s' ∧ Ext [] s.heap s'.heap) → wpAny (MM w) A (load s.heap.objs.size >>= fun o => match o.data with | .seq xs _ => pure xs.toList | _ => unsupported "internal:collect") Q E s' := by
        rintro s' ⟨c, hS, r, x⟩
        refine wpAny_bind (wpAny_load hS (wpAny_pure ?_))
        have e : (kvs.map (·.2)).toArray.toList = kvs.map (·.2) := by simp
        rw [e]
        exact h s' r x
      cases fin with
      | done f =>
        obtain ⟨e, hq⟩ := hf
        cases e
        exact fin_ s' hq
      | again c' =>
        refine ⟨hf.1, codeAny_mono hf.2 fun r s'' hr => ?_⟩
        obtain ⟨rfl, hq⟩ := hr
        exact fin_ s'' hq
    · exact (nomatch hf.1)
  · refine ⟨rfl, c, ?_, .heap, fun b o _ e => hk b o (Nat.ne_of_lt (Heap.lt_size e)) (Heap.get?_push_of_some _ e)⟩
    have : acc.toList = kvs.map (·.2) := kdl_vals_eq acc.toList (by rw [Array.length_toList]; exact hacc.1) fun j u hu => hacc.2 j u (by rw [← Array.getElem?_toList]; exact hu)
    rw [← this, Array.toArray_toList]
    exact hS

variable {q : Addr} {n : Nat} {ev : Nat → Value} {is : Nat → List Int} {p : Nat → Str} {ρ : List Nat} {V : Value} {h₀ : Heap}
/-- «sorted(x, key=q)», «sorted(x, key=q, reverse=True)» -/
theorem call_sortedK {b : Bool} {kw : List (Str × Value)} {Q : Value → Shared → Prop} (hh : A.handled = none) (hroom : A.depth < recursionLimit) (C : CollIs w hb V (ρ.map ev)) (hs : Sub hb s.heap) (kc : KC w hb q n ev is p) (hd : ρ.Nodup) (hρ : ∀ r ∈ ρ, r < n) (h8 : ρ.length ≤ 8) (h2 : 2 ≤ ρ.length) (ok : srtOk (katRev b ρ) = true)
    (ha1 : argsOk "sorted" ⟨[V], kw⟩) (ha2 : ∀ x, argsOk "list.sort" ⟨[.ref x], kw⟩) (ht : ∀ x, Builtin.«list.sort» ⟨[.ref x], kw⟩ = ksk_tree x (.ref q) b)
    (h : ∀ D c s', Rest s s' → Ext [] s.heap s'.heap → s.heap.get? D = none → s'.heap.get? D = some (listOf (ranked ev (katRev b (srtP (katRev b ρ)))) c) → Q (.ref D) s') :
    wpAny (MM w) A (call (.builtin "sorted") [V] kw) Q E s := by
  refine call_function_entry_kw kind_sorted plain_sorted entry_sorted ha1 ?_
  unfold Builtin.«sorted»
  refine wpAny_bind (m := checkCount "sorted" 1 1 _) (wpAny_pure ?_)
  refine wpAny_bind (C A.in1 s _ _ hh hs fun s₁ r₁ x₁ => ?_)
  refine wpAny_bind (wpAny_newList ?_ (by rw [sizeLine_eq, List.length_map]; omega))
  have hD : (s₁.heap.push (seqObj "list" (ρ.map ev).toArray 0)).get? s₁.heap.objs.size = some (listOf (ranked ev ρ) 0) := Heap.get?_push_size _ rfl
  have hn1 : s₁.heap.get? s₁.heap.objs.size = none := Heap.get?_none_of_le (Nat.le_refl _)
  refine wpAny_bind (wpAny_holding (wpAny_call_entry_kw slot_list_sort ⟨_, hD, rfl⟩ entry_list_sort ?body (ha2 _)))
  rw [ht]
  refine kt_spec (hb := hb) hD ?_ h2 h8 (fun b o e => Heap.get?_push_of_some _ (x₁.nil b o (hs b o e))) hroom (fun r hr => kc.key r (hρ r hr)) ok (fun h ks ka => SortBy.keys kc.KK hρ hd kc.ne (by omega) ka) fun s' c r' x' hD' => ⟨_, rfl, wpAny_pure ⟨_, rfl, h _ c s' (r₁.trans (Rest.trans .heap r')) (fun b o _ e => x' b o ?_ (Heap.get?_push_of_some _ (x₁.nil b o e))) ?_ hD'⟩⟩
  · cases e : hb.get? s₁.heap.objs.size with
    | none => rfl
    | some o => rw [x₁.nil _ _ (hs _ _ e)] at hn1; cases hn1
  · simp only [List.mem_singleton]; rintro rfl; rw [x₁.nil _ _ e] at hn1; cases hn1
  · cases e : s.heap.get? s₁.heap.objs.size with
    | none => rfl
    | some o => rw [x₁.nil _ _ e] at hn1; cases hn1
end
end Mine

end
section
open PySem PySem.W PySem.Calls PyProof.Rows PySem.SeqAt
namespace Mine

def ifB : Stmt → List Stmt
  | .If _ b _ _ => b
  | _ => []

section
variable {w : World} {A : Around} {E : Value → Shared → Prop} {h₀ hb : Heap} {L q : Addr} {s₀ s : Shared} {m : Str → Option Value} {xs : List Value} {en : Prop}
  {n : Nat} {ev : Nat → Value} {is : Nat → List Int} {p : Nat → Str} {ρ : List Nat} {N : Int} {t : Tok} {Q : Flow → Shared → Prop} {V : Value} {mu : List (Addr × Obj)}

set_option maxHeartbeats 8000000 in
theorem ns_one (G : Gd w h₀) (hh : A.handled = none) (hroom : A.depth + 10 < recursionLimit) (hu : A.units + 200 < cLine) (Z : Fm h₀ L s₀ mu m s) (S : Src w hb mu V xs en) (hbk : Sub hb h₀) (kc : KC w hb q n ev is p) (hxs : xs = ρ.map ev) (hρ : ∀ r ∈ ρ, r < n) (h0 : 0 ∈ ρ)
    (hcell : h₀.IsCell (L + 1) (some (.ref q))) (mi : m "iterable" = some V)
    (ret : ∀ D ep s', s'.heap.get? D = some (listOf (ranked ev [0]) ep) → Sub h₀ s'.heap → Rest s₀ s' → Q (.ret (.ref D)) s') :
    wpAny (MM w) A (execs (ifB (pick (txt (st 15)) 0)) (eNs L)) Q E s := by
  have hlen : xs.length = ρ.length := by rw [hxs, List.length_map]
  refine s_asgW (s₀ := s₀) (callP1 (EvV.bltN (v := .builtin "iter") G Z.keep) .blt (EvV.name Z.ns mi) (fun v s₁ hv h₁ r₁ => ?_) rfl)
  subst hv
  have Z₁ := Z.touch h₁ r₁
  refine call_iter (S h₀ A.in1 L s₀ s₁ m _ _ hbk hh Z₁ fun I o fp St Fn s₂ Z₂ T hst₂ => ⟨_, _, _, Z₂, fun s₃ Z₃ => ?_⟩)
  refine s_asgW (s₀ := s₀) (callN0 (EvV.bltN (v := .type "object") G Z₃.keep) .type (fun s₄ h₄ r₄ => ?_))
  have Z₄ := Z₃.touch h₄ r₄
  refine call_object ?_
  obtain ⟨Z₅, n5⟩ := Z₄.new (ob := { cls := .type "object", data := .plain }) (tk := s₄.toks)
  refine ⟨_, _, _, Z₅, fun s₆ Z₆ => ?_⟩
  generalize s₄.heap.objs.size = sn at *
  have hcl : ∀ {s : Shared} {news m}, Fm h₀ L s₀ news m s → s.heap.IsCell (L + 1) (some (.ref q)) := fun Z => by
    obtain ⟨oc, e1, e2⟩ := hcell
    exact ⟨oc, Z.keep _ _ e1, e2⟩
  refine s_asgW (s₀ := s₀) (callK (EvV.bltN (v := .builtin "min") G Z₆.keep) (fun s₇ h₇ r₇ => wpAny_items_cons ?_ rfl) rfl rfl rfl)
  have Z₇ := Z₆.touch h₇ r₇
  refine EvV.go (EvV.name Z₇.ns (by walk_at "lk")) fun s₈ h₈ r₈ => wpAny_items_nil ?_
  have Z₈ := Z₇.touch h₈ r₈
  refine kwAll_cons (EvV.go (EvV.name Z₈.ns (by walk_at "lk")) fun s₉ h₉ r₉ => kwAll_cons ?_)
  have Z₉ := Z₈.touch h₉ r₉
  refine EvV.go (EvV.cell (hcl Z₉)) fun s₁₀ h₁₀ r₁₀ => kwAll_nil ⟨.blt, ?_⟩
  have Z₁₀ := Z₉.touch h₁₀ r₁₀
  have hst : St 0 s₁₀.heap := by
    obtain ⟨o', vs, e1, _, e2⟩ := T.of 0 _ hst₂
    rw [(Z₂.nw _ (.head _)).1] at e1
    cases e1
    exact e2 _ (Z₁₀.nw _ (.tail _ (.head _))).1 Z₁₀.keep
  have hget : ∀ i, i < ρ.length → ρ.getD i 0 ∈ ρ := fun i hi => by simp [hi]
  show wpAny (MM w) A (call (.builtin "min") [.ref I] [("default", .ref sn), ("key", .ref q)]) _ _ _
  refine call_min (ev := fun i => ev (ρ.getD i 0)) (ρ := fun i => ρ.getD i 0) (hb := h₀) (T.walks A.in1 hh) (T.nx A hh).alive (fun i v e => ?_) kc.KK (fun i hi => hρ _ (hget i (hlen ▸ hi))) (fun i hi => ((kc.keeps hbk).key _ (hρ _ (hget i (hlen ▸ hi))))) (fun b hb => by rw [List.mem_singleton.mp hb]; exact T.new) (by omega) (by omega) ?_ hst Z₁₀.keep ?_
  · have hi : i < ρ.length := by
      have := (List.getElem?_eq_some_iff.mp e).1
      omega
    rw [hxs, List.getElem?_map, List.getElem?_eq_getElem hi] at e
    simp [hi]; simpa using e.symm
  · rw [hlen]; exact List.length_pos_of_mem h0
  intro b s₁₁ hb11 hmin r₁₁ x₁₁
  have hρb : ρ.getD b 0 = 0 := by
    obtain ⟨i, hi, e⟩ := List.getElem_of_mem h0
    have := hmin i (by omega)
    have e' : ρ.getD i 0 = ρ[i] := by simp [hi]
    rw [e', e] at this
    omega
  simp only [hρb]
  have zI := Z₁₀.nw _ (.tail _ (.head _))
  have Z₁₁ := (Z₁₀.sub (news' := [(sn, { cls := .type "object", data := .plain })]) fun p hp => by rw [List.mem_singleton.mp hp]; exact .head _).extS r₁₁ x₁₁ (by simpa using zI.2.1.symm) (fun b hb => by rw [List.mem_singleton.mp hb]; exact T.new) (fun p hp => by rw [List.mem_singleton.mp hp]; simpa using (n5 _ (.head _)).symm)
  refine ⟨_, _, _, Z₁₁, fun s₁₂ Z₁₂ => ?_⟩
  obtain ⟨x, ox, ex, hx, hcx⟩ := (kc.keeps hbk).inst 0 (hρ 0 h0)
  have zs := Z₁₂.nw _ (.head _)
  have hxs' : x ≠ sn := by rintro rfl; rw [zs.2.2] at hx; cases hx
  rw [ex] at Z₁₂
  refine s_ret (wpAny_IfExp ((Tst.isRefs (EvV.name Z₁₂.ns (by walk_at "lk")) (EvV.name Z₁₂.ns (by walk_at "lk")) (Z₁₂.keep _ _ hx) zs.1 hxs' hcx) s₁₂ _ _ rfl fun s₁₃ h₁₃ r₁₃ => ?_))
  have Z₁₃ := Z₁₂.touch h₁₃ r₁₃
  simp only [Bool.false_eq_true, if_false]
  refine e_list Z₁₃ (.cons (EvV.name Z₁₃.ns (by walk_at "lk")) .nil) (by decide) ?_ ?_
  · rintro _ ⟨_, _, rfl, rfl, rfl⟩; rfl
  · rintro _ D s₁₄ ⟨_, _, rfl, rfl, rfl⟩ Z₁₄ _ _
    exact ret D 0 s₁₄ (by have := (Z₁₄.nw _ (.head _)).1; simpa [ranked, ex] using this) Z₁₄.keep Z₁₄.rest

set_option maxHeartbeats 8000000 in
/-- behind the try -/
theorem ns_rest (G : Gd w h₀) (hh : A.handled = none) (hroom : A.depth + 10 < recursionLimit) (hu : A.units + 200 < cLine) (Z : Fm h₀ L s₀ mu m s) (S : Src w hb mu V xs en) (hbk : Sub hb h₀) (kc : KC w hb q n ev is p) (hxs : xs = ρ.map ev) (hd : ρ.Nodup) (hρ : ∀ r ∈ ρ, r < n) (h8 : ρ.length ≤ 8)
    (hcell : h₀.IsCell (L + 1) (some (.ref q))) (mi : m "iterable" = some V) (mn : m "n" = some (.int N t)) (hN : -10 ≤ N ∧ N ≤ 10) (hen : xs.length < N.toNat → en) (ok : nsOk N.toNat ρ = true)
    (ret : ∀ D ep s', s'.heap.get? D = some (listOf (ranked ev (nsOut N.toNat ρ)) ep) → Sub h₀ s'.heap → Rest s₀ s' → Q (.ret (.ref D)) s') :
    wpAny (MM w) A (execs ((txt (st 15)).drop 2) (eNs L)) Q E s := by
  have hcl : ∀ {s : Shared} {news m}, Fm h₀ L s₀ news m s → s.heap.IsCell (L + 1) (some (.ref q)) := fun Z => by
    obtain ⟨oc, e1, e2⟩ := hcell
    exact ⟨oc, Z.keep _ _ e1, e2⟩
  refine s_if (b := false) Z (.isNone (EvV.cell (hcl Z)) .none) fun B' s₁ Z₁ b1 _ _ _ => ⟨fun hb => (nomatch hb), fun hb => xs_nil (b1 _ ?_)⟩
  refine s_asgW (s₀ := s₀) (callP1 (EvV.bltN (v := .builtin "iter") G Z₁.keep) .blt (EvV.name Z₁.ns mi) (fun v s₂ hv h₂ r₂ => ?_) rfl)
  subst hv
  have Z₂ := Z₁.touch h₂ r₂
  refine call_iter (S h₀ A.in1 L s₀ s₂ m _ _ hbk hh Z₂ fun I o fp St Fn s₃ Z₃ T hst₃ => ⟨_, _, _, Z₃, fun s₄ Z₄ => ?_⟩)
  have hst : St 0 s₄.heap := by
    obtain ⟨o', vs, e1, _, e2⟩ := T.of 0 _ hst₃
    rw [(Z₃.nw _ (.head _)).1] at e1
    cases e1
    exact e2 _ (Z₄.nw _ (.head _)).1 Z₄.keep
  refine ns_tail (mm := N.toNat) G hh hroom hu Z₄ T (fun _ _ e => e) hst kc hbk hxs hd hρ h8 hcell (by walk_at "lk") (t := t) (by walk_at "lk") hN ?_ hen ok ret
  rw [rangeSize_one]
  split <;> omega

set_option maxHeartbeats 8000000 in
/-- the try, where len answers -/
theorem ns_tryLen (G : Gd w h₀) (hh : A.handled = none) (hroom : A.depth + 10 < recursionLimit) (hu : A.units + 200 < cLine) (Z : Fm h₀ L s₀ [] m s) (S : Src w hb [] V xs en) (C : CollIs w hb V xs) (H : LenIs w hb V xs.length) (hbk : Sub hb h₀) (kc : KC w hb q n ev is p) (hxs : xs = ρ.map ev) (hd : ρ.Nodup) (hρ : ∀ r ∈ ρ, r < n) (h8 : ρ.length ≤ 8) (h2 : 2 ≤ ρ.length)
    (hcell : h₀.IsCell (L + 1) (some (.ref q))) (mi : m "iterable" = some V) (mn : m "n" = some (.int N t)) (hN : -10 ≤ N ∧ N ≤ 10) (ok : N < ρ.length → nsOk N.toNat ρ = true) (ok' : srtOk ρ = true)
    (ret : ∀ D ep s', s'.heap.get? D = some (listOf (ranked ev (if N < ρ.length then nsOut N.toNat ρ else (srtP ρ).take N.toNat)) ep) → Sub h₀ s'.heap → Rest s₀ s' → Q (.ret (.ref D)) s') :
    wpAny (MM w) A (execs ((txt (st 15)).drop 1) (eNs L)) Q E s := by
  have hlen : xs.length = ρ.length := by rw [hxs, List.length_map]
  have hcl : ∀ {s : Shared} {news m}, Fm h₀ L s₀ news m s → s.heap.IsCell (L + 1) (some (.ref q)) := fun Z => by
    obtain ⟨oc, e1, e2⟩ := hcell
    exact ⟨oc, Z.keep _ _ e1, e2⟩
  refine xs_cons (wpAny_Try_except (s_asgW (s₀ := s₀) (callP1 (EvV.bltN (v := .builtin "len") G Z.keep) .blt (EvV.name Z.ns mi) (fun v s₁ hv h₁ r₁ => ?_) rfl)))
  subst hv
  have Z₁ := Z.touch h₁ r₁
  refine H A s₁ _ _ (fun b o e => Z₁.keep b o (hbk b o e)) fun t1 s₂ h₂ r₂ => ⟨_, _, _, Z₁.touch h₂ r₂, fun s₃ Z₃ => xs_nil ?_⟩
  refine s_if (b := decide ((xs.length : Int) ≤ N)) Z₃ (.ge (EvI.name Z₃.ns (by walk_at "lk")) (EvI.name Z₃.ns (by walk_at "lk"))) fun B' s₄ Z₄ b1 _ _ b4 => ⟨fun hb => ?_, fun hb => xs_nil (b1 _ (xs_nil ?_))⟩
  · have hge : (ρ.length : Int) ≤ N := by rw [← hlen]; simpa using hb
    rw [if_neg (by omega)] at ret
    refine s_ret (e_upto (L := L) (s₀ := s₀) (callK (EvV.bltN (v := .builtin "sorted") G Z₄.keep) (fun s₅ h₅ r₅ => wpAny_items_cons ?_ rfl) rfl rfl rfl))
    have Z₅ := Z₄.touch h₅ r₅
    refine EvV.go (EvV.name Z₅.ns (by walk_at "lk")) fun s₆ h₆ r₆ => wpAny_items_nil ?_
    have Z₆ := Z₅.touch h₆ r₆
    refine kwAll_cons (EvV.go (EvV.cell (hcl Z₆)) fun s₇ h₇ r₇ => kwAll_nil ⟨.blt, ?_⟩)
    have Z₇ := Z₆.touch h₇ r₇
    show wpAny (MM w) A (call (.builtin "sorted") [_] [(Str.ofString "key", .ref q)]) _ _ _
    refine call_sortedK (b := false) hh (by omega) (hxs ▸ C) (fun b o e => Z₇.keep b o (hbk b o e)) kc hd hρ h8 h2 ok' (ksk_s1 _ _) (fun _ => ksk_l1 _ _) (fun _ => ksk_t1 _ _) fun D c s₈ r₈ x₈ n₈ hD₈ => ?_
    obtain ⟨Z₈, _⟩ := Z₇.got r₈ x₈ n₈ hD₈
    have hnn : N = ((N.toNat : Nat) : Int) := by omega
    refine ⟨D, _, N.toNat, _, _, _, rfl, ⟨_, hD₈, rfl, c, rfl⟩, ?_, Z₈, ?_, fun t' s₉ Z₉ _ _ => ?_⟩
    · rw [sizeR]
      have := (List.length_map (as := (srtQ ρ).toList) fun i => ρ.getD i 0)
      simp only [srtOk, Bool.and_eq_true, beq_iff_eq] at ok'
      show (srtP ρ).length ≤ 1000
      unfold srtP
      rw [this, Array.length_toList, ok'.2]
      omega
    · exact EvI.cast (EvI.name Z₈.ns (by walk_at "lk")) hnn
    · refine b4 _ _ (ret t' 0 s₉ ?_ Z₉.keep Z₉.rest)
      have := (Z₉.nw _ (.head _)).1
      simpa [ranked, katRev, List.map_take] using this
  · have hlt : N < (ρ.length : Int) := by
      have : ¬ ((xs.length : Int) ≤ N) := by simpa using hb
      omega
    rw [if_pos hlt] at ret
    refine ns_rest G hh hroom hu Z₄ S hbk kc hxs hd hρ h8 hcell (by walk_at "lk") (t := t) (by walk_at "lk") hN (fun h => ?_) (ok hlt) ret
    omega
end
end Mine

end
section
open PySem PySem.W PySem.Calls PyProof.Rows PySem.SeqAt
namespace Mine

def nsGood (k : Nat) (N : Int) (ρ : List Nat) : Bool := srtOk ρ && srtP ρ == List.range k && (N == 1 || (nsOk N.toNat ρ && nsOut N.toNat ρ == (List.range k).take N.toNat))
abbrev liOb (l : Addr) : Obj := { cls := .type "list_iterator", data := .fields #[.ref l, .int ((0 : Nat) : Int) 0] }

section
variable {w : World} {A : Around} {E : Value → Shared → Prop} {s : Shared} {Q : Value → Shared → Prop} {h₀ : Heap} {q : Addr} {n : Nat} {ev : Nat → Value} {is : Nat → List Int} {p : Nat → Str} {ρ : List Nat} {V : Value} {N : Int} {t : Tok} {mu : List (Addr × Obj)} {xs : List Value} {en : Prop} {outer : List Env}

/-- what nsmallest and nlargest leave as it was -/
theorem extF_of {h₁ : Heap} {s' : Shared} {F : List Addr} (hf : ∀ p ∈ mu, ∃ vs, p.2.data = .fields vs) (hm : ∀ p ∈ mu, s.heap.get? p.1 = some p.2) (hext : Ext (mu.map (·.1)) s.heap h₁) (hk : Sub h₁ s'.heap) : ExtF (mu.map (·.1) ++ F) s.heap s'.heap := by
  refine ⟨fun b o hb e => hk b o (hext b o (fun h => hb (List.mem_append_left _ h)) e), fun b o e hn => ⟨o.slots, hk b o (hext b o (fun h => ?_) e)⟩⟩
  obtain ⟨p, hp, rfl⟩ := List.mem_map.mp h
  obtain ⟨vs, hv⟩ := hf p hp
  rw [hm p hp] at e
  cases e
  exact hn vs hv

set_option maxHeartbeats 8000000 in
theorem nsmallest_spec (G : Gd w h₀) (hk₀ : Sub h₀ s.heap) (hm : ∀ p ∈ mu, s.heap.get? p.1 = some p.2 ∧ h₀.get? p.1 = none) (hroom : A.depth + 20 < recursionLimit) (hu : A.units + 300 < cLine) (hh : A.handled = none)
    (S : Src w h₀ mu V xs en) (kind : (mu = [] ∧ CollIs w h₀ V xs ∧ LenIs w h₀ V xs.length) ∨ (∃ I l, V = .ref I ∧ mu = [(I, liOb l)] ∧ en)) (kc : KC w h₀ q n ev is p) (hxs : xs = ρ.map ev) (hd : ρ.Nodup) (hρ : ∀ r ∈ ρ, r < n) (h8 : ρ.length ≤ 8) (h2 : 2 ≤ ρ.length) (h0 : 0 ∈ ρ)
    (hN : -10 ≤ N ∧ N ≤ 10) (good : nsGood ρ.length N ρ = true) (hfr : A.frames = some outer) (hO : OutF s.heap outer) (hF0 : ∀ b ∈ outer.filterMap (·.frame), h₀.get? b = none) (hFm : ∀ p ∈ mu, p.1 ∉ outer.filterMap (·.frame))
    (ret : ∀ D ep s', Rest s s' → ExtF (mu.map (·.1) ++ outer.filterMap (·.frame)) s.heap s'.heap → s'.heap.get? D = some (listOf (ranked ev ((List.range ρ.length).take N.toNat)) ep) → Q (.ref D) s') :
    wpAny (MM w) A (call (.ref 217) [.int N t, V] [("key", .ref q)]) Q E s := by
  have hlen : xs.length = ρ.length := by rw [hxs, List.length_map]
  simp only [nsGood, Bool.and_eq_true, Bool.or_eq_true, beq_iff_eq] at good
  obtain ⟨⟨g1, g2⟩, g3⟩ := good
  have hfl : ∀ p ∈ mu, ∃ vs, p.2.data = .fields vs := by
    rcases kind with ⟨rfl, _⟩ | ⟨I, l, _, rfl, _⟩
    · exact fun p hp => (nomatch hp)
    · intro p hp; rw [List.mem_singleton.mp hp]; exact ⟨_, rfl⟩
  refine' callFC (binds := [("n", .int N t), ("iterable", V), ("key", .ref q)]) G hk₀ mu hm ?ho ?hc (by omega) ?hb ?hl ?_ ?c2 ?c3 ?c4; (case ho => k_is); (case hc => k_is); (case c2 => exact rfl); (case c3 => exact rfl); (case c4 => exact rfl)
  case hb => first | exact BindsTo.of_eq rfl | exact BindsTo.of_defaults rfl (G.X.keeps hk₀ 212 _ (by k_is)) rfl rfl rfl
  case hl =>
    intro n x hx
    simp only [List.mem_cons, List.not_mem_nil, or_false] at hx
    rcases hx with rfl | rfl | rfl
    · exact .inl rfl
    · exact .inl rfl
    · exact .inr ⟨rfl, rfl⟩
  intro h₁ L s₁ A' E' Q' hh' hu' hd' hfr' hQ hQn G₁ st hext Z hcl
  have hc1 : h₁.IsCell (L + 1) (some (.ref q)) := hcl "key" (L + 1) rfl
  have hhA : A'.handled = none := hh'.trans hh
  have hk1 : Sub s.heap s₁.heap := fun b o e => by
    by_cases hb : b ∈ mu.map (·.1)
    · obtain ⟨p, hp, rfl⟩ := List.mem_map.mp hb
      rw [(hm p hp).1] at e
      cases e
      exact (Z.nw p hp).1
    · exact Z.keep b o (hext b o hb e)
  have fin : ∀ D ep s', s'.heap.get? D = some (listOf (ranked ev ((List.range ρ.length).take N.toNat)) ep) → Sub h₁ s'.heap → Rest s s' → Q' (.ret (.ref D)) s' := fun D ep s' hD hk r => hQ _ _ (ret D ep s' r (extF_of hfl (fun p hp => (hm p hp).1) hext hk) hD)
  refine s_if (b := N == 1) Z (.eq (EvI.name Z.ns rfl) .const) fun B' s₂ Z₂ b1 _ _ b4 => ⟨fun hb => ?_, fun hb => xs_nil (b1 _ ?_)⟩
  · have hN1 : N = 1 := by simpa using hb
    refine ns_one G₁ hhA (by omega) (by omega) Z₂ S st kc hxs hρ h0 hc1 rfl fun D ep s' hD hk r => b4 _ _ (fin D ep s' ?_ hk r)
    have : (List.range ρ.length).take N.toNat = [0] := by
      rw [hN1]
      obtain ⟨k, hk⟩ : ∃ k, ρ.length = k + 1 := ⟨ρ.length - 1, by omega⟩
      rw [hk, List.range_succ_eq_map]; rfl
    rw [this]; exact hD
  · have hN1 : N ≠ 1 := by simpa using hb
    have g4 := g3.resolve_left hN1
    rcases kind with ⟨rfl, C, H⟩ | ⟨I, l, rfl, rfl, hen⟩
    · refine ns_tryLen G₁ hhA (by omega) (by omega) Z₂ S C H st kc hxs hd hρ h8 h2 hc1 rfl (t := t) rfl hN (fun _ => g4.1) g1 fun D ep s' hD hk r => fin D ep s' ?_ hk r
      by_cases hlt : N < ρ.length
      · rw [if_pos hlt, g4.2] at hD; exact hD
      · rw [if_neg hlt, g2] at hD; exact hD
    · have hsub : Sub h₀ (hideAll h₁ (outer.filterMap (·.frame))) := fun b o e => hideAll_get _ (st b o e) (fun h => by rw [hF0 b h] at e; cases e)
      have Zh := Z₂.base (h₀ := hideAll h₁ (outer.filterMap (·.frame))) fun b o e => of_hideAll _ e
      have hO2 : OutF s₂.heap outer := hO.mono fun b o e hn => by
        refine ⟨o, ?_, rfl⟩
        by_cases hb : b = I
        · rw [hb, (hm _ (.head _)).1] at e
          cases e
          exact absurd rfl (hn _)
        · exact Z₂.keep b o (hext b o (by simpa using hb) e)
      have zI := Z₂.nw _ (.head _)
      refine s_tryIter (I := I) (outer := outer) (G.keeps hsub) Zh hhA (by rw [hfr', hfr]; rfl) hO2 (fun b hb => hideAll_none _ hb) hFm (EvV.name Zh.ns rfl) ⟨_, zI.1, rfl⟩ fun s₃ Z₃ x₃ => ?_
      obtain ⟨h₂, st2, x2, Z₄⟩ := Z₃.rebase
      have hsub2 : Sub h₀ h₂ := fun b o e => st2 b o (hsub b o e)
      have zI4 := Z₄.nw _ (.head _)
      have hc2 : h₂.IsCell (L + 1) (some (.ref q)) := by
        obtain ⟨oc, e1, e2⟩ := hc1
        obtain ⟨sl, e3⟩ := x₃.slots _ _ (Z₂.keep _ _ e1) (fun vs h => by rw [e2] at h; cases h)
        have hcI : L + 1 ≠ I := by
          intro h
          rw [← h] at zI4
          rw [zI4.1] at e3
          injection e3 with e3
          have : (liOb l).data = (Obj.mk oc.cls oc.dict oc.data sl).data := congrArg Obj.data e3
          change (liOb l).data = oc.data at this
          rw [e2] at this
          cases this
        exact ⟨_, x2 _ _ (by simp [hcI]) e3, e2⟩
      refine ns_rest (G.keeps hsub2) hhA (by omega) (by omega) Z₄ S hsub2 kc hxs hd hρ h8 hc2 rfl (t := t) rfl hN (fun _ => hen) g4.1 fun D ep s' hD hk r => hQ _ _ (ret D ep s' r ?_ (by rw [g4.2] at hD; exact hD))
      have up : ∀ b o, b ≠ I → s.heap.get? b = some o → s₂.heap.get? b = some o := fun b o hb e => Z₂.keep b o (hext b o (by simpa using hb) e)
      have neL : ∀ b o, s.heap.get? b = some o → b ≠ I → b ≠ L := fun b o e hb => by rintro rfl; have := Z₂.off; rw [hext _ o (by simpa using hb) e] at this; cases this
      refine ⟨fun b o hb e => ?_, fun b o e hn => ?_⟩
      · have hbI : b ≠ I := fun h => hb (by simp [h])
        have hbL := neL b o e hbI
        exact hk b o (x2 b o (by simp [hbL, hbI]) (x₃.ext b o (fun h => (List.mem_cons.mp h).elim hbL fun h => hb (List.mem_append_right _ h)) (up b o hbI e)))
      · have hbI : b ≠ I := by
          rintro rfl
          rw [(hm _ (.head _)).1] at e
          cases e
          exact hn _ rfl
        have hbL := neL b o e hbI
        obtain ⟨sl, e3⟩ := x₃.slots b o (up b o hbI e) hn
        exact ⟨sl, hk b _ (x2 b _ (by simp [hbL, hbI]) e3)⟩
end
end Mine

end
section
open PySem PySem.W PySem.Calls PyProof.Rows PySem.SeqAt
namespace Mine

theorem EvI.neg {w : World} {A : Around} {env : Env} {h : Heap} {e : Expr} {i : Int} {pos : Pos} (a : EvI w A env h e i) : EvI w A env h (.UnaryOp .USub e pos) (-i) := fun s Q E hs k =>
  wpAny_UnaryOp (a s _ E hs fun v s₁ hv h₁ r₁ => by obtain ⟨t, rfl⟩ := hv; exact PyProof.Rows.neg_int (k _ _ ⟨_, rfl⟩ h₁ (r₁.trans .heap)))

def nlStep (rs : List Nat) (r : Nat) : List Nat := if ltN (rs.getD 0 0) r = true then su ltN (rs.set 0 r) 0 else rs
def nlRun (rs l : List Nat) : List Nat := l.foldl nlStep rs
theorem nlRun_snoc {rs l : List Nat} {r : Nat} : nlRun rs (l ++ [r]) = nlStep (nlRun rs l) r := by simp [nlRun]
def nlEnd (mm : Nat) (ρ : List Nat) : List Nat := nlRun (hpf ltN (ρ.take mm)) (ρ.drop mm)
def nlOut (mm : Nat) (ρ : List Nat) : List Nat := if ρ.take mm = [] then [] else (srtP (nlEnd mm ρ).reverse).reverse
def nlOk (mm : Nat) (ρ : List Nat) : Bool := decide (ρ.take mm = []) || (decide (2 ≤ (nlEnd mm ρ).length) && srtOk (nlEnd mm ρ).reverse && decide (nlEnd mm ρ).Nodup)
def nlGood (k : Nat) (N : Int) (ρ : List Nat) : Bool := srtOk ρ.reverse && srtP ρ.reverse == List.range k && (N == 1 || (nlOk N.toNat ρ && nlOut N.toNat ρ == (List.range k).reverse.take N.toNat))

theorem range_down {N : Int} (hN : -10 ≤ N ∧ N ≤ 10) : Builtin.Range.rangeSize 0 (-N) (-1) = (N.toNat : Int) := by
  unfold Builtin.Range.rangeSize
  have e : (0 - -N - 1) / (- -1 : Int) = N - 1 := by
    rw [show (- -1 : Int) = 1 by decide, Int.ediv_one]; omega
  rw [if_neg (by omega), e]
  split <;> omega
theorem small_down {N : Int} (hN : -10 ≤ N ∧ N ≤ 10) : Builtin.Range.small 0 (-N) (-1) = true := by
  obtain ⟨h1, h2⟩ := hN
  unfold Builtin.Range.small
  rw [range_down ⟨h1, h2⟩]
  rw [if_neg (by decide)]
  simp only [Builtin.Range.rangeFitsLong, Bool.and_eq_true, Bool.or_eq_true, decide_eq_true_eq]
  exact ⟨⟨⟨⟨by decide, by omega⟩, by decide⟩, by omega⟩, .inr (by omega)⟩

section
variable {w : World} {A : Around} {E : Value → Shared → Prop} {h₀ hb hi : Heap} {L I q : Addr} {s₀ s : Shared} {o : Obj} {m : Str → Option Value} {fp : List Addr} {xs : List Value} {St : Nat → Heap → Prop} {Fn : Heap → Prop} {en : Prop}
  {n mm : Nat} {ev : Nat → Value} {is : Nat → List Int} {p : Nat → Str} {ρ : List Nat} {N : Int} {t : Tok} {Q : Flow → Shared → Prop}

set_option maxHeartbeats 4000000 in
theorem nl_comp (G : Gd w h₀) (hh : A.handled = none) (hroom : A.depth < recursionLimit) (Z : Fm h₀ L s₀ [(I, o)] m s) (T : Itr w hi I fp xs St Fn en) (hik : ∀ b o, hi.get? b = some o → h₀.get? b = some o) (hst : St 0 s.heap)
    (kc : KC w hb q n ev is p) (hbk : ∀ b o, hb.get? b = some o → h₀.get? b = some o) (hxs : xs = ρ.map ev) (hd : ρ.Nodup) (hρ : ∀ r ∈ ρ, r < n) (h8 : ρ.length ≤ 8)
    (hcell : h₀.IsCell (L + 1) (some (.ref q))) (mi : m "it" = some (.ref I)) (mn : m "n" = some (.int N t)) (hN : -10 ≤ N ∧ N ≤ 10) (hm : Builtin.Range.rangeSize 0 (-N) (-1) = (mm : Int)) (hen : xs.length < mm → en)
    (cont : ∀ D hx item o' s' ep, (∀ b o, h₀.get? b = some o → hx.get? b = some o) → Fm hx L s₀ [(D, listOf (ranked item (ρ.take mm)) ep), (I, o')] (upd m "result" (.ref D)) s' → D ≠ I → (∀ r ∈ ρ.take mm, TupOf hx ev is p r (item r)) →
      (if mm ≤ xs.length then St mm s'.heap else Fn s'.heap) → wpAny (MM w) A (execs ((txt (st 16)).drop 5) (eNl L)) Q E s') :
    wpAny (MM w) A (execs ((txt (st 16)).drop 4) (eNl L)) Q E s := by
  have hlen : xs.length = ρ.length := by rw [hxs, List.length_map]
  have zI := Z.nw _ (.head _)
  have hfpL : ∀ b ∈ fp, b ≠ L := fun b hb' => by
    by_cases hbI : b = I
    · rw [hbI]; exact zI.2.1
    · obtain ⟨o', e⟩ := T.low b hb' hbI
      rintro rfl
      have := Z.off; rw [hik _ _ e] at this; cases this
  refine comp_use (L := L) (s₀ := s₀) (m₀ := m) (news := []) (h₀ := h₀) (cl := [("key", L + 1)]) (callN (EvV.bltN (v := .type "zip") G Z.keep) (fun s₁ h₁ r₁ => ?_) rfl rfl) rfl rfl rfl
  have Z₁ := Z.touch h₁ r₁
  refine wpAny_items_cons (callP3 (EvV.bltN (v := .type "range") G Z₁.keep) .type EvI.const (EvI.neg (EvI.name Z₁.ns mn)) (EvI.neg EvI.const) (fun v v' v'' s₂ hv hv' hv'' h₂ r₂ => ?_) rfl rfl rfl) rfl
  obtain ⟨ta, rfl⟩ := hv
  obtain ⟨tb, rfl⟩ := hv'
  obtain ⟨tc, rfl⟩ := hv''
  have Z₂ := Z₁.touch h₂ r₂
  refine call_range_3 (by decide) ?_ (.inl (PyProof.noPylong_small (by decide)))
  obtain ⟨Z₃, n3⟩ := Z₂.new (ob := rangeOb 0 (-N) (-1) ta tb tc) (tk := s₂.toks)
  refine wpAny_items_cons (EvV.go (EvV.name Z₃.ns mi) fun s₄ h₄ r₄ => wpAny_items_nil ⟨.type, ?_⟩) rfl
  have Z₄ := Z₃.touch h₄ r₄
  have hI₄ : s₄.heap.get? I = some o := (Z₄.nw _ (.tail _ (.head _))).1
  have hst₄ : St 0 s₄.heap := by
    obtain ⟨o', vs, e1, _, e2⟩ := T.of 0 _ hst
    rw [zI.1] at e1
    cases e1
    exact e2 _ hI₄ fun b o e => Z₄.keep b o (hik b o e)
  have hsm : Builtin.Range.small 0 (-N) (-1) = true := small_down hN
  refine call_zipR (I := I) (Z₄.nw _ (.head _)).1 hsm hm (T.self 0 _ hst₄) fun z TI TO i1 s₅ z1 z2 z3 z4 a1 a2 a3 a4 a5 a6 nz nTI nTO ni1 x₅ r₅ => ?_
  have Z₅ := Z₄.ext0 r₅ x₅
  refine wpAny_pyIter_zip z1 ?_
  have alv : ∀ b ∈ fp, ∃ o, s₄.heap.get? b = some o := (T.nx A hh).alive 0 _ hst₄
  have nf : ∀ b, s₄.heap.get? b = none → b ∉ fp := fun b hn h => by obtain ⟨o, e⟩ := alv _ h; rw [hn] at e; cases e
  have hap : ZApart z TI TO i1 fp := ⟨a1, a2, a3, a4, a5, a6, nf _ nz, nf _ nTI, nf _ nTO, nf _ ni1⟩
  have tz := Trn.zip (w := w) (A := A) (elts := [.Name "i" ⟨238, 39, 238, 40⟩, .Name "elem" ⟨238, 42, 238, 46⟩]) (kk := 0) (pos := ⟨238, 39, 238, 46⟩) hh (T.nx A.in1 hh) hap 0 (-1) mm hen
  have hst₅ : St 0 s₅.heap := (T.nx A hh).frame _ _ _ hst₄ fun b _ o e => x₅.nil b o e
  have neL : ∀ b, s₄.heap.get? b = none → L ≠ b := fun b hn q => by obtain ⟨oL, _, _, hL, _⟩ := Z₄.ns; rw [q, hn] at hL; cases hL
  have h0n : ∀ b, s₄.heap.get? b = none → h₀.get? b = none := fun b hn => none_of Z₄.keep hn
  have hw0 : ∀ b ∈ z :: TO :: i1 :: [I], h₀.get? b = none := fun b hb => by
    simp only [List.mem_cons, List.not_mem_nil, or_false] at hb
    rcases hb with rfl | rfl | rfl | rfl
    · exact h0n _ nz
    · exact h0n _ nTO
    · exact h0n _ ni1
    · exact zI.2.2
  have hLw : L ∉ z :: TO :: i1 :: [I] := fun hb => by
    simp only [List.mem_cons, List.not_mem_nil, or_false] at hb
    rcases hb with h | h | h | h
    · exact neL _ nz h
    · exact neL _ nTO h
    · exact neL _ ni1 h
    · exact zI.2.1 h.symm
  refine ⟨z, _, _, _, _, _, _, _, rfl, tz, ⟨z1, z2, ⟨_, _, z3⟩, ?_, hst₅⟩, ?_, CJ ev is p ρ, m, Z₅.ns, hLw, Z₅.rest, fun hx => ⟨fun _ => .none, by simp, by simp⟩, ?_, ?_, ?_, ?_⟩
  · simpa using z4
  · exact Nat.le_trans (Nat.min_le_right ..) (by omega)
  · rintro i ys hx ⟨item, rfl, _⟩
    simp; omega
  · intro i v ys C hb₂ hx s₆ m₆ E' hi' hP hJ hxb hsx Z₆
    obtain ⟨T', t6, x, rfl, hx6, hT6⟩ := hP
    have hiρ : i < ρ.length := by omega
    have hgd : ρ.getD i 0 = ρ[i] := by simp [hiρ]
    have hmem : ρ.getD i 0 ∈ ρ := by rw [hgd]; exact List.getElem_mem hiρ
    have hxe : x = ev (ρ.getD i 0) := by
      rw [hxs, List.getElem?_map, List.getElem?_eq_getElem hiρ] at hx6
      rw [hgd]; simpa using hx6.symm
    subst hxe
    have h0x : ∀ b o, h₀.get? b = some o → hx.get? b = some o := fun b o e => hsx b o (fun h => by rw [hw0 b h] at e; cases e) (Z₅.keep b o e)
    have h0b : ∀ b o, h₀.get? b = some o → hb₂.get? b = some o := fun b o e => hxb b o (h0x b o e)
    have G₂ := G.keeps h0b
    refine a_unpack2 hh Z₆ ⟨_, hT6, rfl, 0, rfl⟩ fun s₇ Z₇ => ?_
    have hc7 : s₇.heap.IsCell (L + 1) (some (.ref q)) := by
      obtain ⟨oc, e1, e2⟩ := hcell
      exact ⟨oc, Z₇.keep _ _ (h0b _ _ e1), e2⟩
    refine e_keyTup G₂ Z₇ (kc.keeps hbk) h0b (hρ _ hmem) hroom (EvV.cell hc7) (by walk_at "lk") (by walk_at "lk") ?_
    intro t' kt vs s₈ Z₈ hkv hne _
    refine ⟨_, _, Z₈, fun hx' hxx hnw => hJ.snoc hxx hd hiρ ⟨t', kt, _, _, rfl, hnw _ (.head _), vs, hnw _ (.tail _ (.head _)), hkv⟩⟩
  · intro D ys hx ep s₆ hD0 hD hJ hxs6 hxD hsx r₆ hFn hns
    obtain ⟨item, rfl, hT⟩ := hJ
    have htk : ρ.take (min mm xs.length) = ρ.take mm := by rw [hlen, List.take_eq_take_iff]; omega
    rw [htk] at hD hT
    have hI6 : ∃ o' vs, s₆.heap.get? I = some o' ∧ o'.data = .fields vs := by
      by_cases hle : mm ≤ xs.length
      · rw [if_pos hle] at hFn
        obtain ⟨o', vs, e1, e2, _⟩ := T.of mm _ hFn
        exact ⟨o', vs, e1, e2⟩
      · rw [if_neg hle] at hFn
        obtain ⟨o', vs, e1, e2, _⟩ := T.fin _ hFn
        exact ⟨o', vs, e1, e2⟩
    obtain ⟨o', vs', hI6, hI6d⟩ := hI6
    have hDL : D ≠ L := fun h => by obtain ⟨oL, _, _, hL, _⟩ := Z₅.ns; rw [← h, hD0] at hL; cases hL
    have hDI : D ≠ I := fun h => by
      have := x₅.nil _ _ hI₄
      rw [← h, hD0] at this; cases this
    have h0x : ∀ b o, h₀.get? b = some o → hx.get? b = some o := fun b o e => hsx b o (fun h => by rw [hw0 b h] at e; cases e) (Z₅.keep b o e)
    have hb3 : ∀ b o, h₀.get? b = some o → b ∉ [L, D, I] := fun b o e q => by
      simp only [List.mem_cons, List.not_mem_nil, or_false] at q
      rcases q with rfl | rfl | rfl
      · rw [Z.off] at e; cases e
      · rw [none_of Z₅.keep hD0] at e; cases e
      · rw [zI.2.2] at e; cases e
    refine cont D (hideAll s₆.heap [L, D, I]) item o' s₆ ep (fun b o e => hideAll_get _ (hxs6 b o (fun h => hb3 b o e (by simp [h])) (h0x b o e)) (hb3 b o e)) ⟨hns, fun b o e => of_hideAll _ e, hideAll_none _ (by simp), fun p hp => ?_, Z₅.rest.trans r₆⟩ hDI (fun r hr => (hT r hr).keepsT fun b us e => ?_) hFn
    · simp only [List.mem_cons, List.not_mem_nil, or_false] at hp
      rcases hp with rfl | rfl
      · exact ⟨hD, hDL, hideAll_none _ (by simp)⟩
      · exact ⟨hI6, zI.2.1, hideAll_none _ (by simp)⟩
    · have hbL : b ≠ L := by
        rintro rfl
        obtain ⟨oL, es, ep', hL, hdL, _⟩ := Z₅.ns
        have := hsx _ _ hLw hL
        rw [e] at this
        injection this with this
        rw [← this] at hdL
        cases hdL
      have hbD : b ≠ D := by rintro rfl; rw [hxD] at e; cases e
      have e6 := hxs6 b _ hbL e
      have hbI : b ≠ I := by
        rintro rfl
        rw [e6] at hI6
        injection hI6 with hI6
        rw [← hI6] at hI6d
        cases hI6d
      exact hideAll_get _ e6 (by simp [hbL, hbD, hbI])
  · intro h h' hF hk
    by_cases hle : mm ≤ xs.length
    · rw [if_pos hle] at hF ⊢
      exact (T.nx A hh).frame _ _ _ hF fun b hb' o e => hk b (by simp [hb']) (hfpL b hb') o e
    · rw [if_neg hle] at hF ⊢
      exact (T.nx A hh).frameF _ _ hF fun b hb' o e => hk b (by simp [hb']) (hfpL b hb') o e
set_option maxHeartbeats 8000000 in
theorem nl_loop {D kt : Addr} {item : Nat → Value} {ep : Nat} {rs₀ : List Nat} {od : Int} {tk : Tok} (G : Gd w h₀) (hh : A.handled = none) (hroom : A.depth + 10 < recursionLimit) (hu : A.units + 200 < cLine) (Z : Fm h₀ L s₀ [(D, listOf (ranked item rs₀) ep), (I, o)] m s) (hDI : D ≠ I) (T : Itr w hi I fp xs St Fn en) (hik : ∀ b o, hi.get? b = some o → h₀.get? b = some o)
    (hst : if mm ≤ xs.length then St mm s.heap else Fn s.heap) (kc : KC w hb q n ev is p) (hbk : ∀ b o, hb.get? b = some o → h₀.get? b = some o) (hxs : xs = ρ.map ev) (hd : ρ.Nodup) (hρ : ∀ r ∈ ρ, r < n) (h8 : ρ.length ≤ 8)
    (hcell : h₀.IsCell (L + 1) (some (.ref q))) (mi : m "it" = some (.ref I)) (hen : xs.length < mm → en)
    (hR : Rk (fun r => r ∈ ρ.take mm) rs₀) (hpos : 0 < rs₀.length) (hT : ∀ r ∈ rs₀, TupOf h₀ ev is p r (item r)) (m1 : m "result" = some (.ref D)) (m2 : m "top" = some (.ref kt)) (hkt : KeyAt h₀ kt (is (rs₀.getD 0 0)) (p (rs₀.getD 0 0))) (m3 : m "order" = some (.int od tk)) (m4 : m "_heapreplace" = some (.ref 162))
    (cont : ∀ hx item ep m' s' E, (∀ b o, h₀.get? b = some o → hx.get? b = some o) → Fm hx L s₀ [(D, listOf (ranked item (nlRun rs₀ (ρ.drop mm))) ep)] m' s' → Rk (fun r => r ∈ ρ) (nlRun rs₀ (ρ.drop mm)) → (nlRun rs₀ (ρ.drop mm)).length = rs₀.length → (∀ r ∈ nlRun rs₀ (ρ.drop mm), TupOf hx ev is p r (item r)) → m' "result" = some (.ref D) →
      wpAny (MM w) A (execs ((txt (st 16)).drop 11) (eNl L)) Q E s') :
    wpAny (MM w) A (execs ((txt (st 16)).drop 10) (eNl L)) Q E s := by
  have hlen : xs.length = ρ.length := by rw [hxs, List.length_map]
  have zI := Z.nw _ (.tail _ (.head _))
  have zD := Z.nw _ (.head _)
  have hfpL : ∀ b ∈ fp, b ≠ L := fun b hb' => by
    by_cases hbI : b = I
    · rw [hbI]; exact zI.2.1
    · obtain ⟨o', e⟩ := T.low b hb' hbI
      rintro rfl
      have := Z.off; rw [hik _ _ e] at this; cases this
  have hfpD : ∀ b ∈ fp, b ≠ D := fun b hb' => by
    by_cases hbI : b = I
    · rw [hbI]; exact hDI.symm
    · obtain ⟨o', e⟩ := T.low b hb' hbI
      rintro rfl
      have := zD.2.2; rw [hik _ _ e] at this; cases this
  obtain ⟨St', hs0, W, hal⟩ := T.rest (A := A) (mm := mm) hh hen
  refine xs_cons (wpAny_For (EvV.go (EvV.name Z.ns mi) fun s₁ h₁ r₁ => ?_) fun _ => rfl)
  have Z₁ := Z.touch h₁ r₁
  have hst₁ : St' 0 s₁.heap := hs0 _ (h₁ ▸ hst)
  refine W.self 0 _ _ _ hst₁ ?_
  refine for_walkH (news := [(D, listOf (ranked item rs₀) ep)]) (Trn.ofWalks W hal) (NJ ev is p ρ mm D 162 (nlRun rs₀) rs₀.length) (Z₁.sub fun p hp => ?_) hst₁ ?_ ?_ ?_ ?_ ?_
  · rw [List.mem_singleton.mp hp]; exact .head _
  · exact .mk item rs₀ ep kt od tk m h₀ (by simp [nlRun]) (by simpa using hR) rfl hT m1 m2 hkt m3 m4
  · exact fun b hb' => ⟨hfpL b hb', by simpa using hfpD b hb'⟩
  · exact fun b hb' => by rw [List.mem_singleton.mp hb']; exact zI.2.2
  · rintro i v _ _ s₂ h₂ hx E' B hi' hP ⟨item, rs, ep, kt, od, tk, m, hx, hrs, hRk, hln, hT, m1, m2, hkt, m3, m4⟩ h0x hx2 Z₂ bn _
    have hi1 : mm + i < ρ.length := by omega
    have hve : v = ev (ρ.getD (mm + i) 0) := by
      have hP : xs[mm + i]? = some v := hP
      rw [hxs, List.getElem?_map, List.getElem?_eq_getElem hi1] at hP
      simp [hi1]; simpa using hP.symm
    have hmem : ρ.getD (mm + i) 0 ∈ ρ := by simp [hi1]
    have hrn := hρ _ hmem
    have hnin : ρ.getD (mm + i) 0 ∉ rs := fun h => get_notin hd hi1 (hRk.lt _ h)
    have hin1 := get_in hi1
    have hsn := take_snoc hi1
    generalize ρ.getD (mm + i) 0 = r at *
    subst hve
    have h02 : ∀ b o, h₀.get? b = some o → h₂.get? b = some o := fun b o e => hx2 b o (h0x b o e)
    have G₂ := G.keeps h02
    refine a_name Z₂ fun s₃ Z₃ => ?_
    have hc3 : ∀ {s : Shared} {news m}, Fm h₂ L s₀ news m s → s.heap.IsCell (L + 1) (some (.ref q)) := fun Z => by
      obtain ⟨oc, e1, e2⟩ := hcell
      exact ⟨oc, Z.keep _ _ (h02 _ _ e1), e2⟩
    refine s_asgW (s₀ := s₀) (callP1 (EvV.cell (hc3 Z₃)) (.K G₂ Z₃.keep kc.kp) (EvV.name Z₃.ns (by walk_at "lk")) (fun v s₄ hv h₄ r₄ => ?_) rfl)
    subst hv
    have Z₄ := Z₃.touch h₄ r₄
    refine kc.key r hrn A s₄ _ _ (fun b o e => Z₄.keep b o (h02 _ _ (hbk b o e))) (by omega) fun kt' s₅ r₅ x₅ n₅ ⟨vs, e₅, hkv⟩ => ?_
    obtain ⟨Z₅, nn⟩ := Z₄.got r₅ x₅ n₅ e₅
    refine ⟨_, _, _, Z₅, fun s₆ Z₆ => ?_⟩
    have hpos' : 0 < rs.length := by omega
    have hr0 : rs.getD 0 0 < n := hρ _ (List.mem_of_mem_take (hRk.get hpos'))
    refine s_if (b := ltN (rs.getD 0 0) r) Z₆ (.ltV (.name Z₆.ns (by walk_at "lk")) (.name Z₆.ns (by walk_at "lk")) fun s hs => ?_) fun B' s₇ Z₇ b1 _ _ _ => ⟨fun hb => ?_, fun hb => ?_⟩
    · have hk1 : KeyAt s.heap kt' (is r) (p r) := ⟨vs, hs ▸ (Z₆.nw _ (.head _)).1, hkv⟩
      have hk2 : KeyAt s.heap kt (is (rs.getD 0 0)) (p (rs.getD 0 0)) := hkt.keeps fun b o e => by rw [hs]; exact Z₆.keep b o (hx2 b o e)
      rw [← kc.KK.lt _ _ hr0 hrn]
      exact KeyAt.lt hk2 hk1 (kc.KK.len _ _ hr0 hrn) (by omega)
    · refine s_exprA (callN (EvV.name Z₇.ns (by walk_at "lk")) (fun s₈ h₈ r₈ => wpAny_items_cons ?_ rfl) rfl rfl)
      have Z₈ := Z₇.touch h₈ r₈
      refine EvV.go (EvV.name Z₈.ns (by walk_at "lk")) fun s₉ h₉ r₉ => wpAny_items_cons ?_ rfl
      have Z₉ := Z₈.touch h₉ r₉
      refine e_tuple Z₉ (.cons (EvV.name Z₉.ns (by walk_at "lk")) (.cons (EvV.name Z₉.ns (by walk_at "lk")) (.cons (EvV.name Z₉.ns (by walk_at "lk")) .nil))) (by decide) ?_ ?_
      · rintro _ ⟨_, _, rfl, rfl, _, _, rfl, rfl, _, _, rfl, rfl, rfl⟩; rfl
      rintro _ t' s₁₀ ⟨_, _, rfl, rfl, _, _, rfl, rfl, _, _, rfl, rfl, rfl⟩ Z₁₀ nt _
      refine wpAny_items_nil ⟨.K G₂ Z₁₀.keep (by k_is), ?_⟩
      have zt := Z₁₀.nw _ (.head _)
      have zk := Z₁₀.nw _ (.tail _ (.head _))
      have zd := Z₁₀.nw _ (.tail _ (.tail _ (.head _)))
      have ntD : D ≠ t' := nt (D, _) (.tail _ (.head _))
      have nkD : D ≠ kt' := nn (D, _) (.head _)
      have hid : ∀ b o, h₂.get? b = some o → (hideAll s₁₀.heap [D]).get? b = some o := fun b o e => hideAll_get _ (Z₁₀.keep b o e) (by simp only [List.mem_singleton]; rintro rfl; rw [zd.2.2] at e; cases e)
      have hnew : TupOf (hideAll s₁₀.heap [D]) ev is p r (.ref t') := ⟨t', kt', od, tk, rfl, hideAll_get _ zt.1 (by simpa using ntD.symm), vs, hideAll_get _ zk.1 (by simpa using nkD.symm), hkv⟩
      obtain ⟨item', ir, io⟩ : ∃ item' : Nat → Value, item' r = .ref t' ∧ ∀ x, x ≠ r → item' x = item x := ⟨fun x => if x = r then .ref t' else item x, if_pos rfl, fun x hx => if_neg hx⟩
      have hrk : ranked item' rs = ranked item rs := by
        unfold ranked
        congr 1
        exact List.map_congr_left fun x hx => io x (fun e : x = r => hnin (e ▸ hx))
      have hall : ∀ x, (x ∈ rs ∨ x = r) → TupOf (hideAll s₁₀.heap [D]) ev is p x (item' x) := fun x hx' => by
        by_cases hxr : x = r
        · rw [hxr, ir]; exact hnew
        · rw [io x hxr]; exact (hT x (hx'.resolve_right hxr)).keeps fun b o e => hid b o (hx2 b o e)
      have hlt : ∀ x, (x ∈ rs ∨ x = r) → x < n := fun x hx' => hx'.elim (fun h => hρ _ (List.mem_of_mem_take (hRk.lt _ h))) fun h => h ▸ hrn
      have O : Ord (hideAll s₁₀.heap [D]) (fun x => x ∈ rs ∨ x = r) item' := Ord.of kc.KK hlt fun x hx' => (hall x hx').item
      have hRk' : Rk (fun x => x ∈ rs ∨ x = r) rs := ⟨fun x hx' => .inl hx', hRk.small⟩
      show wpAny (MM w) A (call (.ref 162) [.ref D, .ref t']) _ _ _
      rw [← ir]
      refine heapreplace_spec (r := r) (D := D) (rs := rs) (ep := ep) (G₂.keeps hid) (fun b o e => of_hideAll _ e) O (by rw [hrk]; exact zd.1) (hideAll_none _ (.head _)) hRk' hpos' (.inr rfl) (by omega) (by omega) ?_
      intro s₁₁ r₁₁ x₁₁ hD₁₁
      have Z₁₁ := (Z₁₀.sub (news' := [(D, listOf (ranked item rs) ep), (t', tupOf [.ref kt', .int od tk, ev r]), (kt', tupOf vs)]) fun p hp => by
        simp only [List.mem_cons, List.not_mem_nil, or_false] at hp ⊢
        rcases hp with rfl | rfl | rfl <;> simp).ext r₁₁ x₁₁ hD₁₁ (fun p hp => by
        simp only [List.mem_cons, List.not_mem_nil, or_false] at hp
        rcases hp with rfl | rfl
        · exact ntD.symm
        · exact nkD.symm)
      have hRn : Rk (fun x => x ∈ rs ∨ x = r) (su ltN (rs.set 0 r) 0) := su_rk (hRk'.set (.inr rfl)) (by rw [List.length_set]; exact hpos')
      have hln' : (su ltN (rs.set 0 r) 0).length = rs.length := by rw [su_len (by rw [List.length_set]; exact hpos'), List.length_set]
      have hstep : nlStep rs r = su ltN (rs.set 0 r) 0 := by rw [nlStep, if_pos hb]
      have hp2 : 0 < (su ltN (rs.set 0 r) 0).length := by rw [hln']; exact hpos'
      generalize su ltN (rs.set 0 r) 0 = rs' at *
      refine s_unpack3 (EvV.go (EvV.item (k := 0) (.name Z₁₁.ns (by walk_at "lk")) .const (Z₁₁.nw _ (.head _)).1 (ranked_get hp2) (by decide)) fun s₁₂ h₁₂ r₁₂ => ?_)
      have Z₁₂ := Z₁₁.touch h₁₂ r₁₂
      have h00 : ∃ t0 kt0 j0 tk0, item' rs'[0] = .ref t0 ∧ s₁₂.heap.get? t0 = some (tupOf [.ref kt0, .int j0 tk0, ev rs'[0]]) ∧ ∀ hx', (∀ b o, hx.get? b = some o → hx'.get? b = some o) → (∀ p ∈ [(t', tupOf [.ref kt', .int od tk, ev r]), (kt', tupOf vs)], hx'.get? p.1 = some p.2) → KeyAt hx' kt0 (is rs'[0]) (p rs'[0]) := by
        by_cases hxr : rs'[0] = r
        · rw [hxr, ir]
          exact ⟨t', kt', od, tk, rfl, (Z₁₂.nw _ (.tail _ (.head _))).1, fun hx' _ hnw => ⟨vs, hnw _ (.tail _ (.head _)), hkv⟩⟩
        · rw [io _ hxr]
          obtain ⟨t1, kt1, j1, tk1, f0, f1, f2⟩ := hT _ ((hRn.lt _ (List.getElem_mem hp2)).resolve_right hxr)
          exact ⟨t1, kt1, j1, tk1, f0, Z₁₂.keep _ _ (hx2 _ _ f1), fun hx' hxx _ => f2.keeps hxx⟩
      obtain ⟨t0, kt0, j0, tk0, e0, e1, e2⟩ := h00
      have hg0 : rs'.getD 0 0 = rs'[0] := by simp [hp2]
      rw [hg0, e0]
      refine a_unpack3 hh Z₁₂ ⟨_, e1, rfl, 0, rfl⟩ fun s₁₃ Z₁₃ => ?_
      refine s_augSub Z₁₃ (by walk_at "lk") .const fun tk' s₁₄ Z₁₄ => xs_nil (b1 _ (xs_nil (bn [(t', tupOf [.ref kt', .int od tk, ev r]), (kt', tupOf vs)] [(D, listOf (ranked item' rs') ep)] _ _ (Z₁₄.sub fun p hp => ?_) (fun p hp q hq => ?_) fun hx' hxx hnw => ?_)))
      · simp only [List.mem_append, List.mem_cons, List.not_mem_nil, or_false] at hp ⊢
        rcases hp with (rfl | rfl) | rfl <;> simp
      · rw [List.mem_singleton.mp hq]
        simp only [List.mem_cons, List.not_mem_nil, or_false] at hp
        rcases hp with rfl | rfl
        · exact ntD.symm
        · exact nkD.symm
      · have hT' : ∀ x ∈ rs', TupOf hx' ev is p x (item' x) := fun x hx1 => by
          by_cases hxr : x = r
          · rw [hxr, ir]; exact ⟨t', kt', od, tk, rfl, hnw _ (.head _), vs, hnw _ (.tail _ (.head _)), hkv⟩
          · rw [io x hxr]; exact (hT x ((hRn.lt x hx1).resolve_right hxr)).keeps hxx
        have hk0 : KeyAt hx' kt0 (is (rs'.getD 0 0)) (p (rs'.getD 0 0)) := by
          rw [hg0]; exact e2 hx' hxx hnw
        refine .mk item' rs' ep kt0 _ tk' _ hx' ?_ ⟨fun x hx1 => (hRn.lt x hx1).elim (fun h => take_mono (by omega) (hRk.lt x h)) fun h => h ▸ hin1, hRn.small⟩ (by rw [hln', hln]) hT' (by walk_at "lk") (by walk_at "lk") hk0 (by walk_at "lk") (by walk_at "lk")
        rw [hsn, nlRun_snoc, ← hrs, hstep]
    · refine xs_nil (b1 _ (xs_nil (bn [(kt', tupOf vs)] _ _ _ Z₇ (fun p hp q hq => ?_) fun hx' hxx hnw => ?_)))
      · rw [List.mem_singleton.mp hp]
        rw [List.mem_singleton.mp hq]
        exact (nn _ (.head _)).symm
      · refine .mk item rs ep kt od tk _ hx' ?_ ⟨fun r hr => take_mono (by omega) (hRk.lt r hr), hRk.small⟩ hln (fun r hr => (hT r hr).keeps hxx) (by walk_at "lk") (by walk_at "lk") (hkt.keeps hxx) (by walk_at "lk") (by walk_at "lk")
        rw [hsn, nlRun_snoc, ← hrs, nlStep, if_neg (by rw [hb]; decide)]
  · rintro _ _ s₂ hx E' ⟨item, rs, ep, kt, od, tk, m, hx, hrs, hRk, hln, hT, m1, m2, hkt, m3, m4⟩ h0x Z₂
    have htk : (ρ.drop mm).take (xs.length - mm) = ρ.drop mm := List.take_of_length_le (by simp; omega)
    rw [htk] at hrs
    subst hrs
    exact cont hx item ep _ s₂ E' h0x Z₂ ⟨fun r hr => List.mem_of_mem_take (hRk.lt r hr), hRk.small⟩ hln hT m1
set_option maxHeartbeats 8000000 in
theorem nl_tail (G : Gd w h₀) (hh : A.handled = none) (hroom : A.depth + 10 < recursionLimit) (hu : A.units + 200 < cLine) (Z : Fm h₀ L s₀ [(I, o)] m s) (T : Itr w hi I fp xs St Fn en) (hik : ∀ b o, hi.get? b = some o → h₀.get? b = some o) (hst : St 0 s.heap)
    (kc : KC w hb q n ev is p) (hbk : ∀ b o, hb.get? b = some o → h₀.get? b = some o) (hxs : xs = ρ.map ev) (hd : ρ.Nodup) (hρ : ∀ r ∈ ρ, r < n) (h8 : ρ.length ≤ 8)
    (hcell : h₀.IsCell (L + 1) (some (.ref q))) (mi : m "it" = some (.ref I)) (mn : m "n" = some (.int N t)) (hN : -10 ≤ N ∧ N ≤ 10) (hm : Builtin.Range.rangeSize 0 (-N) (-1) = (mm : Int)) (hen : xs.length < mm → en) (ok : nlOk mm ρ = true)
    (ret : ∀ D ep s', s'.heap.get? D = some (listOf (ranked ev (nlOut mm ρ)) ep) → (∀ b o, h₀.get? b = some o → s'.heap.get? b = some o) → Rest s₀ s' → Q (.ret (.ref D)) s') :
    wpAny (MM w) A (execs ((txt (st 16)).drop 4) (eNl L)) Q E s := by
  refine nl_comp G hh (by omega) Z T hik hst kc hbk hxs hd hρ h8 hcell mi mn hN hm hen ?_
  intro D hx item o' s₁ ep h0x Z₁ hDI hT hst₁
  have hxsz : (ranked item (ρ.take mm)).size ≤ 1000 := by rw [sizeR, List.length_take]; omega
  refine s_if Z₁ (.not (.list (.name Z₁.ns (by walk_at "lk")) (Z₁.nw _ (.head _)).1 hxsz)) fun B' s₂ Z₂ b1 _ _ b4 => ⟨fun hb => ?_, fun hb => xs_nil (b1 _ ?_)⟩
  · rw [rk_empty] at hb
    have he : ρ.take mm = [] := by simpa using hb
    refine s_retE Z₂ (EvV.name Z₂.ns (by walk_at "lk")) ?_
    rintro _ s₃ rfl Z₃
    have zd := (Z₃.nw _ (.head _)).1
    rw [he] at zd
    refine b4 _ _ (ret D ep s₃ ?_ (fun b o e => Z₃.keep b o (h0x b o e)) Z₃.rest)
    rw [nlOut, if_pos he]
    exact zd
  · rw [rk_empty] at hb
    have hne : ¬ ρ.take mm = [] := by simpa using hb
    have hpos := ne_len hne
    have Gx := G.keeps h0x
    have hR0 : Rk (fun r => r ∈ ρ.take mm) (ρ.take mm) := ⟨fun _ h => h, by rw [List.length_take]; omega⟩
    obtain ⟨hR, hRl⟩ := hpf_rk (lt := ltN) hR0
    have hps : 0 < (hpf ltN (ρ.take mm)).length := by omega
    refine s_expr (callP1 (EvV.glob Gx Z₂.keep (by k_is)) (.K Gx Z₂.keep (by k_is)) (EvV.name Z₂.ns (by walk_at "lk")) ?_)
    rintro _ s₃ rfl h₃ r₃
    have Z₃ := Z₂.touch h₃ r₃
    have O : Ord hx (fun r => r ∈ ρ.take mm) item := Ord.of kc.KK (fun r hr => hρ r (List.mem_of_mem_take hr)) fun r hr => (hT r hr).item
    refine heapify_spec Gx Z₃.keep O (Z₃.nw _ (.head _)).1 (Z₃.nw _ (.head _)).2.2 hR0 hh (by omega) (by omega) fun s₄ r₄ x₄ hD₄ => ⟨rfl, ?_⟩
    have Z₄ := Z₃.ext r₄ x₄ hD₄ (fun p hp => by rw [List.mem_singleton.mp hp]; exact hDI.symm)
    have hg0 : (hpf ltN (ρ.take mm)).getD 0 0 ∈ ρ.take mm := hR.get hps
    obtain ⟨t0, kt0, j0, tk0, e0, e1, e2⟩ := hT _ hg0
    refine s_asg Z₄ (EvV.titem (n := 0) (EvV.item (k := 0) (.name Z₄.ns (by walk_at "lk")) .const (Z₄.nw _ (.head _)).1 ((ranked_get hps).trans (congrArg some e0)) (by decide)) .const (Z₄.keep _ _ e1) (v := .ref kt0) rfl (by decide)) ?_
    rintro _ s₅ rfl Z₅
    refine s_asg Z₅ (EvI.neg (EvI.name (i := N) (t := t) Z₅.ns (by walk_at "lk"))) ?_
    rintro _ s₆ ⟨to, rfl⟩ Z₆
    refine s_asg Z₆ (EvV.glob Gx Z₆.keep (by k_is)) ?_
    rintro _ s₇ rfl Z₇
    have hst₇ : if mm ≤ xs.length then St mm s₇.heap else Fn s₇.heap := by
      have zI1 := (Z₁.nw _ (.tail _ (.head _))).1
      have zI7 := (Z₇.nw _ (.tail _ (.head _))).1
      by_cases hle : mm ≤ xs.length
      · rw [if_pos hle] at hst₁ ⊢
        obtain ⟨o'', vs, f1, _, f2⟩ := T.of mm _ hst₁
        rw [zI1] at f1; cases f1
        exact f2 _ zI7 fun b o e => Z₇.keep b o (h0x b o (hik b o e))
      · rw [if_neg hle] at hst₁ ⊢
        obtain ⟨o'', vs, f1, _, f2⟩ := T.fin _ hst₁
        rw [zI1] at f1; cases f1
        exact f2 _ zI7 fun b o e => Z₇.keep b o (h0x b o (hik b o e))
    refine nl_loop (rs₀ := hpf ltN (ρ.take mm)) (mm := mm) Gx hh hroom hu Z₇ hDI T (fun b o e => h0x b o (hik b o e)) hst₇ kc (fun b o e => h0x b o (hbk b o e)) hxs hd hρ h8 (let ⟨oc, f1, f2⟩ := hcell; ⟨oc, h0x _ _ f1, f2⟩) (by walk_at "lk") hen hR hps (fun r hr => hT r (hR.lt r hr)) (by walk_at "lk") (by walk_at "lk") e2 (by walk_at "lk") (by walk_at "lk") ?_
    clear Z₇ Z₆ Z₅ Z₄ Z₃ Z₂ Z₁ hst₇ hst₁ O
    intro hy item' ep' m' s₈ E' hxy Z₈ hRk hlen' hT' m1
    rw [nlOk, decide_eq_false hne, Bool.false_or] at ok
    simp only [Bool.and_eq_true, decide_eq_true_eq] at ok
    obtain ⟨⟨ok1, ok2⟩, ok3⟩ := ok
    have eE : nlRun (hpf ltN (ρ.take mm)) (ρ.drop mm) = nlEnd mm ρ := rfl
    rw [eE] at Z₈ hRk hlen' hT'
    rw [nlOut, if_neg hne] at ret
    generalize nlEnd mm ρ = rs at *
    have zd := (Z₈.nw _ (.head _)).1
    have hyD := (Z₈.nw _ (.head _)).2.2
    refine s_exprA (e_sortR Z₈ (fun _ => not_nil) (.name Z₈.ns m1) ok1 hRk.small ok2 (κ := tuples' false) (SortBy.items (c := 2) (n := n) (is := is) (p := p) (by show A.units + 1 + 4 < _; omega) kc.KK (fun r hr => hρ r (hRk.lt r hr)) ok3 (by omega) ?_ (fun r hr => ((hT' r hr).keeps Z₈.keep).item)) fun s₉ c Z₉ => ?_)
    · intro t us e hm'
      rw [List.mem_singleton.mp hm', zd] at e
      injection e with e
      injection e with e
      simp at e
    refine s_ret (e_elems (ev := ev) (is := is) (p := p) (item := item') (rs := (srtP rs.reverse).reverse) (ep := c) hh Z₉ m1 (Z₉.nw _ (.head _)).1 ?_ ?_ ?_)
    · have := (List.length_map (as := (srtQ rs.reverse).toList) fun i => rs.reverse.getD i 0)
      simp only [srtOk, Bool.and_eq_true, beq_iff_eq] at ok2
      rw [List.length_reverse]
      unfold srtP
      rw [this, Array.length_toList, ok2.2, List.length_reverse]
      exact hRk.small
    · intro r hr
      have hr' : r ∈ rs := by
        simp only [srtOk, Bool.and_eq_true, List.all_eq_true, decide_eq_true_eq] at ok2
        obtain ⟨i, hi', rfl⟩ := List.mem_map.mp (List.mem_reverse.mp hr)
        have := ok2.1.2 i hi'
        have e : rs.reverse.getD i 0 = rs.reverse[i] := by rw [List.getD, List.getElem?_eq_getElem this]; rfl
        rw [← List.mem_reverse, e]
        exact List.getElem_mem this
      exact (hT' r hr').keeps Z₉.keep
    · intro R ep'' s₁₀ _ hR10 x10 r10
      exact ret R ep'' s₁₀ hR10 (fun b o e => x10.nil _ _ (Z₉.keep b o (hxy b o (h0x b o e)))) (Z₉.rest.trans r10)
end

section
variable {w : World} {A : Around} {E : Value → Shared → Prop} {h₀ hb : Heap} {L q : Addr} {s₀ s : Shared} {m : Str → Option Value} {xs : List Value} {en : Prop}
  {n : Nat} {ev : Nat → Value} {is : Nat → List Int} {p : Nat → Str} {ρ : List Nat} {N : Int} {t : Tok} {Q : Flow → Shared → Prop} {V : Value} {mu : List (Addr × Obj)}

set_option maxHeartbeats 8000000 in
theorem nl_one (G : Gd w h₀) (hh : A.handled = none) (hroom : A.depth + 10 < recursionLimit) (hu : A.units + 200 < cLine) (Z : Fm h₀ L s₀ mu m s) (S : Src w hb mu V xs en) (hbk : Sub hb h₀) (kc : KC w hb q n ev is p) (hxs : xs = ρ.map ev) (hρ : ∀ r ∈ ρ, r < n) (h0 : ρ.length - 1 ∈ ρ) (hn : n = ρ.length)
    (hcell : h₀.IsCell (L + 1) (some (.ref q))) (mi : m "iterable" = some V)
    (ret : ∀ D ep s', s'.heap.get? D = some (listOf (ranked ev [ρ.length - 1]) ep) → Sub h₀ s'.heap → Rest s₀ s' → Q (.ret (.ref D)) s') :
    wpAny (MM w) A (execs (ifB (pick (txt (st 16)) 0)) (eNl L)) Q E s := by
  have hlen : xs.length = ρ.length := by rw [hxs, List.length_map]
  refine s_asgW (s₀ := s₀) (callP1 (EvV.bltN (v := .builtin "iter") G Z.keep) .blt (EvV.name Z.ns mi) (fun v s₁ hv h₁ r₁ => ?_) rfl)
  subst hv
  have Z₁ := Z.touch h₁ r₁
  refine call_iter (S h₀ A.in1 L s₀ s₁ m _ _ hbk hh Z₁ fun I o fp St Fn s₂ Z₂ T hst₂ => ⟨_, _, _, Z₂, fun s₃ Z₃ => ?_⟩)
  refine s_asgW (s₀ := s₀) (callN0 (EvV.bltN (v := .type "object") G Z₃.keep) .type (fun s₄ h₄ r₄ => ?_))
  have Z₄ := Z₃.touch h₄ r₄
  refine call_object ?_
  obtain ⟨Z₅, n5⟩ := Z₄.new (ob := { cls := .type "object", data := .plain }) (tk := s₄.toks)
  refine ⟨_, _, _, Z₅, fun s₆ Z₆ => ?_⟩
  generalize s₄.heap.objs.size = sn at *
  have hcl : ∀ {s : Shared} {news m}, Fm h₀ L s₀ news m s → s.heap.IsCell (L + 1) (some (.ref q)) := fun Z => by
    obtain ⟨oc, e1, e2⟩ := hcell
    exact ⟨oc, Z.keep _ _ e1, e2⟩
  refine s_asgW (s₀ := s₀) (callK (EvV.bltN (v := .builtin "max") G Z₆.keep) (fun s₇ h₇ r₇ => wpAny_items_cons ?_ rfl) rfl rfl rfl)
  have Z₇ := Z₆.touch h₇ r₇
  refine EvV.go (EvV.name Z₇.ns (by walk_at "lk")) fun s₈ h₈ r₈ => wpAny_items_nil ?_
  have Z₈ := Z₇.touch h₈ r₈
  refine kwAll_cons (EvV.go (EvV.name Z₈.ns (by walk_at "lk")) fun s₉ h₉ r₉ => kwAll_cons ?_)
  have Z₉ := Z₈.touch h₉ r₉
  refine EvV.go (EvV.cell (hcl Z₉)) fun s₁₀ h₁₀ r₁₀ => kwAll_nil ⟨.blt, ?_⟩
  have Z₁₀ := Z₉.touch h₁₀ r₁₀
  have hst : St 0 s₁₀.heap := by
    obtain ⟨o', vs, e1, _, e2⟩ := T.of 0 _ hst₂
    rw [(Z₂.nw _ (.head _)).1] at e1
    cases e1
    exact e2 _ (Z₁₀.nw _ (.tail _ (.head _))).1 Z₁₀.keep
  have hget : ∀ i, i < ρ.length → ρ.getD i 0 ∈ ρ := fun i hi => by simp [hi]
  show wpAny (MM w) A (call (.builtin "max") [.ref I] [("default", .ref sn), ("key", .ref q)]) _ _ _
  refine call_max (ev := fun i => ev (ρ.getD i 0)) (ρ := fun i => ρ.getD i 0) (hb := h₀) (T.walks A.in1 hh) (T.nx A hh).alive (fun i v e => ?_) kc.KK (fun i hi => hρ _ (hget i (hlen ▸ hi))) (fun i hi => ((kc.keeps hbk).key _ (hρ _ (hget i (hlen ▸ hi))))) (fun b hb => by rw [List.mem_singleton.mp hb]; exact T.new) (by omega) (by omega) ?_ hst Z₁₀.keep ?_
  · have hi : i < ρ.length := by
      have := (List.getElem?_eq_some_iff.mp e).1
      omega
    rw [hxs, List.getElem?_map, List.getElem?_eq_getElem hi] at e
    simp [hi]; simpa using e.symm
  · rw [hlen]; exact List.length_pos_of_mem h0
  intro b s₁₁ hb11 hmin r₁₁ x₁₁
  have hρb : ρ.getD b 0 = ρ.length - 1 := by
    obtain ⟨i, hi, e⟩ := List.getElem_of_mem h0
    have := hmin i (by omega)
    have e' : ρ.getD i 0 = ρ[i] := by simp [hi]
    rw [e', e] at this
    have := hρ _ (hget b (by omega))
    omega
  simp only [hρb]
  have zI := Z₁₀.nw _ (.tail _ (.head _))
  have Z₁₁ := (Z₁₀.sub (news' := [(sn, { cls := .type "object", data := .plain })]) fun p hp => by rw [List.mem_singleton.mp hp]; exact .head _).extS r₁₁ x₁₁ (by simpa using zI.2.1.symm) (fun b hb => by rw [List.mem_singleton.mp hb]; exact T.new) (fun p hp => by rw [List.mem_singleton.mp hp]; simpa using (n5 _ (.head _)).symm)
  refine ⟨_, _, _, Z₁₁, fun s₁₂ Z₁₂ => ?_⟩
  obtain ⟨x, ox, ex, hx, hcx⟩ := (kc.keeps hbk).inst _ (hρ _ h0)
  have zs := Z₁₂.nw _ (.head _)
  have hxs' : x ≠ sn := by rintro rfl; rw [zs.2.2] at hx; cases hx
  rw [ex] at Z₁₂
  refine s_ret (wpAny_IfExp ((Tst.isRefs (EvV.name Z₁₂.ns (by walk_at "lk")) (EvV.name Z₁₂.ns (by walk_at "lk")) (Z₁₂.keep _ _ hx) zs.1 hxs' hcx) s₁₂ _ _ rfl fun s₁₃ h₁₃ r₁₃ => ?_))
  have Z₁₃ := Z₁₂.touch h₁₃ r₁₃
  simp only [Bool.false_eq_true, if_false]
  refine e_list Z₁₃ (.cons (EvV.name Z₁₃.ns (by walk_at "lk")) .nil) (by decide) ?_ ?_
  · rintro _ ⟨_, _, rfl, rfl, rfl⟩; rfl
  · rintro _ D s₁₄ ⟨_, _, rfl, rfl, rfl⟩ Z₁₄ _ _
    exact ret D 0 s₁₄ (by have := (Z₁₄.nw _ (.head _)).1; simpa [ranked, ex] using this) Z₁₄.keep Z₁₄.rest

set_option maxHeartbeats 8000000 in
/-- behind the try -/
theorem nl_rest (G : Gd w h₀) (hh : A.handled = none) (hroom : A.depth + 10 < recursionLimit) (hu : A.units + 200 < cLine) (Z : Fm h₀ L s₀ mu m s) (S : Src w hb mu V xs en) (hbk : Sub hb h₀) (kc : KC w hb q n ev is p) (hxs : xs = ρ.map ev) (hd : ρ.Nodup) (hρ : ∀ r ∈ ρ, r < n) (h8 : ρ.length ≤ 8)
    (hcell : h₀.IsCell (L + 1) (some (.ref q))) (mi : m "iterable" = some V) (mn : m "n" = some (.int N t)) (hN : -10 ≤ N ∧ N ≤ 10) (hen : xs.length < N.toNat → en) (ok : nlOk N.toNat ρ = true)
    (ret : ∀ D ep s', s'.heap.get? D = some (listOf (ranked ev (nlOut N.toNat ρ)) ep) → Sub h₀ s'.heap → Rest s₀ s' → Q (.ret (.ref D)) s') :
    wpAny (MM w) A (execs ((txt (st 16)).drop 2) (eNl L)) Q E s := by
  have hcl : ∀ {s : Shared} {news m}, Fm h₀ L s₀ news m s → s.heap.IsCell (L + 1) (some (.ref q)) := fun Z => by
    obtain ⟨oc, e1, e2⟩ := hcell
    exact ⟨oc, Z.keep _ _ e1, e2⟩
  refine s_if (b := false) Z (.isNone (EvV.cell (hcl Z)) .none) fun B' s₁ Z₁ b1 _ _ _ => ⟨fun hb => (nomatch hb), fun hb => xs_nil (b1 _ ?_)⟩
  refine s_asgW (s₀ := s₀) (callP1 (EvV.bltN (v := .builtin "iter") G Z₁.keep) .blt (EvV.name Z₁.ns mi) (fun v s₂ hv h₂ r₂ => ?_) rfl)
  subst hv
  have Z₂ := Z₁.touch h₂ r₂
  refine call_iter (S h₀ A.in1 L s₀ s₂ m _ _ hbk hh Z₂ fun I o fp St Fn s₃ Z₃ T hst₃ => ⟨_, _, _, Z₃, fun s₄ Z₄ => ?_⟩)
  have hst : St 0 s₄.heap := by
    obtain ⟨o', vs, e1, _, e2⟩ := T.of 0 _ hst₃
    rw [(Z₃.nw _ (.head _)).1] at e1
    cases e1
    exact e2 _ (Z₄.nw _ (.head _)).1 Z₄.keep
  refine nl_tail (mm := N.toNat) G hh hroom hu Z₄ T (fun _ _ e => e) hst kc hbk hxs hd hρ h8 hcell (by walk_at "lk") (t := t) (by walk_at "lk") hN ?_ hen ok ret
  exact range_down hN

set_option maxHeartbeats 8000000 in
/-- the try, where len answers -/
theorem nl_tryLen (G : Gd w h₀) (hh : A.handled = none) (hroom : A.depth + 10 < recursionLimit) (hu : A.units + 200 < cLine) (Z : Fm h₀ L s₀ [] m s) (S : Src w hb [] V xs en) (C : CollIs w hb V xs) (H : LenIs w hb V xs.length) (hbk : Sub hb h₀) (kc : KC w hb q n ev is p) (hxs : xs = ρ.map ev) (hd : ρ.Nodup) (hρ : ∀ r ∈ ρ, r < n) (h8 : ρ.length ≤ 8) (h2 : 2 ≤ ρ.length)
    (hcell : h₀.IsCell (L + 1) (some (.ref q))) (mi : m "iterable" = some V) (mn : m "n" = some (.int N t)) (hN : -10 ≤ N ∧ N ≤ 10) (ok : N < ρ.length → nlOk N.toNat ρ = true) (ok' : srtOk ρ.reverse = true)
    (ret : ∀ D ep s', s'.heap.get? D = some (listOf (ranked ev (if N < ρ.length then nlOut N.toNat ρ else (srtP ρ.reverse).reverse.take N.toNat)) ep) → Sub h₀ s'.heap → Rest s₀ s' → Q (.ret (.ref D)) s') :
    wpAny (MM w) A (execs ((txt (st 16)).drop 1) (eNl L)) Q E s := by
  have hlen : xs.length = ρ.length := by rw [hxs, List.length_map]
  have hcl : ∀ {s : Shared} {news m}, Fm h₀ L s₀ news m s → s.heap.IsCell (L + 1) (some (.ref q)) := fun Z => by
    obtain ⟨oc, e1, e2⟩ := hcell
    exact ⟨oc, Z.keep _ _ e1, e2⟩
  refine xs_cons (wpAny_Try_except (s_asgW (s₀ := s₀) (callP1 (EvV.bltN (v := .builtin "len") G Z.keep) .blt (EvV.name Z.ns mi) (fun v s₁ hv h₁ r₁ => ?_) rfl)))
  subst hv
  have Z₁ := Z.touch h₁ r₁
  refine H A s₁ _ _ (fun b o e => Z₁.keep b o (hbk b o e)) fun t1 s₂ h₂ r₂ => ⟨_, _, _, Z₁.touch h₂ r₂, fun s₃ Z₃ => xs_nil ?_⟩
  refine s_if (b := decide ((xs.length : Int) ≤ N)) Z₃ (.ge (EvI.name Z₃.ns (by walk_at "lk")) (EvI.name Z₃.ns (by walk_at "lk"))) fun B' s₄ Z₄ b1 _ _ b4 => ⟨fun hb => ?_, fun hb => xs_nil (b1 _ (xs_nil ?_))⟩
  · have hge : (ρ.length : Int) ≤ N := by rw [← hlen]; simpa using hb
    rw [if_neg (by omega)] at ret
    refine s_ret (e_upto (L := L) (s₀ := s₀) (callK (EvV.bltN (v := .builtin "sorted") G Z₄.keep) (fun s₅ h₅ r₅ => wpAny_items_cons ?_ rfl) rfl rfl rfl))
    have Z₅ := Z₄.touch h₅ r₅
    refine EvV.go (EvV.name Z₅.ns (by walk_at "lk")) fun s₆ h₆ r₆ => wpAny_items_nil ?_
    have Z₆ := Z₅.touch h₆ r₆
    refine kwAll_cons (EvV.go (EvV.cell (hcl Z₆)) fun s₆' h₆' r₆' => kwAll_cons (EvV.go .bool fun s₇ h₇ r₇ => kwAll_nil ⟨.blt, ?_⟩))
    have Z₇ := (Z₆.touch h₆' r₆').touch h₇ r₇
    show wpAny (MM w) A (call (.builtin "sorted") [_] [(Str.ofString "key", .ref q), (Str.ofString "reverse", .bool true)]) _ _ _
    refine call_sortedK (b := true) hh (by omega) (hxs ▸ C) (fun b o e => Z₇.keep b o (hbk b o e)) kc hd hρ h8 h2 ok' (ksk_s2 _ _ _) (fun _ => ksk_l2 _ _ _) (fun _ => ksk_t2 _ _ _) fun D c s₈ r₈ x₈ n₈ hD₈ => ?_
    obtain ⟨Z₈, _⟩ := Z₇.got r₈ x₈ n₈ hD₈
    have hnn : N = ((N.toNat : Nat) : Int) := by omega
    refine ⟨D, _, N.toNat, _, _, _, rfl, ⟨_, hD₈, rfl, c, rfl⟩, ?_, Z₈, ?_, fun t' s₉ Z₉ _ _ => ?_⟩
    · rw [sizeR]
      have := (List.length_map (as := (srtQ ρ.reverse).toList) fun i => ρ.reverse.getD i 0)
      simp only [srtOk, Bool.and_eq_true, beq_iff_eq] at ok'
      show (srtP ρ.reverse).reverse.length ≤ 1000
      rw [List.length_reverse]
      unfold srtP
      rw [this, Array.length_toList, ok'.2, List.length_reverse]
      omega
    · exact EvI.cast (EvI.name Z₈.ns (by walk_at "lk")) hnn
    · refine b4 _ _ (ret t' 0 s₉ ?_ Z₉.keep Z₉.rest)
      have := (Z₉.nw _ (.head _)).1
      simpa [ranked, katRev, List.map_take] using this
  · have hlt : N < (ρ.length : Int) := by
      have : ¬ ((xs.length : Int) ≤ N) := by simpa using hb
      omega
    rw [if_pos hlt] at ret
    refine nl_rest G hh hroom hu Z₄ S hbk kc hxs hd hρ h8 hcell (by walk_at "lk") (t := t) (by walk_at "lk") hN (fun h => ?_) (ok hlt) ret
    omega
end

section
variable {w : World} {A : Around} {E : Value → Shared → Prop} {s : Shared} {Q : Value → Shared → Prop} {h₀ : Heap} {q : Addr} {n : Nat} {ev : Nat → Value} {is : Nat → List Int} {p : Nat → Str} {ρ : List Nat} {V : Value} {N : Int} {t : Tok} {mu : List (Addr × Obj)} {xs : List Value} {en : Prop} {outer : List Env}

set_option maxHeartbeats 8000000 in
theorem nlargest_spec (G : Gd w h₀) (hk₀ : Sub h₀ s.heap) (hm : ∀ p ∈ mu, s.heap.get? p.1 = some p.2 ∧ h₀.get? p.1 = none) (hroom : A.depth + 20 < recursionLimit) (hu : A.units + 300 < cLine) (hh : A.handled = none)
    (S : Src w h₀ mu V xs en) (kind : (mu = [] ∧ CollIs w h₀ V xs ∧ LenIs w h₀ V xs.length) ∨ (∃ I l, V = .ref I ∧ mu = [(I, liOb l)] ∧ en)) (kc : KC w h₀ q n ev is p) (hxs : xs = ρ.map ev) (hd : ρ.Nodup) (hρ : ∀ r ∈ ρ, r < n) (h8 : ρ.length ≤ 8) (h2 : 2 ≤ ρ.length) (h0 : ρ.length - 1 ∈ ρ) (hn : n = ρ.length)
    (hN : -10 ≤ N ∧ N ≤ 10) (good : nlGood ρ.length N ρ = true) (hfr : A.frames = some outer) (hO : OutF s.heap outer) (hF0 : ∀ b ∈ outer.filterMap (·.frame), h₀.get? b = none) (hFm : ∀ p ∈ mu, p.1 ∉ outer.filterMap (·.frame))
    (ret : ∀ D ep s', Rest s s' → ExtF (mu.map (·.1) ++ outer.filterMap (·.frame)) s.heap s'.heap → s'.heap.get? D = some (listOf (ranked ev ((List.range ρ.length).reverse.take N.toNat)) ep) → Q (.ref D) s') :
    wpAny (MM w) A (call (.ref 223) [.int N t, V] [("key", .ref q)]) Q E s := by
  have hlen : xs.length = ρ.length := by rw [hxs, List.length_map]
  simp only [nlGood, Bool.and_eq_true, Bool.or_eq_true, beq_iff_eq] at good
  obtain ⟨⟨g1, g2⟩, g3⟩ := good
  have hfl : ∀ p ∈ mu, ∃ vs, p.2.data = .fields vs := by
    rcases kind with ⟨rfl, _⟩ | ⟨I, l, _, rfl, _⟩
    · exact fun p hp => (nomatch hp)
    · intro p hp; rw [List.mem_singleton.mp hp]; exact ⟨_, rfl⟩
  refine' callFC (binds := [("n", .int N t), ("iterable", V), ("key", .ref q)]) G hk₀ mu hm ?ho ?hc (by omega) ?hb ?hl ?_ ?c2 ?c3 ?c4; (case ho => k_is); (case hc => k_is); (case c2 => exact rfl); (case c3 => exact rfl); (case c4 => exact rfl)
  case hb => first | exact BindsTo.of_eq rfl | exact BindsTo.of_defaults rfl (G.X.keeps hk₀ 218 _ (by k_is)) rfl rfl rfl
  case hl =>
    intro n x hx
    simp only [List.mem_cons, List.not_mem_nil, or_false] at hx
    rcases hx with rfl | rfl | rfl
    · exact .inl rfl
    · exact .inl rfl
    · exact .inr ⟨rfl, rfl⟩
  intro h₁ L s₁ A' E' Q' hh' hu' hd' hfr' hQ hQn G₁ st hext Z hcl
  have hc1 : h₁.IsCell (L + 1) (some (.ref q)) := hcl "key" (L + 1) rfl
  have hhA : A'.handled = none := hh'.trans hh
  have hk1 : Sub s.heap s₁.heap := fun b o e => by
    by_cases hb : b ∈ mu.map (·.1)
    · obtain ⟨p, hp, rfl⟩ := List.mem_map.mp hb
      rw [(hm p hp).1] at e
      cases e
      exact (Z.nw p hp).1
    · exact Z.keep b o (hext b o hb e)
  have fin : ∀ D ep s', s'.heap.get? D = some (listOf (ranked ev ((List.range ρ.length).reverse.take N.toNat)) ep) → Sub h₁ s'.heap → Rest s s' → Q' (.ret (.ref D)) s' := fun D ep s' hD hk r => hQ _ _ (ret D ep s' r (extF_of hfl (fun p hp => (hm p hp).1) hext hk) hD)
  refine s_if (b := N == 1) Z (.eq (EvI.name Z.ns rfl) .const) fun B' s₂ Z₂ b1 _ _ b4 => ⟨fun hb => ?_, fun hb => xs_nil (b1 _ ?_)⟩
  · have hN1 : N = 1 := by simpa using hb
    refine nl_one G₁ hhA (by omega) (by omega) Z₂ S st kc hxs hρ h0 hn hc1 rfl fun D ep s' hD hk r => b4 _ _ (fin D ep s' ?_ hk r)
    have : (List.range ρ.length).reverse.take N.toNat = [ρ.length - 1] := by
      rw [hN1]
      obtain ⟨k, hk⟩ : ∃ k, ρ.length = k + 1 := ⟨ρ.length - 1, by omega⟩
      rw [hk, List.range_succ, List.reverse_append]; rfl
    rw [this]; exact hD
  · have hN1 : N ≠ 1 := by simpa using hb
    have g4 := g3.resolve_left hN1
    rcases kind with ⟨rfl, C, H⟩ | ⟨I, l, rfl, rfl, hen⟩
    · refine nl_tryLen G₁ hhA (by omega) (by omega) Z₂ S C H st kc hxs hd hρ h8 h2 hc1 rfl (t := t) rfl hN (fun _ => g4.1) g1 fun D ep s' hD hk r => fin D ep s' ?_ hk r
      by_cases hlt : N < ρ.length
      · rw [if_pos hlt, g4.2] at hD; exact hD
      · rw [if_neg hlt, g2] at hD; exact hD
    · have hsub : Sub h₀ (hideAll h₁ (outer.filterMap (·.frame))) := fun b o e => hideAll_get _ (st b o e) (fun h => by rw [hF0 b h] at e; cases e)
      have Zh := Z₂.base (h₀ := hideAll h₁ (outer.filterMap (·.frame))) fun b o e => of_hideAll _ e
      have hO2 : OutF s₂.heap outer := hO.mono fun b o e hn => by
        refine ⟨o, ?_, rfl⟩
        by_cases hb : b = I
        · rw [hb, (hm _ (.head _)).1] at e
          cases e
          exact absurd rfl (hn _)
        · exact Z₂.keep b o (hext b o (by simpa using hb) e)
      have zI := Z₂.nw _ (.head _)
      refine s_tryIter (I := I) (outer := outer) (G.keeps hsub) Zh hhA (by rw [hfr', hfr]; rfl) hO2 (fun b hb => hideAll_none _ hb) hFm (EvV.name Zh.ns rfl) ⟨_, zI.1, rfl⟩ fun s₃ Z₃ x₃ => ?_
      obtain ⟨h₂, st2, x2, Z₄⟩ := Z₃.rebase
      have hsub2 : Sub h₀ h₂ := fun b o e => st2 b o (hsub b o e)
      have zI4 := Z₄.nw _ (.head _)
      have hc2 : h₂.IsCell (L + 1) (some (.ref q)) := by
        obtain ⟨oc, e1, e2⟩ := hc1
        obtain ⟨sl, e3⟩ := x₃.slots _ _ (Z₂.keep _ _ e1) (fun vs h => by rw [e2] at h; cases h)
        have hcI : L + 1 ≠ I := by
          intro h
          rw [← h] at zI4
          rw [zI4.1] at e3
          injection e3 with e3
          have : (liOb l).data = (Obj.mk oc.cls oc.dict oc.data sl).data := congrArg Obj.data e3
          change (liOb l).data = oc.data at this
          rw [e2] at this
          cases this
        exact ⟨_, x2 _ _ (by simp [hcI]) e3, e2⟩
      refine nl_rest (G.keeps hsub2) hhA (by omega) (by omega) Z₄ S hsub2 kc hxs hd hρ h8 hc2 rfl (t := t) rfl hN (fun _ => hen) g4.1 fun D ep s' hD hk r => hQ _ _ (ret D ep s' r ?_ (by rw [g4.2] at hD; exact hD))
      have up : ∀ b o, b ≠ I → s.heap.get? b = some o → s₂.heap.get? b = some o := fun b o hb e => Z₂.keep b o (hext b o (by simpa using hb) e)
      have neL : ∀ b o, s.heap.get? b = some o → b ≠ I → b ≠ L := fun b o e hb => by rintro rfl; have := Z₂.off; rw [hext _ o (by simpa using hb) e] at this; cases this
      refine ⟨fun b o hb e => ?_, fun b o e hn => ?_⟩
      · have hbI : b ≠ I := fun h => hb (by simp [h])
        have hbL := neL b o e hbI
        exact hk b o (x2 b o (by simp [hbL, hbI]) (x₃.ext b o (fun h => (List.mem_cons.mp h).elim hbL fun h => hb (List.mem_append_right _ h)) (up b o hbI e)))
      · have hbI : b ≠ I := by
          rintro rfl
          rw [(hm _ (.head _)).1] at e
          cases e
          exact hn _ rfl
        have hbL := neL b o e hbI
        obtain ⟨sl, e3⟩ := x₃.slots b o (up b o hbI e) hn
        exact ⟨sl, hk b _ (x2 b _ (by simp [hbL, hbI]) e3)⟩
end
end Mine

end
section
open PySem PySem.W PySem.Calls PyProof.Rows PySem.SeqAt
namespace Mine

theorem mem_permsOf : ∀ {k : Nat} {ρ : List Nat}, ρ.Perm (List.range k) → ρ ∈ permsOf k
  | 0, ρ, h => by
    have : ρ = [] := by simpa using h
    subst this; simp [permsOf]
  | k + 1, ρ, h => by
    have hk : k ∈ ρ := h.mem_iff.mpr (by simp)
    obtain ⟨a, b, rfl⟩ := List.append_of_mem hk
    have h1 : (k :: (a ++ b)).Perm (k :: List.range k) := by
      refine (List.perm_middle.symm.trans h).trans ?_
      rw [List.range_succ]
      exact List.perm_append_comm
    have ih := mem_permsOf (List.Perm.cons_inv h1)
    rw [permsOf, List.mem_flatMap]
    refine ⟨a ++ b, ih, List.mem_map.mpr ⟨a.length, ?_, by simp⟩⟩
    rw [List.mem_range]
    have := h.length_eq
    simp at this
    omega

def wishes : List Int := [-1, 0, 1, 2, 3, 5, 8]
def goodOne (k : Nat) (ρ : List Nat) : Bool := srtOk ρ && srtP ρ == List.range k && (srtOk ρ.reverse && srtP ρ.reverse == List.range k) && wishes.all fun N => (N == 1 || (nsOk N.toNat ρ && nsOut N.toNat ρ == (List.range k).take N.toNat)) && (N == 1 || (nlOk N.toNat ρ && nlOut N.toNat ρ == (List.range k).reverse.take N.toNat))
def goodAll (k : Nat) : Bool := (permsOf k).all (goodOne k)
theorem good2 : goodAll 2 = true := by decide +kernel
theorem good3 : goodAll 3 = true := by decide +kernel
theorem good4 : goodAll 4 = true := by decide +kernel
theorem good5a : ((permsOf 5).take 40).all (goodOne 5) = true := by decide +kernel
theorem good5b : (((permsOf 5).drop 40).take 40).all (goodOne 5) = true := by decide +kernel
theorem good5c : (((permsOf 5).drop 40).drop 40).all (goodOne 5) = true := by decide +kernel
theorem good5 : goodAll 5 = true := by
  unfold goodAll
  rw [← List.take_append_drop 40 (permsOf 5), List.all_append, good5a, Bool.true_and, ← List.take_append_drop 40 ((permsOf 5).drop 40), List.all_append, good5b, good5c]
  rfl
theorem good_of {k : Nat} (h2 : 2 ≤ k) (h5 : k ≤ 5) {ρ : List Nat} (hp : ρ.Perm (List.range k)) : (srtOk ρ = true ∧ srtP ρ = List.range k) ∧ ∀ N ∈ wishes, nsGood k N ρ = true ∧ nlGood k N ρ = true := by
  have hg : goodAll k = true := by
    have : k = 2 ∨ k = 3 ∨ k = 4 ∨ k = 5 := by omega
    rcases this with rfl | rfl | rfl | rfl
    · exact good2
    · exact good3
    · exact good4
    · exact good5
  rw [goodAll, List.all_eq_true] at hg
  have h := hg ρ (mem_permsOf hp)
  unfold goodOne at h
  rw [Bool.and_eq_true, Bool.and_eq_true, Bool.and_eq_true] at h
  obtain ⟨⟨⟨a1, a2⟩, a3⟩, a4⟩ := h
  refine ⟨⟨a1, beq_iff_eq.mp a2⟩, fun N hN => ?_⟩
  have b := List.all_eq_true.mp a4 N hN
  rw [Bool.and_eq_true] at b
  constructor
  · unfold nsGood; rw [a1, a2]; exact b.1
  · unfold nlGood; rw [a3]; exact b.2
end Mine

end
section
open PySem PySem.W PySem.Calls PyProof.Rows PySem.SeqAt
namespace Mine

abbrev SK (w : World) : KeyKind PR w Str := strKind PR w
/-- an object that is a dict of texts -/
abbrev DOb (w : World) (o : Obj) (kvs : List (Str × Value)) : Prop := o.IsDictOf (SK w) kvs
/-- a dict of texts, not the machine's own -/
def Dct (w : World) (h : Heap) (d : Addr) (kvs : List (Str × Value)) : Prop := (d == sysModules) = false ∧ h.DictOf (SK w) d kvs
theorem Dct.keeps {w : World} {h h' : Heap} {d : Addr} {kvs : List (Str × Value)} (a : Dct w h d kvs) (hk : Sub h h') : Dct w h' d kvs := ⟨a.1, a.2.keep hk⟩
theorem Dct.of {w : World} {h : Heap} {d : Addr} {o : Obj} {kvs : List (Str × Value)} (h1 : (d == sysModules) = false) (h2 : h.get? d = some o) (h3 : DOb w o kvs) : Dct w h d kvs := ⟨h1, Heap.dictOf_iff.mpr ⟨o, h2, h3⟩⟩
theorem Dct.nodup {w : World} {h : Heap} {d : Addr} {kvs : List (Str × Value)} (a : Dct w h d kvs) : (kvs.map (·.1)).Nodup := let ⟨_, o, es, ep, _, _, _, _, _, hn⟩ := a; hn
theorem is_str (w : World) (k : Str) (t : Tok) : (SK w).is k (.str k t) = true := by show Value.isStrOf k (.str k t) = true; simp [Value.isStrOf]

section
variable {w : World} {A : Around} {E : Value → Shared → Prop} {env : Env} {h h₀ : Heap} {L : Addr} {s₀ s : Shared} {news : List (Addr × Obj)} {m : Str → Option Value} {rest : List Stmt} {e e₁ e₂ o : Expr} {pos pos' apos tp : Pos} {D : Addr} {kvs : List (Str × Value)} {k : Str} {t : Tok} {v : Value} {pl : Sem Bool}

theorem Fm.swap {a b : Addr × Obj} (Z : Fm h₀ L s₀ (a :: b :: news) m s) : Fm h₀ L s₀ (b :: a :: news) m s := Z.sub fun p hp => by
  simp only [List.mem_cons] at hp ⊢
  rcases hp with h | h | h <;> simp [h]

/-- «{}» -/
theorem e_dict0 {Q : Value → Shared → Prop} (G : Gd w h₀) (Z : Fm h₀ L s₀ news m s) (h : ∀ d s', (d == sysModules) = false → Fm h₀ L s₀ ((d, emptyDict) :: news) m s' → (∀ p ∈ news, p.1 ≠ d) → DOb w emptyDict [] → Q (.ref d) s') (h3 : ∃ o, (K w.params).lookup 217 = some o := ⟨_, by k_is⟩) :
    wpAny (MM w) A (eval (.Dict [] [] pos) env) Q E s := by
  refine wpAny_Dict_empty ?_
  obtain ⟨Z', n'⟩ := Z.new (ob := emptyDict) (tk := s.toks)
  obtain ⟨o, ho⟩ := h3
  have hlt := Heap.lt_size (Z.keep _ _ (G.X _ _ ho))
  refine h _ _ ?_ Z' n' ⟨#[], 0, ⟨rfl, rfl, rfl⟩, rfl, fun _ he => by simp at he, Pairs.nil, List.nodup_nil⟩
  show (s.heap.objs.size == 1) = false
  rw [beq_eq_false_iff_ne]
  exact Nat.ne_of_gt (Nat.lt_trans (by decide) hlt)

/-- «d[k] = e» -/
theorem s_setD {Q : Flow → Shared → Prop} (h : wpAny (MM w) A (eval e env) (fun v s₁ => ∃ h₁ news' m' ob kvs D k t, Fm h₁ L s₀ ((D, ob) :: news') m' s₁ ∧ (∀ p ∈ news', p.1 ≠ D) ∧ DOb w ob kvs ∧ kvs.length ≤ 1000 ∧ EvV w A env s₁.heap e₁ (.ref D) ∧ EvV w A env s₁.heap e₂ (.str k t) ∧
      ∀ ob' s', Fm h₁ L s₀ ((D, ob') :: news') m' s' → DOb w ob' (stored kvs k v) → wpAny (MM w) A (execs rest env) Q E s') E s)
    (hs : swapsWith e (some (.Subscript e₁ e₂ pos')) pos.line env = pure false := by rfl) : wpAny (MM w) A (execs (.Assign [.Subscript e₁ e₂ pos'] e pos :: rest) env) Q E s := by
  refine xs_cons (wpAny_Assign_Subscript (wpAny_mono h (fun v s₁ h₁ => ?_) fun _ _ e => e) hs)
  obtain ⟨hb, news', m', ob, kvs, D, k, t, Z, hn, hd, hz, a, b, c⟩ := h₁
  refine a.go fun s₂ h₂ r₂ => ?_
  refine (show EvV w A env s₂.heap e₂ (.str k t) from h₂ ▸ b).go fun s₃ h₃ r₃ => ?_
  have Z₃ := (Z.touch h₂ r₂).touch h₃ r₃
  have hD : s₃.heap.DictOf (SK w) D kvs := Heap.dictOf_iff.mpr ⟨ob, (Z₃.nw _ (.head _)).1, hd⟩
  refine wpAny_setItem_pairs (is_str w k t) hD (fun h' hm hsb => ?_) (by rw [sizeLine_eq]; omega)
  obtain ⟨ob', ho', hd'⟩ := Heap.dictOf_iff.mp hm
  exact c ob' _ (Z₃.chg hsb ho' hn) hd'

/-- «d[k]» -/
theorem EvV.ditem (a : EvV w A env h e₁ (.ref D)) (b : EvV w A env h e₂ (.str k t)) (hd : Dct w h D kvs) (hv : valueAt kvs k = some v)
    (hs : ∀ (D : Addr) (k : Str) (t : Tok), subscripted e₂ false (.ref D) (.str k t) = operate [.ref D, .str k t] (getItem (.ref D) (.str k t)) := by intros; with_unfolding_all rfl) : EvV w A env h (.Subscript e₁ e₂ pos) v := fun s Q E hh q => by
  subst hh
  refine Subscript_ (a s _ E rfl fun x s₁ hx h₁ r₁ => b s₁ _ E h₁ fun y s₂ hy h₂ r₂ => ?_)
  subst hx hy
  have hD : s₂.heap.DictOf (SK w) D kvs := h₂ ▸ hd.2
  exact tail_any hD.typeIs slot_dict_getitem.lookup (wpAny_getItem_of (is_str w k t) hD.mapOf hv (q _ _ rfl h₂ ((r₁.trans r₂).trans .heap))) (hs _ _ _)

/-- «k in d», «k not in d» -/
theorem Tst.inD (a : EvV w A env h e₁ (.str k t)) (b : EvV w A env h e₂ (.ref D)) (hd : Dct w h D kvs) (hm : behindInMarks .In e₂ = false := by with_unfolding_all rfl) : Tst w A env h (.Compare e₁ [.In] [e₂] pos) (valueAt kvs k).isSome :=
  Tst.cmp a b (fun _ _ hx hy s Q E hs q => by
    subst hx hy
    exact wpAny_in_of (is_str w k t) hd.1 (hs ▸ hd.2.mapOf) (q _ hs .heap)) hm

/-- a method of a dict -/
theorem getMethD {name : Str} {id : String} {Q : Value × List Value → Shared → Prop} (hd : s.heap.DictOf (SK w) D kvs) (slot : Slot "dict" name id) (hty : typeOf (.builtin id) = pure (.type "method_descriptor"))
    (q : Q (.builtin id, [.ref D]) s) : wpAny (MM w) A (getMethod (.ref D) name pl) Q E s :=
  getMethod_builtin hd.typeIs PySem.F.plainAttrs_dict slot hty hd.mapOf.noDict q

/-- «d.get(k, e)» -/
theorem e_get2 {Q : Value → Shared → Prop} (a : EvV w A env s.heap o (.ref D)) (b : EvV w A env s.heap e₁ (.str k t)) (lo : (D == sysModules) = false)
    (c : ∀ s₁, s₁.heap = s.heap → Rest s s₁ → wpAny (MM w) A (eval e₂ env) (fun dv s₂ => Dct w s₂.heap D kvs ∧ ∀ s', s'.heap = s₂.heap → Rest s₂ s' → Q ((valueAt kvs k).getD dv) s') E s₁) (hd : s.heap.DictOf (SK w) D kvs)
    (he : MethEq o "get" apos pos [e₁, e₂] env pl := by rfl) (hx : backTo pos (starEach [e₁, e₂] env) = [(false, eval e₁ env), (false, eval e₂ env)] := by rfl) :
    wpAny (MM w) A (eval (.Call (.Attribute o "get" apos) [e₁, e₂] [] pos) env) Q E s := by
  refine MethodCall_ (a.go fun s₁ h₁ r₁ => ?_) he
  refine getMethD (h₁ ▸ hd) PySem.F.slot_dict_get PySem.F.type_dict_get ?_
  show wpAny (MM w) A (callWith pos (.builtin "dict.get") [.ref D] (backTo pos (starEach [e₁, e₂] env)) []) Q E s₁
  rw [hx]
  refine wpAny_dict_get2 (knd := SK w) lo ((show EvV w A env s₁.heap e₁ (.str k t) from h₁ ▸ b).go fun s₂ h₂ r₂ => wpAny_mono (c s₂ (h₂.trans h₁) (r₁.trans r₂)) (fun dv s₃ h₃ => ?_) fun _ _ e => e)
  exact ⟨k, _, is_str w k t, h₃.1.2.mapOf, h₃.2 _ rfl .heap⟩

/-- «d.pop(k, None)» -/
theorem e_popD {ob : Obj} {kp : Pos} {kc : Nat} {Q : Value → Shared → Prop} (Z : Fm h₀ L s₀ ((D, ob) :: news) m s) (hn : ∀ p ∈ news, p.1 ≠ D) (hd : DOb w ob kvs) (lo : (D == sysModules) = false) (hz : kvs.length ≤ 1000) (a : EvV w A env s.heap o (.ref D)) (b : EvV w A env s.heap e₁ (.str k t))
    (h1 : ∀ v, valueAt kvs k = some v → ∀ ob' s', Fm h₀ L s₀ ((D, ob') :: news) m s' → DOb w ob' (without kvs k) → Q v s') (h2 : valueAt kvs k = none → ∀ s', Fm h₀ L s₀ ((D, ob) :: news) m s' → Q .none s')
    (he : MethEq o "pop" apos pos [e₁, .Constant .none kc kp] env pl := by rfl) (hx : starEach [e₁, .Constant .none kc kp] env = [(false, eval e₁ env), (false, eval (.Constant .none kc kp) env)] := by rfl) (hx' : starEach [.Constant .none kc kp] env = [(false, eval (.Constant .none kc kp) env)] := by rfl) :
    wpAny (MM w) A (eval (.Call (.Attribute o "pop" apos) [e₁, .Constant .none kc kp] [] pos) env) Q E s := by
  refine MethodCall_ (a.go fun s₁ h₁ r₁ => ?_) he
  have Z₁ := Z.touch h₁ r₁
  refine getMethD (kvs := kvs) (Heap.dictOf_iff.mpr ⟨ob, (Z₁.nw _ (.head _)).1, hd⟩) PySem.F.slot_dict_pop PySem.F.type_dict_pop ?_
  refine callWith_of (P := fun h => Kp w h (.builtin "dict.pop")) (by rw [hx]; rfl) (fun _ k => k) ?_
  rw [hx]
  refine evalArgs_plain ?_
  show wpAny (MM w) A (spliced (backTo pos [(false, eval e₁ env), (false, eval (.Constant .none kc kp) env)])) _ _ _
  rw [← hx]
  refine wpAny_items_cons ((show EvV w A env s₁.heap e₁ (.str k t) from h₁ ▸ b).go fun s₂ h₂ r₂ => wpAny_items_cons (EvV.none.go fun s₃ h₃ r₃ => wpAny_items_nil ⟨.blt, ?_⟩) hx') (by rw [hx, hx'])
  have Z₃ := (Z₁.touch h₂ r₂).touch h₃ r₃
  have hD : s₃.heap.DictOf (SK w) D kvs := Heap.dictOf_iff.mpr ⟨ob, (Z₃.nw _ (.head _)).1, hd⟩
  show wpAny (MM w) A (call (.builtin "dict.pop") [.ref D, .str k t, .none]) _ _ _
  cases hv : valueAt kvs k with
  | none => exact call_meetsIn PySem.F.slot_dict_pop hD.typeIs PySem.F.entry_dict_pop (PySem.F.args_dict_pop_3 _ _ _) (meets_dict_pop_default (SK w) D (is_str w k t) lo rfl .none) ⟨kvs, hD, hv, h2 hv _ (Z₃.touch (s' := { s₃ with toks := s₃.toks + 1 }) rfl .heap)⟩
  | some v =>
    refine call_meetsIn PySem.F.slot_dict_pop hD.typeIs PySem.F.entry_dict_pop (PySem.F.args_dict_pop_3 _ _ _) (meets_dict_pop_there (SK w) D (is_str w k t) [.none] (.inr ⟨_, rfl⟩) rfl) ⟨kvs, v, hD, by rw [sizeLine_eq]; omega, hv, fun h' hm hsb => ?_⟩
    obtain ⟨ob', ho', hd'⟩ := Heap.dictOf_iff.mp hm
    exact h1 v hv ob' _ (Z₃.chg hsb ho' hn) hd'
end
end Mine

end
section
open PySem PySem.W PySem.Calls PyProof.Rows PySem.SeqAt
namespace Mine

/-- tables of plain data -/
def putT {β : Type} (t : List (Str × β)) (k : Str) (b : β) : List (Str × β) := if t.any (fun kv => kv.1 = k) then t.map (fun kv => if kv.1 = k then (kv.1, b) else kv) else t ++ [(k, b)]
def getT {β : Type} (t : List (Str × β)) (k : Str) : Option β := (t.find? fun kv => kv.1 = k).map (·.2)
def delT {β : Type} (t : List (Str × β)) (k : Str) : List (Str × β) := t.filter fun kv => kv.1 ≠ k

/-- a dict's pairs bear a table's data -/
inductive Rel {β : Type} (R : Str → Value → β → Prop) : List (Str × Value) → List (Str × β) → Prop
  | nil : Rel R [] []
  | cons {k : Str} {v : Value} {b : β} {l : List (Str × Value)} {l' : List (Str × β)} : R k v b → Rel R l l' → Rel R ((k, v) :: l) ((k, b) :: l')

section
variable {β : Type} {R R' : Str → Value → β → Prop} {kvs : List (Str × Value)} {t : List (Str × β)} {k : Str} {v : Value} {b : β}
theorem Rel.mono (a : Rel R kvs t) (h : ∀ k v b, R k v b → R' k v b) : Rel R' kvs t := by
  induction a with
  | nil => exact .nil
  | cons r _ ih => exact .cons (h _ _ _ r) ih
theorem Rel.keys (a : Rel R kvs t) : kvs.map (·.1) = t.map (·.1) := by
  induction a with
  | nil => rfl
  | cons _ _ ih => simp [ih]
theorem Rel.len (a : Rel R kvs t) : kvs.length = t.length := by
  induction a with
  | nil => rfl
  | cons _ _ ih => simp [ih]
theorem Rel.any (a : Rel R kvs t) : kvs.any (fun kv => kv.1 = k) = t.any (fun kv => kv.1 = k) := by
  induction a with
  | nil => rfl
  | cons _ _ ih => simp [ih]
theorem Rel.snoc (a : Rel R kvs t) (r : R k v b) : Rel R (kvs ++ [(k, v)]) (t ++ [(k, b)]) := by
  induction a with
  | nil => exact .cons r .nil
  | cons r' _ ih => exact .cons r' ih
theorem Rel.mapPut (a : Rel R kvs t) (r : R k v b) : Rel R (kvs.map fun kv => if kv.1 = k then (kv.1, v) else kv) (t.map fun kv => if kv.1 = k then (kv.1, b) else kv) := by
  induction a with
  | nil => exact .nil
  | @cons k' _ _ _ _ r' a ih =>
    simp only [List.map_cons]
    by_cases h : k' = k
    · subst h; simp only [if_true]; exact .cons r ih
    · simp only [if_neg h]; exact .cons r' ih
theorem Rel.put (a : Rel R kvs t) (r : R k v b) : Rel R (stored kvs k v) (putT t k b) := by
  unfold stored putT
  rw [a.any]
  split
  · exact a.mapPut r
  · exact a.snoc r
theorem put_len {β : Type} {t : List (Str × β)} {k : Str} {b : β} : (putT t k b).length ≤ t.length + 1 := by
  unfold putT; split <;> simp
theorem Rel.value (a : Rel R kvs t) : (valueAt kvs k = none ∧ getT t k = none) ∨ ∃ v b, valueAt kvs k = some v ∧ getT t k = some b ∧ R k v b := by
  unfold valueAt getT
  induction a with
  | nil => exact .inl ⟨rfl, rfl⟩
  | @cons k' v' b' _ _ r _ ih =>
    by_cases h : k' = k
    · subst h; exact .inr ⟨v', b', by simp, by simp, r⟩
    · simpa [List.find?_cons, h] using ih
theorem Rel.del (a : Rel R kvs t) : Rel R (without kvs k) (delT t k) := by
  unfold without delT
  induction a with
  | nil => exact .nil
  | @cons k' v' b' _ _ r _ ih =>
    by_cases h : k' = k
    · simpa [List.filter_cons, h] using ih
    · simpa [List.filter_cons, h] using Rel.cons r ih
theorem Rel.get (a : Rel R kvs t) : ∀ {i : Nat} {k : Str} {v : Value}, kvs[i]? = some (k, v) → ∃ b, t[i]? = some (k, b) ∧ R k v b := by
  induction a with
  | nil => intro i k v h; simp at h
  | cons r _ ih =>
    intro i k v h
    cases i with
    | zero => simp at h; obtain ⟨rfl, rfl⟩ := h; exact ⟨_, rfl, r⟩
    | succ i => simpa using ih (by simpa using h)
end
end Mine

end
section
open PySem PySem.W PySem.Calls PyProof.Rows PySem.SeqAt
namespace Mine

abbrev Tab : Type := List (Str × (Int × Int))
def plc (i : Nat) : Str := ⟨#[97 + i]⟩
def cellP (c : Int) : Str := plc (c.fmod 5).toNat
def cellS (c : Int) : Int := (c.fdiv 5).fmod 3
def cellV (c : Int) : Int × Int := ((c.fdiv 15).fmod 40, (c.fdiv 600).fmod 4)
def cellW (c : Int) : Int × Int := ((c.fdiv 2400).fmod 40, (c.fdiv 96000).fmod 4)
def stepO (T : Tab) (c : Int) : Tab := if cellS c ≠ 1 then putT T (cellP c) (cellV c) else T
def stepN (T : Tab) (c : Int) : Tab := if cellS c = 1 then putT T (cellP c) (cellV c) else if cellS c = 2 then putT T (cellP c) (cellW c) else T
def cellsOf (ns : List Int) : List Int := [214285, 1866, 662] ++ ns.take 8
def tabO (ns : List Int) : Tab := (cellsOf ns).foldl stepO []
def tabN (ns : List Int) : Tab := (cellsOf ns).foldl stepN []

/-- a pair of ints, as the tables hold it -/
def TV (h : Heap) (_ : Str) (v : Value) (x : Int × Int) : Prop := ∃ t ta tb, v = .ref t ∧ h.get? t = some (tupOf [.int x.1 ta, .int x.2 tb])
theorem TV.keeps {h h' : Heap} {k : Str} {v : Value} {x : Int × Int} (a : TV h k v x) (hk : Sub h h') : TV h' k v x := let ⟨t, ta, tb, e1, e2⟩ := a; ⟨t, ta, tb, e1, hk _ _ e2⟩

section
variable {w : World} {A : Around} {E : Value → Shared → Prop} {env : Env} {h h₀ : Heap} {L : Addr} {s₀ s : Shared} {news : List (Addr × Obj)} {m : Str → Option Value} {rest : List Stmt} {e e₁ e₂ o : Expr} {pos pos' apos tp : Pos} {D : Addr} {k : Nat}

/-- two lists put together -/
theorem e_cat {l b : Addr} {vs ws : List Value} {ep ep' : Nat} {Q : Value → Shared → Prop} (Z : Fm h₀ L s₀ news m s) (hl : s.heap.get? l = some (listOf vs.toArray ep)) (hb : s.heap.get? b = some (listOf ws.toArray ep')) (hsz : vs.length + ws.length ≤ 1000)
    (h : ∀ D s', Fm h₀ L s₀ ((D, listOf (vs ++ ws).toArray 0) :: news) m s' → (∀ p ∈ news, p.1 ≠ D) → Q (.ref D) s') : wpAny (MM w) A (binaryOp .Add (.ref l) (.ref b)) Q E s := by
  have e : vs.toArray ++ ws.toArray = (vs ++ ws).toArray := by simp
  refine concat_meets ⟨_, hl, rfl⟩ ⟨_, hb, rfl⟩ noFill_list_add seq_list_add PySem.F.slot_list_add PySem.F.entry_list_add (PySem.F.args_list_add_2 _ _) (list_addW l b vs.toArray ws.toArray ep ep' none none #[] #[] (by rw [sizeLine_eq]; simp; omega)) ⟨hl, hb, ?_⟩
  rw [e]
  obtain ⟨Z', n'⟩ := Z.new (ob := listOf (vs ++ ws).toArray 0) (tk := s.toks)
  exact h _ _ Z' n'

theorem Evs.str {x : Str} : Evs w A env h (.Constant (.str x) k pos) (fun v => ∃ t, v = .str x t) := fun s Q E hs q => wpAny_Constant_str (q _ _ ⟨_, rfl⟩ hs .heap)
/-- a sign of «abcde» -/
theorem Evs.sign {i : Int} {n : Nat} (b : EvI w A env h e₂ i) (hi : i = (n : Int)) (hn : n < 5)
    (hs : ∀ (x : Str) (t : Tok) (k : Int) (u : Tok), subscripted e₂ false (.str x t) (.int k u) = operate [.str x t, .int k u] (getItem (.str x t) (.int k u)) := by intros; with_unfolding_all rfl) :
    Evs w A env h (.Subscript (.Constant (.str "abcde") k pos') e₂ pos) (fun v => ∃ t, v = .str (plc n) t) := fun s Q E hh q => by
  refine Subscript_ (Evs.str s _ E hh fun x s₁ hx h₁ r₁ => b s₁ _ E h₁ fun y s₂ hy h₂ r₂ => ?_)
  obtain ⟨t, rfl⟩ := hx
  obtain ⟨u, rfl⟩ := hy
  subst hi
  refine tail_any (typeIs_str _ _ _) slot_str_getitem.lookup (PyProof.Rows.getItem_str (c := 97 + n) ?_ ?_ (q _ _ ⟨_, rfl⟩ h₂ ((r₁.trans r₂).trans .heap))) (hs _ _ _ _)
  · have : n = 0 ∨ n = 1 ∨ n = 2 ∨ n = 3 ∨ n = 4 := by omega
    rcases this with rfl | rfl | rfl | rfl | rfl <;> decide
  · have : n = 0 ∨ n = 1 ∨ n = 2 ∨ n = 3 ∨ n = 4 := by omega
    rcases this with rfl | rfl | rfl | rfl | rfl <;> decide +kernel
theorem fmod5 (c : Int) : c.fmod 5 = ((c.fmod 5).toNat : Int) ∧ (c.fmod 5).toNat < 5 := by
  have h1 := Int.fmod_nonneg_of_pos c (b := 5) (by decide)
  have h2 := Int.fmod_lt_of_pos c (b := 5) (by decide)
  omega
end

/-- between the turns of _law_tables -/
inductive TJ (w : World) (dO dN : Addr) (cs : List Int) (i : Nat) : List (Addr × Obj) → (Str → Option Value) → Heap → Prop
  | mk (oO oN : Obj) (kO kN : List (Str × Value)) (m : Str → Option Value) (hx : Heap) : DOb w oO kO → DOb w oN kN → kO.length ≤ i → kN.length ≤ i → Rel (TV hx) kO ((cs.take i).foldl stepO []) → Rel (TV hx) kN ((cs.take i).foldl stepN []) →
      m "old" = some (.ref dO) → m "new" = some (.ref dN) → TJ w dO dN cs i [(dO, oO), (dN, oN)] m hx
end Mine

end
section
open PySem PySem.W PySem.Calls PyProof.Rows PySem.SeqAt
namespace Mine

theorem ints_take {vs : List Value} {ns : List Int} (h : IntsAre vs ns) (k : Nat) : IntsAre (vs.take k) (ns.take k) := h.take k
theorem ints_get : ∀ {vs : List Value} {ns : List Int}, IntsAre vs ns → ∀ {i : Nat} {v : Value}, vs[i]? = some v → ∃ t, v = .int (ns.getD i 0) t ∧ i < ns.length
  | _, _, .nil, i, v, h => by simp at h
  | _, _, .cons n t r, 0, v, h => by simp at h; exact ⟨t, by simpa using h.symm, by simp⟩
  | _, _, .cons n t r, i + 1, v, h => by
    obtain ⟨t', e, hl⟩ := ints_get r (i := i) (by simpa using h)
    exact ⟨t', by simpa using e, by simpa using hl⟩

def forB : Stmt → List Stmt
  | .For _ _ b _ _ => b
  | _ => []
abbrev eTb (L : Addr) : Env := envOf (Str.ofString "_law_tables") (scp (st 18)) L 230 (.ref 229)

theorem stored_len {kvs : List (Str × Value)} {k : Str} {v : Value} : (stored kvs k v).length ≤ kvs.length + 1 := by
  unfold stored; split <;> simp

section
variable {w : World} {A : Around} {E : Value → Shared → Prop} {s₀ s : Shared} {h₀ h₂ hx : Heap} {L dO dN : Addr} {m : Str → Option Value} {c : Int} {t : Tok} {TO TN : Tab} {oO oN : Obj} {kO kN : List (Str × Value)} {B : Flow → Shared → Prop}

set_option maxHeartbeats 8000000 in
theorem tables_turn (G : Gd w h₂) (hON : dO ≠ dN) (hZ : Fm h₂ L s₀ [(dO, oO), (dN, oN)] m s) (hx2 : Sub hx h₂) (ho : DOb w oO kO) (hn : DOb w oN kN) (lo : kO.length ≤ 100) (ln : kN.length ≤ 100) (rO : Rel (TV hx) kO TO) (rN : Rel (TV hx) kN TN)
    (m1 : m "old" = some (.ref dO)) (m2 : m "new" = some (.ref dN)) (m3 : m "cell" = some (.int c t))
    (bn : ∀ extra oO' oN' kO' kN' m' s', Fm h₂ L s₀ (extra ++ [(dO, oO'), (dN, oN')]) m' s' → (∀ p ∈ extra, p.1 ≠ dO ∧ p.1 ≠ dN) → DOb w oO' kO' → DOb w oN' kN' → kO'.length ≤ kO.length + 1 → kN'.length ≤ kN.length + 1 →
      (∀ hx', Sub hx hx' → (∀ p ∈ extra, hx'.get? p.1 = some p.2) → Rel (TV hx') kO' (stepO TO c) ∧ Rel (TV hx') kN' (stepN TN c)) → m' "old" = some (.ref dO) → m' "new" = some (.ref dN) → B .next s') :
    wpAny (MM w) A (execs (forB (pick (txt (st 18)) 2)) (eTb L)) B E s := by
  obtain ⟨f1, f2⟩ := fmod5 c
  refine s_asg hZ (Evs.sign (EvI.fmod (EvI.name hZ.ns m3) EvI.const (by decide)) f1 f2) ?_
  rintro _ s₁ ⟨tp, rfl⟩ Z₁
  refine s_asg Z₁ (EvI.fmod (EvI.fdiv (EvI.name Z₁.ns (by walk_at "lk")) EvI.const (by decide) (by decide)) EvI.const (by decide)) ?_
  rintro _ s₂ ⟨ts, rfl⟩ Z₂
  have hM : ∃ M : Str → Option Value, M "old" = some (.ref dO) ∧ M "new" = some (.ref dN) ∧ M "cell" = some (.int c t) ∧ M "place" = some (.str (cellP c) tp) ∧ M "side" = some (.int (cellS c) ts) ∧ Fm h₂ L s₀ [(dO, oO), (dN, oN)] M s₂ :=
    ⟨_, by walk_at "lk", by walk_at "lk", by walk_at "lk", by walk_at "lk", by walk_at "lk", Z₂⟩
  obtain ⟨M, M1, M2, M3, M4, M5, Z₃⟩ := hM
  clear Z₂ Z₁ hZ
  -- the third if
  have t3 : ∀ extra oO' oN' kO' kN' s', Fm h₂ L s₀ (extra ++ [(dO, oO'), (dN, oN')]) M s' → (∀ p ∈ extra, p.1 ≠ dO ∧ p.1 ≠ dN) → DOb w oO' kO' → DOb w oN' kN' → kO'.length ≤ kO.length + 1 → (cellS c ≠ 1 → kN' = kN) → kN'.length ≤ kN.length + 1 →
      (∀ hx', Sub hx hx' → (∀ p ∈ extra, hx'.get? p.1 = some p.2) → Rel (TV hx') kO' (stepO TO c) ∧ Rel (TV hx') kN' (if cellS c = 1 then putT TN (cellP c) (cellV c) else TN)) →
      wpAny (MM w) A (execs ((forB (pick (txt (st 18)) 2)).drop 4) (eTb L)) B E s' := by
    intro extra oO' oN' kO' kN' s' Z de dO' dN' l1 l2 l3 hr
    refine s_if (b := cellS c == 2) Z (.eq (EvI.name Z.ns M5) EvI.const) fun B' s₄ Z₄ b1 _ _ _ => ⟨fun hb => ?_, fun hb => xs_nil (b1 _ (xs_nil ?_))⟩
    · have hs2 : cellS c = 2 := by simpa using hb
      have hk' := l2 (by omega)
      subst hk'
      refine s_setD (s₀ := s₀) (L := L) (e_tuple Z₄ (.cons (EvI.fmod (EvI.fdiv (EvI.name Z₄.ns M3) EvI.const (by decide) (by decide)) EvI.const (by decide)) (.cons (EvI.fmod (EvI.fdiv (EvI.name Z₄.ns M3) EvI.const (by decide) (by decide)) EvI.const (by decide)) .nil)) (by decide) ?_ ?_)
      · rintro _ ⟨_, _, rfl, _, _, _, rfl, _, rfl⟩; rfl
      rintro _ tt s₅ ⟨_, _, rfl, ⟨ta, rfl⟩, _, _, rfl, ⟨tb, rfl⟩, rfl⟩ Z₅ n5 _
      have Z₆ := Z₅.sub (news' := (dN, oN') :: (tt, tupOf [.int ((c.fdiv 2400).fmod 40) ta, .int ((c.fdiv 96000).fmod 4) tb]) :: (extra ++ [(dO, oO')])) fun p hp => by
        simp only [List.mem_cons, List.mem_append, List.not_mem_nil, or_false] at hp ⊢
        rcases hp with h | h | h | h <;> simp [h]
      refine ⟨_, _, _, oN', kN', dN, cellP c, tp, Z₆, fun p hp => ?_, dN', by omega, EvV.name Z₆.ns M2, EvV.name Z₆.ns M4, fun ob' s₇ Z₇ hd' => xs_nil (b1 _ (xs_nil ?_))⟩
      · simp only [List.mem_cons, List.mem_append, List.not_mem_nil, or_false] at hp
        rcases hp with rfl | hp | rfl
        · exact (n5 (dN, oN') (by simp)).symm
        · exact (de p hp).2
        · exact hON
      refine bn ((tt, tupOf [.int ((c.fdiv 2400).fmod 40) ta, .int ((c.fdiv 96000).fmod 4) tb]) :: extra) oO' ob' kO' (stored kN' (cellP c) (.ref tt)) M s₇ (Z₇.sub fun p hp => ?_) ?_ dO' hd' l1 stored_len ?_ M1 M2
      · grind
      · intro p hp
        rcases List.mem_cons.mp hp with rfl | hp
        · exact ⟨(n5 (dO, oO') (by simp)).symm, (n5 (dN, oN') (by simp)).symm⟩
        · exact de p hp
      · intro hx' h1 h2
        have := hr hx' h1 fun p hp => h2 p (.tail _ hp)
        refine ⟨this.1, ?_⟩
        have h3 := this.2
        rw [if_neg (by omega)] at h3
        unfold stepN
        rw [if_neg (by omega), if_pos hs2]
        exact h3.put ⟨tt, ta, tb, rfl, h2 _ (.head _)⟩
    · have hs2 : cellS c ≠ 2 := by simpa using hb
      refine bn extra oO' oN' kO' kN' M s₄ Z₄ de dO' dN' l1 l3 (fun hx' h1 h2 => ?_) M1 M2
      have := hr hx' h1 h2
      unfold stepN
      rw [if_neg hs2]
      exact this
  -- the second if
  have t2 : ∀ extra oO' kO' s', Fm h₂ L s₀ (extra ++ [(dO, oO'), (dN, oN)]) M s' → (∀ p ∈ extra, p.1 ≠ dO ∧ p.1 ≠ dN) → DOb w oO' kO' → kO'.length ≤ kO.length + 1 →
      (∀ hx', Sub hx hx' → (∀ p ∈ extra, hx'.get? p.1 = some p.2) → Rel (TV hx') kO' (stepO TO c)) →
      wpAny (MM w) A (execs ((forB (pick (txt (st 18)) 2)).drop 3) (eTb L)) B E s' := by
    intro extra oO' kO' s' Z de dO' l1 hr
    refine s_if (b := cellS c == 1) Z (.eq (EvI.name Z.ns M5) EvI.const) fun B' s₄ Z₄ b1 _ _ _ => ⟨fun hb => ?_, fun hb => xs_nil (b1 _ ?_)⟩
    · have hs1 : cellS c = 1 := by simpa using hb
      refine s_setD (s₀ := s₀) (L := L) (e_tuple Z₄ (.cons (EvI.fmod (EvI.fdiv (EvI.name Z₄.ns M3) EvI.const (by decide) (by decide)) EvI.const (by decide)) (.cons (EvI.fmod (EvI.fdiv (EvI.name Z₄.ns M3) EvI.const (by decide) (by decide)) EvI.const (by decide)) .nil)) (by decide) ?_ ?_)
      · rintro _ ⟨_, _, rfl, _, _, _, rfl, _, rfl⟩; rfl
      rintro _ tt s₅ ⟨_, _, rfl, ⟨ta, rfl⟩, _, _, rfl, ⟨tb, rfl⟩, rfl⟩ Z₅ n5 _
      have Z₆ := Z₅.sub (news' := (dN, oN) :: (tt, tupOf [.int ((c.fdiv 15).fmod 40) ta, .int ((c.fdiv 600).fmod 4) tb]) :: (extra ++ [(dO, oO')])) (fun p hp => by grind)
      refine ⟨_, _, _, oN, kN, dN, cellP c, tp, Z₆, fun p hp => ?_, hn, by omega, EvV.name Z₆.ns M2, EvV.name Z₆.ns M4, fun ob' s₇ Z₇ hd' => xs_nil (b1 _ ?_)⟩
      · simp only [List.mem_cons, List.mem_append, List.not_mem_nil, or_false] at hp
        rcases hp with rfl | hp | rfl
        · exact (n5 (dN, oN) (by simp)).symm
        · exact (de p hp).2
        · exact hON
      refine t3 ((tt, tupOf [.int ((c.fdiv 15).fmod 40) ta, .int ((c.fdiv 600).fmod 4) tb]) :: extra) oO' ob' kO' (stored kN (cellP c) (.ref tt)) s₇ (Z₇.sub fun p hp => by grind) ?_ dO' hd' l1 (fun h => absurd hs1 h) stored_len ?_
      · intro p hp
        rcases List.mem_cons.mp hp with rfl | hp
        · exact ⟨(n5 (dO, oO') (by simp)).symm, (n5 (dN, oN) (by simp)).symm⟩
        · exact de p hp
      · intro hx' h1 h2
        refine ⟨hr hx' h1 fun p hp => h2 p (.tail _ hp), ?_⟩
        rw [if_pos hs1]
        exact (rN.mono fun _ _ _ r => r.keeps h1).put ⟨tt, ta, tb, rfl, h2 _ (.head _)⟩
    · have hs1 : cellS c ≠ 1 := by simpa using hb
      refine t3 extra oO' oN kO' kN s₄ Z₄ de dO' hn l1 (fun _ => rfl) (by omega) (fun hx' h1 h2 => ⟨hr hx' h1 h2, ?_⟩)
      rw [if_neg hs1]
      exact rN.mono fun _ _ _ r => r.keeps h1
  refine s_if (b := cellS c != 1) Z₃ (.ne (EvI.name Z₃.ns M5) EvI.const) fun B' s₄ Z₄ b1 _ _ _ => ⟨fun hb => ?_, fun hb => xs_nil (b1 _ ?_)⟩
  · have hs1 : cellS c ≠ 1 := by simpa using hb
    refine s_setD (s₀ := s₀) (L := L) (e_tuple Z₄ (.cons (EvI.fmod (EvI.fdiv (EvI.name Z₄.ns M3) EvI.const (by decide) (by decide)) EvI.const (by decide)) (.cons (EvI.fmod (EvI.fdiv (EvI.name Z₄.ns M3) EvI.const (by decide) (by decide)) EvI.const (by decide)) .nil)) (by decide) ?_ ?_)
    · rintro _ ⟨_, _, rfl, _, _, _, rfl, _, rfl⟩; rfl
    rintro _ tt s₅ ⟨_, _, rfl, ⟨ta, rfl⟩, _, _, rfl, ⟨tb, rfl⟩, rfl⟩ Z₅ n5 _
    have Z₆ := Z₅.sub (news' := (dO, oO) :: (tt, tupOf [.int ((c.fdiv 15).fmod 40) ta, .int ((c.fdiv 600).fmod 4) tb]) :: [(dN, oN)]) (fun p hp => by grind)
    refine ⟨_, _, _, oO, kO, dO, cellP c, tp, Z₆, fun p hp => ?_, ho, by omega, EvV.name Z₆.ns M1, EvV.name Z₆.ns M4, fun ob' s₇ Z₇ hd' => xs_nil (b1 _ ?_)⟩
    · simp only [List.mem_cons, List.not_mem_nil, or_false] at hp
      rcases hp with rfl | rfl
      · exact (n5 (dO, oO) (by simp)).symm
      · exact hON.symm
    refine t2 [(tt, tupOf [.int ((c.fdiv 15).fmod 40) ta, .int ((c.fdiv 600).fmod 4) tb])] ob' (stored kO (cellP c) (.ref tt)) s₇ (Z₇.sub fun p hp => by grind) ?_ hd' stored_len ?_
    · intro p hp
      rw [List.mem_singleton.mp hp]
      exact ⟨(n5 (dO, oO) (by simp)).symm, (n5 (dN, oN) (by simp)).symm⟩
    · intro hx' h1 h2
      unfold stepO
      rw [if_pos hs1]
      exact (rO.mono fun _ _ _ r => r.keeps h1).put ⟨tt, ta, tb, rfl, h2 _ (.head _)⟩
  · have hs1 : cellS c = 1 := by simpa using hb
    refine t2 [] oO kO s₄ Z₄ (fun _ h => nomatch h) ho (by omega) (fun hx' h1 h2 => ?_)
    unfold stepO
    rw [if_neg (by simp [hs1])]
    exact rO.mono fun _ _ _ r => r.keeps h1
end

section
variable {w : World} {A : Around} {E : Value → Shared → Prop} {s : Shared} {Q : Value → Shared → Prop} {h₀ : Heap} {a : Addr} {vs : List Value} {ns : List Int}

set_option maxHeartbeats 8000000 in
theorem tables_spec (G : Gd w h₀) (hk₀ : Sub h₀ s.heap) (hl : h₀.IsList a vs.toArray) (hi : IntsAre vs ns) (h63 : vs.length ≤ 63) (hh : A.handled = none) (hroom : A.depth + 5 < recursionLimit)
    (ret : ∀ T dO dN kO kN s', Rest s s' → Ext [] s.heap s'.heap → s'.heap.get? T = some (tupOf [.ref dO, .ref dN]) → Dct w s'.heap dO kO → Dct w s'.heap dN kN → Rel (TV s'.heap) kO (tabO ns) → Rel (TV s'.heap) kN (tabN ns) → dO ≠ dN → s.heap.get? dO = none → s.heap.get? dN = none → Q (.ref T) s') :
    wpAny (MM w) A (call (.ref 230) [.ref a]) Q E s := by
  refine' callF (binds := [("script", .ref a)]) G hk₀ [] ?hm ?ho ?hc (by omega) ?hb ?hl ?_ ?c1 ?c2 ?c3 ?c4; (case ho => k_is); (case hc => k_is); (case hb => exact BindsTo.of_eq rfl); (case hl => exact rfl); (case c1 => decide); (case c2 => exact rfl); (case c3 => exact rfl); (case c4 => exact rfl); (case hm => exact fun _ h => nomatch h)
  intro h₁ L s₁ A' E' Q' hh' hu' _ hQ _ G₁ st hext Z
  have hhA : A'.handled = none := hh'.trans hh
  refine s_asgW (s₀ := s) (e_dict0 G₁ Z fun dO s₂ lO Z₂ _ hO => ⟨_, _, _, Z₂, fun s₃ Z₃ => ?_⟩)
  refine s_asgW (s₀ := s) (e_dict0 G₁ Z₃ fun dN s₄ lN Z₄ n4 hN => ⟨_, _, _, Z₄, fun s₅ Z₅ => ?_⟩)
  have hON : dO ≠ dN := n4 _ (.head _)
  refine xs_cons (wpAny_For (wpAny_BinOp (e_list Z₅ (.cons EvI.const (.cons EvI.const (.cons EvI.const .nil))) (by decide) ?_ ?_)) fun _ => rfl)
  · rintro _ ⟨_, _, rfl, _, _, _, rfl, _, _, _, rfl, _, rfl⟩; rfl
  rintro _ l0 s₆ ⟨_, _, rfl, ⟨t1, rfl⟩, _, _, rfl, ⟨t2, rfl⟩, _, _, rfl, ⟨t3, rfl⟩, rfl⟩ Z₆ n6 _
  have hl' : ∀ {news m s'}, Fm h₁ L s news m s' → s'.heap.IsList a vs.toArray := fun Z => hl.at fun o e => Z.keep _ _ (st _ _ e)
  refine e_upto (L := L) (s₀ := s) (EvV.go (EvV.name Z₆.ns (by walk_at "lk")) fun s₇ h₇ r₇ => ?_)
  have Z₇ := Z₆.touch h₇ r₇
  refine ⟨a, _, 8, _, _, _, rfl, hl' Z₇, by simp; omega, Z₇, EvI.const, fun l1 s₈ Z₈ n8 _ => ?_⟩
  have hvt : (vs.toArray.toList.take 8).toArray = (vs.take 8).toArray := by simp
  rw [hvt] at Z₈
  refine e_cat (vs := [.int 214285 t1, .int 1866 t2, .int 662 t3]) (ws := vs.take 8) Z₈ (Z₈.nw _ (.tail _ (.head _))).1 (Z₈.nw _ (.head _)).1 (by simp; omega) fun l2 s₉ Z₉ n9 => ?_
  have hints : IntsAre ([.int 214285 t1, .int 1866 t2, .int 662 t3] ++ vs.take 8) (cellsOf ns) := .cons _ _ (.cons _ _ (.cons _ _ (ints_take hi 8)))
  have hlen : ([.int 214285 t1, .int 1866 t2, .int 662 t3] ++ vs.take 8 : List Value).length ≤ 11 := by simp; omega
  generalize ([.int 214285 t1, .int 1866 t2, .int 662 t3] ++ vs.take 8 : List Value) = us at *
  obtain ⟨Z₁₀, _⟩ := Z₉.new (ob := { cls := .type "list_iterator", data := .fields #[.ref l2, .int 0 0] }) (tk := s₉.toks)
  refine wpAny_pyIter_list ⟨_, (Z₉.nw _ (.head _)).1, rfl, 0, rfl⟩ ?_
  have zl := Z₁₀.nw _ (.tail _ (.head _))
  have zI := Z₁₀.nw _ (.head _)
  have hlI : l2 ≠ s₉.heap.objs.size := Nat.ne_of_lt (Heap.lt_size (Z₉.nw _ (.head _)).1)
  have hO9 : dO ≠ l2 := n9 (dO, emptyDict) (by simp)
  have hN9 : dN ≠ l2 := n9 (dN, emptyDict) (by simp)
  have hOI : dO ≠ s₉.heap.objs.size := Nat.ne_of_lt (Heap.lt_size (Z₉.nw (dO, emptyDict) (by simp)).1)
  have hNI : dN ≠ s₉.heap.objs.size := Nat.ne_of_lt (Heap.lt_size (Z₉.nw (dN, emptyDict) (by simp)).1)
  have W := Walks.list (prog := PR) (w := w) (A := A') hhA s₉.heap.objs.size l2 hlI us.toArray
  refine for_walkH (news := [(dO, emptyDict), (dN, emptyDict)]) (Trn.ofWalks W ?_) (TJ w dO dN (cellsOf ns)) (Z₁₀.sub fun p hp => by grind) ⟨⟨_, zI.1, rfl, rfl⟩, ⟨_, zl.1, rfl, 0, rfl⟩⟩ ?_ ?_ ?_ ?_ ?_
  · intro i h st b hb
    simp only [List.mem_cons, List.not_mem_nil, or_false] at hb
    rcases hb with rfl | rfl
    · obtain ⟨o, e, _⟩ := st.1; exact ⟨o, e⟩
    · obtain ⟨o, e, _⟩ := st.2; exact ⟨o, e⟩
  · exact .mk _ _ [] [] _ _ hO hN (Nat.le_refl _) (Nat.le_refl _) .nil .nil (by walk_at "lk") (by walk_at "lk")
  · intro b hb
    simp only [List.mem_cons, List.not_mem_nil, or_false] at hb
    rcases hb with rfl | rfl
    · exact ⟨zI.2.1, by simp [hOI.symm, hNI.symm]⟩
    · exact ⟨zl.2.1, by simp [hO9.symm, hN9.symm]⟩
  · intro b hb
    rw [List.mem_singleton.mp hb]; exact zI.2.2
  · rintro i v _ _ s₁₁ h₂ hx E'' B hi' hP ⟨oO, oN, kO, kN, m, hx, ho, hn, lo, ln, rO, rN, m1, m2⟩ h0x hx2 Z₁₁ bn _
    have hP : us.toArray[i]? = some v := hP
    have hiu : i < us.length := by simpa using hi'
    obtain ⟨tc, rfl, hic⟩ := ints_get hints (v := v) (by simpa using hP)
    refine a_name Z₁₁ fun s₁₂ Z₁₂ => ?_
    refine tables_turn (G₁.keeps fun b o e => hx2 b o (h0x b o e)) hON Z₁₂ hx2 ho hn (by omega) (by omega) rO rN (by walk_at "lk") (by walk_at "lk") (by walk_at "lk") ?_
    intro extra oO' oN' kO' kN' m' s' Z' de dO' dN' l1 l3 hr m1' m2'
    have htk : (cellsOf ns).take (i + 1) = (cellsOf ns).take i ++ [(cellsOf ns).getD i 0] := by
      rw [List.take_succ_eq_append_getElem hic]; simp [hic]
    refine bn extra _ _ _ Z' (fun p hp q hq => ?_) fun hx' h1 h2 => .mk oO' oN' kO' kN' m' hx' dO' dN' (by omega) (by omega) ?_ ?_ m1' m2'
    · simp only [List.mem_cons, List.not_mem_nil, or_false] at hq
      rcases hq with rfl | rfl
      · exact (de p hp).1
      · exact (de p hp).2
    · rw [htk, List.foldl_append]; exact (hr hx' h1 h2).1
    · rw [htk, List.foldl_append]; exact (hr hx' h1 h2).2
  · rintro _ _ s₁₁ hx E'' ⟨oO, oN, kO, kN, m, hx, ho, hn, lo, ln, rO, rN, m1, m2⟩ h0x Z₁₁
    have hsz : (cellsOf ns).take us.toArray.size = cellsOf ns := List.take_of_length_le (by
      have := hints.length
      simp; omega)
    rw [hsz] at rO rN
    refine s_ret (e_tuple Z₁₁ (.cons (EvV.name Z₁₁.ns m1) (.cons (EvV.name Z₁₁.ns m2) .nil)) (by decide) ?_ ?_)
    · rintro _ ⟨_, _, rfl, rfl, _, _, rfl, rfl, rfl⟩; rfl
    rintro _ T s₁₂ ⟨_, _, rfl, rfl, _, _, rfl, rfl, rfl⟩ Z₁₂ _ _
    have nn : ∀ b, hx.get? b = none → s.heap.get? b = none := fun b e => by
      cases q : s.heap.get? b with
      | none => rfl
      | some o => rw [h0x b o (hext b o (by simp) q)] at e; cases e
    exact hQ _ _ (ret T dO dN kO kN s₁₂ Z₁₂.rest (fun b o _ e => Z₁₂.keep b o (h0x b o (hext b o (by simp) e))) (Z₁₂.nw _ (.head _)).1 (.of lO (Z₁₂.nw (dO, oO) (by simp)).1 ho) (.of lN (Z₁₂.nw (dN, oN) (by simp)).1 hn)
      (rO.mono fun _ _ _ r => r.keeps Z₁₂.keep) (rN.mono fun _ _ _ r => r.keeps Z₁₂.keep) hON (nn _ (Z₁₂.nw (dO, oO) (by simp)).2.2) (nn _ (Z₁₂.nw (dN, oN) (by simp)).2.2))
end
end Mine

end
section
open PySem PySem.W PySem.Calls PyProof.Rows PySem.SeqAt
namespace Mine

/-- a Statistic: its place, its size and its count -/
def SV (h : Heap) (p : Str) (v : Value) (x : Int × Int) : Prop := ∃ a t1 t2 t3, v = .ref a ∧ InstH h a 75 #[some (.int x.2 t1), some (.int x.1 t2), some (.str p t3)]
theorem SV.keeps {h h' : Heap} {p : Str} {v : Value} {x : Int × Int} (a : SV h p v x) (hk : Sub h h') : SV h' p v x := let ⟨a, t1, t2, t3, e1, e2⟩ := a; ⟨a, t1, t2, t3, e1, e2.keeps hk⟩

theorem put_new {β : Type} {t : List (Str × β)} {k : Str} {b : β} (h : k ∉ t.map (·.1)) : putT t k b = t ++ [(k, b)] := by
  unfold putT
  rw [if_neg]
  intro hq
  rw [List.any_eq_true] at hq
  obtain ⟨x, hx, e⟩ := hq
  have e : x.1 = k := by simpa using e
  exact h (e ▸ List.mem_map_of_mem hx)
theorem key_notin {β : Type} {t : List (Str × β)} (hn : (t.map (·.1)).Nodup) {i : Nat} {k : Str} {b : β} (h : t[i]? = some (k, b)) : k ∉ (t.take i).map (·.1) := by
  intro hm
  obtain ⟨hi, e⟩ := List.getElem?_eq_some_iff.mp h
  obtain ⟨x, hx, ex⟩ := List.mem_map.mp hm
  obtain ⟨j, hj, ej⟩ := List.getElem_of_mem hx
  simp only [List.length_take] at hj
  rw [List.getElem_take] at ej
  refine List.pairwise_iff_getElem.mp hn j i (by simp; omega) (by simpa using hi) (by omega) ?_
  simp only [List.getElem_map, ej, ex, e]

section
variable {w : World} {A : Around} {E : Value → Shared → Prop} {env : Env} {h₀ : Heap} {L : Addr} {s₀ s s' : Shared} {news : List (Addr × Obj)} {m : Str → Option Value} {a b : Addr} {o o' : Obj}
/-- a callee has made two things -/
theorem Fm.got2 (Z : Fm h₀ L s₀ news m s) (r : Rest s s') (x : Ext [] s.heap s'.heap) (n1 : s.heap.get? a = none) (n2 : s.heap.get? b = none) (e1 : s'.heap.get? a = some o) (e2 : s'.heap.get? b = some o') :
    Fm h₀ L s₀ ((a, o) :: (b, o') :: news) m s' ∧ (∀ p ∈ news, p.1 ≠ a ∧ p.1 ≠ b) := by
  obtain ⟨Z1, h1⟩ := Z.got r x n1 e1
  obtain ⟨Z2, h2⟩ := Z.got r x n2 e2
  refine ⟨⟨Z1.ns, Z1.keep, Z1.off, fun p hp => ?_, Z1.rest⟩, fun p hp => ⟨h1 p hp, h2 p hp⟩⟩
  rcases List.mem_cons.mp hp with rfl | hp
  · exact Z1.nw _ (.head _)
  · exact Z2.nw p hp
end

/-- between the turns of _law_stats -/
inductive SJ (w : World) (D d : Addr) (T : Tab) (i : Nat) : List (Addr × Obj) → (Str → Option Value) → Heap → Prop
  | mk (oD : Obj) (kS : List (Str × Value)) (m : Str → Option Value) (hx : Heap) : DOb w oD kS → kS.length ≤ i → Rel (SV hx) kS (T.take i) → m "stats" = some (.ref D) → m "table" = some (.ref d) → SJ w D d T i [(D, oD)] m hx

section
variable {w : World} {A : Around} {E : Value → Shared → Prop} {s : Shared} {Q : Value → Shared → Prop} {h₀ : Heap} {d : Addr} {kvs : List (Str × Value)} {T : Tab}

theorem keys_alive {knd : KeyKind PR w Str} {I d : Addr} {n ep : Nat} (i : Nat) (h : Heap) (st : h.IsKeyIter I d i n ep ∧ h.DictAt knd d kvs ep) : ∀ b ∈ [I, d], ∃ o, h.get? b = some o := fun b hb => by
  simp only [List.mem_cons, List.not_mem_nil, or_false] at hb
  rcases hb with rfl | rfl
  · obtain ⟨o, e, _⟩ := st.1; exact ⟨o, e⟩
  · obtain ⟨o, _, e, _⟩ := st.2; exact ⟨o, e⟩

set_option maxHeartbeats 8000000 in
theorem stats_spec (G : Gd w h₀) (hk₀ : Sub h₀ s.heap) (hd : Dct w h₀ d kvs) (hr : Rel (TV h₀) kvs T) (h99 : kvs.length ≤ 99) (hh : A.handled = none) (hroom : A.depth + 5 < recursionLimit)
    (ret : ∀ D kS s', Rest s s' → Ext [] s.heap s'.heap → Dct w s'.heap D kS → Rel (SV s'.heap) kS T → s.heap.get? D = none → Q (.ref D) s') :
    wpAny (MM w) A (call (.ref 237) [.ref d]) Q E s := by
  refine' callF (binds := [("table", .ref d)]) G hk₀ [] ?hm ?ho ?hc (by omega) ?hb ?hl ?_ ?c1 ?c2 ?c3 ?c4; (case ho => k_is); (case hc => k_is); (case hb => exact BindsTo.of_eq rfl); (case hl => exact rfl); (case c1 => decide); (case c2 => exact rfl); (case c3 => exact rfl); (case c4 => exact rfl); (case hm => exact fun _ h => nomatch h)
  intro h₁ L s₁ A' E' Q' hh' hu' hdp hQ _ G₁ st hext Z
  have hhA : A'.handled = none := hh'.trans hh
  have hnd := hd.nodup
  rw [hr.keys] at hnd
  have hkl := hr.len
  obtain ⟨lo, hD0⟩ := hd
  obtain ⟨ep, hat⟩ := hD0.dictAt
  have hat1 : h₁.DictAt (SK w) d kvs ep := hat.at' fun o e => st d o e
  have hd1 : Dct w h₁ d kvs := ⟨lo, hat1.dictOf⟩
  refine s_asgW (s₀ := s) (e_dict0 G₁ Z fun D s₂ lD Z₂ _ hDo => ⟨_, _, _, Z₂, fun s₃ Z₃ => ?_⟩)
  refine xs_cons (wpAny_For (EvV.go (EvV.name Z₃.ns (by walk_at "lk")) fun s₄ h₄ r₄ => ?_) fun _ => rfl)
  have Z₄ := Z₃.touch h₄ r₄
  refine wpAny_pyIter_dict lo (hat1.at' fun o e => Z₄.keep d o e) ?_
  obtain ⟨Z₅, n5⟩ := Z₄.new (ob := { cls := .type "dict_keyiterator", data := .fields #[.ref d, .int 0 0, .int kvs.length 0, .int ep 0] }) (tk := s₄.toks)
  have zI := Z₅.nw _ (.head _)
  have hI0 : h₁.get? s₄.heap.objs.size = none := zI.2.2
  generalize s₄.heap.objs.size = I at *
  have hdI : d ≠ I := by rintro rfl; obtain ⟨o, _, e, _⟩ := hat1; rw [e] at hI0; cases hI0
  have hDI : D ≠ I := n5 _ (.head _)
  have hdD : d ≠ D := by rintro rfl; obtain ⟨o, _, e, _⟩ := hat1; rw [(Z₅.nw _ (.tail _ (.head _))).2.2] at e; cases e
  have hdL : d ≠ L := by rintro rfl; obtain ⟨o, _, e, _⟩ := hat1; rw [Z.off] at e; cases e
  have W := Walks.dictKeys (prog := PR) (w := w) (knd := SK w) (A := A') hhA I d hdI kvs ep
  refine for_walkH (news := [(D, emptyDict)]) (Trn.ofWalks W keys_alive) (SJ w D d T) (Z₅.sub fun p hp => by grind) ⟨⟨_, zI.1, rfl, rfl⟩, hat1.at' fun o e => Z₅.keep d o e⟩ ?_ ?_ ?_ ?_ ?_
  · exact .mk _ [] _ _ hDo (Nat.le_refl _) (by rw [List.take_zero]; exact .nil) (by walk_at "lk") (by walk_at "lk")
  · intro b hb
    simp only [List.mem_cons, List.not_mem_nil, or_false] at hb
    rcases hb with rfl | rfl
    · exact ⟨zI.2.1, by simpa using hDI.symm⟩
    · exact ⟨hdL, by simpa using hdD⟩
  · intro b hb
    rw [List.mem_singleton.mp hb]; exact hI0
  · rintro i v _ _ s₆ h₂ hx E'' B hi' ⟨k, x, hkx, hkv⟩ ⟨oD, kS, m, hx, hoD, lS, rS, m1, m2⟩ h0x hx2 Z₆ bn _
    obtain ⟨tk, rfl⟩ := Value.isStrOf_shape hkv
    obtain ⟨y, hy, tv⟩ := hr.get hkx
    obtain ⟨tt, ta, tb, rfl, htt⟩ := tv
    have h12 : Sub h₁ h₂ := fun b o e => hx2 b o (h0x b o e)
    have G₂ := G₁.keeps h12
    have hva : valueAt kvs k = some (.ref tt) := valueAt_of_get (by rw [hr.keys]; exact hnd) hkx
    refine a_name Z₆ fun s₇ Z₇ => ?_
    have hd7 : Dct w s₇.heap d kvs := (hd1.keeps h12).keeps Z₇.keep
    have ht7 : s₇.heap.get? tt = some (tupOf [.int y.1 ta, .int y.2 tb]) := Z₇.keep _ _ (h12 _ _ (st _ _ htt))
    have hit : ∀ {n : Nat} {z : Value} {e₂ : Expr} {p1 p2 p3 p4 : Pos}, ([.int y.1 ta, .int y.2 tb] : List Value)[n]? = some z → True := fun _ => trivial
    refine s_setD (s₀ := s) (L := L) (callP3 (EvV.glob G₂ Z₇.keep (by k_is)) (.K G₂ Z₇.keep (by k_is)) (EvV.name Z₇.ns (by walk_at "lk")) (EvV.titem (n := 0) (EvV.ditem (EvV.name Z₇.ns (by walk_at "lk")) (EvV.name Z₇.ns (by walk_at "lk")) hd7 hva) EvI.const ht7 (v := .int y.1 ta) rfl (by decide)) (EvV.titem (n := 1) (EvV.ditem (EvV.name Z₇.ns (by walk_at "lk")) (EvV.name Z₇.ns (by walk_at "lk")) hd7 hva) EvI.const ht7 (v := .int y.2 tb) rfl (by decide)) ?_)
    rintro _ _ _ s₈ rfl rfl rfl h₈ r₈
    have Z₈ := Z₇.touch h₈ r₈
    refine mkStat G₂ Z₈.keep (by omega) fun a da s₉ r₉ x₉ na nda ne ea eda => ?_
    obtain ⟨Z₉, n9⟩ := Z₈.got2 r₉ x₉ na nda ea eda
    have Z₁₀ := Z₉.sub (news' := [(D, oD), (a, inst 75 da #[some (.int y.2 tb), some (.int y.1 ta), some (.str k tk)]), (da, emptyDict)]) (fun p hp => by grind)
    have nD := n9 (D, oD) (.head _)
    refine ⟨_, _, _, oD, kS, D, k, tk, Z₁₀, fun p hp => ?_, hoD, by omega, EvV.name Z₁₀.ns (by walk_at "lk"), EvV.name Z₁₀.ns (by walk_at "lk"), fun ob' s₁₁ Z₁₁ hd' => xs_nil ?_⟩
    · simp only [List.mem_cons, List.not_mem_nil, or_false] at hp
      rcases hp with rfl | rfl
      · exact nD.1.symm
      · exact nD.2.symm
    refine bn [(a, inst 75 da #[some (.int y.2 tb), some (.int y.1 ta), some (.str k tk)]), (da, emptyDict)] [(D, ob')] _ s₁₁ (Z₁₁.sub fun p hp => by grind) (fun p hp q hq => ?_) fun hx' h1 h2 => .mk ob' _ _ hx' hd' (Nat.le_trans stored_len (by omega)) ?_ (by walk_at "lk") (by walk_at "lk")
    · rw [List.mem_singleton.mp hq]
      simp only [List.mem_cons, List.not_mem_nil, or_false] at hp
      rcases hp with rfl | rfl
      · exact nD.1.symm
      · exact nD.2.symm
    · obtain ⟨hiT, eT⟩ := List.getElem?_eq_some_iff.mp hy
      have htk : T.take (i + 1) = putT (T.take i) k y := by
        rw [put_new (key_notin hnd hy), List.take_succ_eq_append_getElem hiT, eT]
      rw [htk]
      exact (rS.mono fun _ _ _ r => r.keeps h1).put ⟨a, tb, ta, tk, rfl, da, _, h2 _ (.head _), h2 _ (.tail _ (.head _)), rfl⟩
  · rintro _ _ s₆ hx E'' ⟨oD, kS, m, hx, hoD, lS, rS, m1, m2⟩ h0x Z₆
    rw [hkl, List.take_length] at rS
    refine s_retE Z₆ (EvV.name Z₆.ns m1) ?_
    rintro _ s₇ rfl Z₇
    refine hQ _ _ (ret D kS s₇ Z₇.rest (fun b o _ e => Z₇.keep b o (h0x b o (hext b o (by simp) e))) (.of lD (Z₇.nw _ (.head _)).1 hoD) (rS.mono fun _ _ _ r => r.keeps Z₇.keep) ?_)
    cases e : s.heap.get? D with
    | none => rfl
    | some o => have := (Z₇.nw _ (.head _)).2.2; rw [h0x _ _ (hext _ _ (by simp) e)] at this; cases this
end
end Mine

end
section
open PySem PySem.W PySem.Calls PyProof.Rows PySem.SeqAt
namespace Mine

section
variable {w : World} {A : Around} {E : Value → Shared → Prop} {env : Env} {h₀ : Heap} {L : Addr} {s₀ s : Shared} {news : List (Addr × Obj)} {m : Str → Option Value} {rest : List Stmt} {e e₁ e₂ o : Expr} {pos pos' apos tp : Pos} {D d : Addr} {kvs : List (Str × Value)} {ep : Nat} {pl : Sem Bool}

/-- «x.append(e)», whatever makes e -/
theorem e_append {Q : Value → Shared → Prop} (hD : ∃ its ep, s.heap.get? D = some (listOf its ep)) (a : EvV w A env s.heap o (.ref D))
    (c : ∀ s₁, s₁.heap = s.heap → Rest s s₁ → wpAny (MM w) A (eval e env) (fun v s₂ => ∃ h₁ news' m' vs ep, Fm h₁ L s₀ ((D, listOf vs.toArray ep) :: news') m' s₂ ∧ (∀ p ∈ news', p.1 ≠ D) ∧ vs.length ≤ 1000 ∧ ∀ ep' s', Fm h₁ L s₀ ((D, listOf (vs ++ [v]).toArray ep') :: news') m' s' → Q .none s') E s₁)
    (he : MethEq o "append" apos pos [e] env pl := by rfl) (hx : starEach [e] env = [(false, eval e env)] := by rfl) :
    wpAny (MM w) A (eval (.Call (.Attribute o "append" apos) [e] [] pos) env) Q E s := by
  refine MethodCall_ (a.go fun s₁ h₁ r₁ => ?_) he
  obtain ⟨its, ep, hD⟩ := hD
  refine getMethL (its := its) (ep := ep) (h₁ ▸ hD) PySem.F.slot_list_append PySem.F.type_list_append ?_
  refine callWith_of (P := fun h => Kp w h (.builtin "list.append")) (by rw [hx]; rfl) (fun _ k => k) ?_
  rw [hx]
  refine evalArgs_plain ?_
  show wpAny (MM w) A (spliced (backTo pos [(false, eval e env)])) _ _ _
  rw [← hx]
  refine wpAny_items_cons (wpAny_mono (c s₁ h₁ r₁) (fun v s₂ h₂ => wpAny_items_nil ⟨.blt, ?_⟩) fun _ _ e => e) hx
  obtain ⟨h₁, news', m', vs, ep, Z, hn, hz, q⟩ := h₂
  show wpAny (MM w) A (call (.builtin "list.append") [.ref D, v]) _ _ _
  refine wpAny_list_append_plain (hsz := by rw [sizeLine_eq]; simp; omega) ⟨ep, (Z.nw _ (.head _)).1⟩ fun h' hl hs => ?_
  obtain ⟨ep', hl⟩ := hl
  refine q ep' _ (Z.chg hs ?_ hn)
  rw [hl]
  simp

/-- «d.items()», «d.values()» -/
theorem e_items {Q : Value → Shared → Prop} (Z : Fm h₀ L s₀ news m s) (a : EvV w A env s.heap o (.ref d)) (hd : Dct w s.heap d kvs)
    (h : ∀ V s', Fm h₀ L s₀ ((V, { cls := .type "dict_items", data := .fields #[.ref d] }) :: news) m s' → (∀ p ∈ news, p.1 ≠ V) → Sub s.heap s'.heap → Q (.ref V) s') (he : MethEq o "items" apos pos [] env pl := by rfl) :
    wpAny (MM w) A (eval (.Call (.Attribute o "items" apos) [] [] pos) env) Q E s := by
  refine MethodCall_ (a.go fun s₁ h₁ r₁ => ?_) he
  have hd1 : Dct w s₁.heap d kvs := h₁ ▸ hd
  refine getMethD hd1.2 PySem.F.slot_dict_items PySem.F.type_dict_items ?_
  refine callWith_of (P := fun h => Kp w h (.builtin "dict.items")) rfl (fun _ k => k) (evalArgs_nil3 ⟨.blt, ?_⟩)
  obtain ⟨Z', n'⟩ := (Z.touch h₁ r₁).new (ob := { cls := .type "dict_items", data := .fields #[.ref d] }) (tk := s₁.toks)
  exact call_meetsIn PySem.F.slot_dict_items hd1.2.typeIs PySem.F.entry_dict_items (PySem.F.args_dict_items_1 _) (meets_dict_items (SK w) d hd1.1) ⟨⟨kvs, hd1.2⟩, h _ _ Z' n' fun b o e => Heap.get?_push_of_some _ (show s₁.heap.get? b = some o by rw [h₁]; exact e)⟩
theorem e_values {Q : Value → Shared → Prop} (Z : Fm h₀ L s₀ news m s) (a : EvV w A env s.heap o (.ref d)) (hd : Dct w s.heap d kvs)
    (h : ∀ V s', Fm h₀ L s₀ ((V, { cls := .type "dict_values", data := .fields #[.ref d] }) :: news) m s' → (∀ p ∈ news, p.1 ≠ V) → Sub s.heap s'.heap → Q (.ref V) s') (he : MethEq o "values" apos pos [] env pl := by rfl) :
    wpAny (MM w) A (eval (.Call (.Attribute o "values" apos) [] [] pos) env) Q E s := by
  refine MethodCall_ (a.go fun s₁ h₁ r₁ => ?_) he
  have hd1 : Dct w s₁.heap d kvs := h₁ ▸ hd
  refine getMethD hd1.2 PySem.F.slot_dict_values PySem.F.type_dict_values ?_
  refine callWith_of (P := fun h => Kp w h (.builtin "dict.values")) rfl (fun _ k => k) (evalArgs_nil3 ⟨.blt, ?_⟩)
  obtain ⟨Z', n'⟩ := (Z.touch h₁ r₁).new (ob := { cls := .type "dict_values", data := .fields #[.ref d] }) (tk := s₁.toks)
  exact call_meetsIn PySem.F.slot_dict_values hd1.2.typeIs PySem.F.entry_dict_values (PySem.F.args_dict_values_1 _) (meets_dict_values (SK w) d hd1.1) ⟨⟨kvs, hd1.2⟩, h _ _ Z' n' fun b o e => Heap.get?_push_of_some _ (show s₁.heap.get? b = some o by rw [h₁]; exact e)⟩

/-- a dict's pairs, unpacked -/
theorem Trn.items {elts : List Expr} {k : Nat} {I : Addr} (hh : A.handled = none) (hne : d ≠ I) :
    Trn w A (.Tuple elts k pos) I [I, d] [I] kvs.length
      (fun i v h => ∃ T kk x t, v = .ref T ∧ kvs[i]? = some (kk, x) ∧ h.IsTuple T #[.str kk t, x])
      (fun i v h => ∃ T kk x t, v = .ref T ∧ kvs[i]? = some (kk, x) ∧ h.IsTuple T #[.str kk t, x] ∧ T ≠ I ∧ IsItemIterOut h I d (i + 1) kvs.length ep (.str kk t) x T ∧ h.DictAt (SK w) d kvs ep)
      (fun i h => (∃ ok ov, IsItemIter h I d i kvs.length ep ok ov) ∧ h.DictAt (SK w) d kvs ep) (fun _ => True) where
  sub := fun b hb => by simp at hb; simp [hb]
  frame := fun _ _ _ st hk => ⟨let ⟨ok, ov, e⟩ := st.1; ⟨ok, ov, hk I (by simp) _ e⟩, st.2.at' fun o e => hk d (by simp) o e⟩
  frameF := fun _ _ _ _ => trivial
  item := fun i s Q E hi st hQ => by
    obtain ⟨⟨kk, x⟩, hx⟩ : ∃ p, kvs[i]? = some p := ⟨kvs[i], by simp [hi]⟩
    obtain ⟨⟨ok, ov, hit⟩, hm⟩ := st
    have hIl : I < s.heap.objs.size := Heap.lt_size hit
    refine wpAny_pyNext_items_item hit hm hx fun key h₁ hkey heo ht₁ hz₁ hk₁ => ?_
    obtain ⟨t, rfl⟩ := Value.isStrOf_shape hkey
    exact hQ _ h₁ s.toks ⟨_, kk, x, t, rfl, hx, ⟨_, ht₁, rfl, 0, rfl⟩, Nat.ne_of_gt hIl, heo, hm.at' fun o e => hk₁ d o hne e⟩ fun b o hb e => hk₁ b o (by simpa using hb) e
  go := fun i v s Q E hm hQ => by
    obtain ⟨T, kk, x, t, rfl, hx, hT, hTI, heo, hd⟩ := hm
    refine wpAny_letOwnedTupleGo_items heo fun h₂ he₂ hs₂ => hQ h₂ ⟨T, kk, x, t, rfl, hx, hT.extBut hs₂.extBut hTI⟩ ⟨⟨_, _, he₂⟩, hd.extBut hs₂.extBut hne⟩ fun b o hb e => hs₂.extBut b o (by simpa using hb) e
  done := fun s Q E st hQ => by
    obtain ⟨⟨ok, ov, hit⟩, hm⟩ := st
    exact wpAny_pyNext_items_end hh hit hm (by simp) fun h' he => hQ h' s.toks trivial fun b o hb e => he b o (by simpa using hb) e
  self := fun i s Q E st hQ => by
    obtain ⟨⟨ok, ov, hit⟩, hm⟩ := st
    exact kcp_self hit hQ
  alive := fun i h st b hb => by
    simp only [List.mem_cons, List.not_mem_nil, or_false] at hb
    rcases hb with rfl | rfl
    · obtain ⟨⟨_, _, e⟩, _⟩ := st; exact ⟨_, e⟩
    · obtain ⟨_, o, _, e, _⟩ := st; exact ⟨o, e⟩
end
end Mine

end
section
open PySem PySem.W PySem.Calls PyProof.Rows PySem.SeqAt
namespace Mine

/-- a difference: its place, size, how much the size is changed, count, how much the count is -/
structure Row where
  p : Str
  sz : Int
  sd : Int
  ct : Int
  cd : Int
def DV (h : Heap) (v : Value) (r : Row) : Prop := ∃ a t1 t2 t3 t4 t5, v = .ref a ∧ InstH h a 134 #[some (.int r.ct t1), some (.int r.cd t2), some (.int r.sz t3), some (.int r.sd t4), some (.str r.p t5)]
theorem DV.keeps {h h' : Heap} {v : Value} {r : Row} (a : DV h v r) (hk : Sub h h') : DV h' v r := let ⟨a, t1, t2, t3, t4, t5, e1, e2⟩ := a; ⟨a, t1, t2, t3, t4, t5, e1, e2.keeps hk⟩

inductive All2 {β : Type} (R : Value → β → Prop) : List Value → List β → Prop
  | nil : All2 R [] []
  | cons {v : Value} {b : β} {l : List Value} {l' : List β} : R v b → All2 R l l' → All2 R (v :: l) (b :: l')
section
variable {β : Type} {R R' : Value → β → Prop} {vs : List Value} {bs : List β} {v : Value} {b : β}
theorem All2.mono (a : All2 R vs bs) (h : ∀ v b, R v b → R' v b) : All2 R' vs bs := by
  induction a with
  | nil => exact .nil
  | cons r _ ih => exact .cons (h _ _ r) ih
theorem All2.snoc (a : All2 R vs bs) (r : R v b) : All2 R (vs ++ [v]) (bs ++ [b]) := by
  induction a with
  | nil => exact .cons r .nil
  | cons r' _ ih => exact .cons r' ih
theorem All2.len (a : All2 R vs bs) : vs.length = bs.length := by
  induction a with
  | nil => rfl
  | cons _ _ ih => simp [ih]
theorem All2.get (a : All2 R vs bs) : ∀ {i : Nat} {b : β}, bs[i]? = some b → ∃ v, vs[i]? = some v ∧ R v b := by
  induction a with
  | nil => intro i b h; simp at h
  | cons r _ ih =>
    intro i b h
    cases i with
    | zero => simp at h; subst h; exact ⟨_, rfl, r⟩
    | succ i => simpa using ih (by simpa using h)
end

def rowOf (TO TN : Tab) (p : Str) : Row :=
  ⟨p, ((getT TN p).getD (0, 0)).1, ((getT TN p).getD (0, 0)).1 - ((getT TO p).getD (0, 0)).1, ((getT TN p).getD (0, 0)).2, ((getT TN p).getD (0, 0)).2 - ((getT TO p).getD (0, 0)).2⟩
def delAll (T : Tab) (l : Tab) : Tab := l.foldl (fun t kv => delT t kv.1) T

theorem getT_del {β : Type} {t : List (Str × β)} {k k' : Str} (h : k ≠ k') : getT (delT t k') k = getT t k := by
  unfold getT delT
  congr 1
  induction t with
  | nil => rfl
  | cons x t ih =>
    by_cases h1 : x.1 = k'
    · rw [List.filter_cons, if_neg (by simpa using h1), ih, List.find?_cons]
      have : ¬ x.1 = k := fun e => h (e.symm.trans h1)
      simp [this]
    · rw [List.filter_cons, if_pos (by simpa using h1), List.find?_cons, List.find?_cons, ih]
theorem getT_delAll {T : Tab} : ∀ {l : Tab} {k : Str}, k ∉ l.map (·.1) → ∀ {T : Tab}, getT (delAll T l) k = getT T k
  | [], k, _, T => rfl
  | x :: l, k, h, T => by
    simp only [List.map_cons, List.mem_cons, not_or] at h
    show getT (delAll (delT T x.1) l) k = _
    rw [getT_delAll (T := T) h.2, getT_del h.1]
theorem delAll_eq : ∀ {l T : Tab}, delAll T l = T.filter fun kv => decide (kv.1 ∉ l.map (·.1))
  | [], T => by
    show T = _
    symm
    rw [List.filter_eq_self]
    intro a _
    simp
  | x :: l, T => by
    show delAll (delT T x.1) l = _
    rw [delAll_eq, delT, List.filter_filter]
    refine List.filter_congr fun kv _ => ?_
    rw [Bool.eq_iff_iff]
    simp only [Bool.and_eq_true, decide_eq_true_eq, List.map_cons, List.mem_cons, not_or]
    exact ⟨fun h => ⟨h.2, h.1⟩, fun h => ⟨h.2, h.1⟩⟩
theorem getT_of {β : Type} {t : List (Str × β)} (hn : (t.map (·.1)).Nodup) {i : Nat} {k : Str} {b : β} (h : t[i]? = some (k, b)) : getT t k = some b := by
  induction t generalizing i with
  | nil => simp at h
  | cons x t ih =>
    rw [List.map_cons, List.nodup_cons] at hn
    cases i with
    | zero => simp at h; subst h; simp [getT]
    | succ j =>
      simp only [List.getElem?_cons_succ] at h
      have hmem : k ∈ t.map (·.1) := List.mem_map.mpr ⟨(k, b), List.mem_of_getElem? h, rfl⟩
      have hne : ¬ x.1 = k := fun e => hn.1 (e ▸ hmem)
      have := ih hn.2 h
      simpa [getT, List.find?_cons, hne] using this
theorem getT_none {β : Type} {t : List (Str × β)} {k : Str} (h : k ∉ t.map (·.1)) : getT t k = none := by
  unfold getT
  rw [Option.map_eq_none_iff, List.find?_eq_none]
  intro x hx
  simp only [decide_eq_true_eq]
  exact fun e => h (e ▸ List.mem_map_of_mem hx)

section
variable {w : World} {A : Around} {E : Value → Shared → Prop} {env : Env} {s : Shared} {es : List Expr} {e : Expr} {PL : List Value → Prop} {Q : Value → Shared → Prop} {x : Str} {p pos : Pos} {f : Value}
/-- a plain call of a name, its arguments plain -/
theorem callL (hf : EvV w A env s.heap (.Name x p) f) (hk : Kp w s.heap f) (a : EvL w A env s.heap (e :: es) PL)
    (h : ∀ vs s', PL vs → s'.heap = s.heap → Rest s s' → wpAny (MM w) A (call f vs) Q E s')
    (he : starEach (e :: es) env = (false, eval e env) :: starEach es env := by rfl) (hplain : (backTo pos (starEach es env)).any (·.1) = false := by rfl) : wpAny (MM w) A (eval (.Call (.Name x p) (e :: es) [] pos) env) Q E s :=
  callN hf (fun s₁ h₁ r₁ => a pos s₁ _ E h₁ fun vs s₂ hv h₂ r₂ => ⟨h₂ ▸ hk, h vs s₂ hv h₂ (r₁.trans r₂)⟩) he hplain
end

/-- between the turns of _compare_grouped_stats -/
inductive CJ1 (w : World) (R dL dS : Addr) (TO TN : Tab) (i : Nat) : List (Addr × Obj) → (Str → Option Value) → Heap → Prop
  | mk (vs : List Value) (ep : Nat) (oL : Obj) (kL : List (Str × Value)) (m : Str → Option Value) (hx : Heap) : All2 (DV hx) vs (((TN.take i).map (·.1)).map (rowOf TO TN)) → DOb w oL kL → Rel (SV hx) kL (delAll TO (TN.take i)) →
      m "statistics" = some (.ref R) → m "old_group" = some (.ref dL) → CJ1 w R dL dS TO TN i [(R, listOf vs.toArray ep), (dL, oL)] m hx
inductive CJ2 (w : World) (R : Addr) (TO TN TL : Tab) (i : Nat) : List (Addr × Obj) → (Str → Option Value) → Heap → Prop
  | mk (vs : List Value) (ep : Nat) (m : Str → Option Value) (hx : Heap) : All2 (DV hx) vs ((TN.map (·.1) ++ (TL.take i).map (·.1)).map (rowOf TO TN)) → m "statistics" = some (.ref R) → CJ2 w R TO TN TL i [(R, listOf vs.toArray ep)] m hx
end Mine

end
section
open PySem PySem.W PySem.Calls PyProof.Rows PySem.SeqAt
namespace Mine

abbrev eCm (L : Addr) : Env := envOf (Str.ofString "_compare_grouped_stats") (scp (st 4)) L 148 (.ref 147)

section
variable {w : World} {A : Around} {E : Value → Shared → Prop} {s₀ s : Shared} {h₂ hx : Heap} {L R dL : Addr} {m : Str → Option Value} {TO TN : Tab} {oL : Obj} {kL : List (Str × Value)} {vs : List Value} {ep : Nat} {B : Flow → Shared → Prop}
  {kk : Str} {x : Value} {y : Int × Int} {t : Tok} {TL : Tab}

set_option maxHeartbeats 8000000 in
/-- a turn of the first loop -/
theorem cmp_turn1 (G : Gd w h₂) (hroom : A.depth + 3 < recursionLimit) (hR : R ≠ dL) (Z : Fm h₂ L s₀ [(R, listOf vs.toArray ep), (dL, oL)] m s) (hx2 : Sub hx h₂) (hv : vs.length ≤ 100) (ho : DOb w oL kL) (lo : (dL == sysModules) = false) (ll : kL.length ≤ 100) (rL : Rel (SV hx) kL TL) (hTL : getT TL kk = getT TO kk)
    (hy : getT TN kk = some y) (sv : SV hx kk x y) (m1 : m "statistics" = some (.ref R)) (m2 : m "old_group" = some (.ref dL)) (m3 : m "traceback" = some (.str kk t)) (m4 : m "stat" = some x)
    (bn : ∀ extra oL' kL' v ep' m' s', Fm h₂ L s₀ (extra ++ [(R, listOf (vs ++ [v]).toArray ep'), (dL, oL')]) m' s' → (∀ p ∈ extra, p.1 ≠ R ∧ p.1 ≠ dL) → DOb w oL' kL' →
      (∀ hx', Sub hx hx' → (∀ p ∈ extra, hx'.get? p.1 = some p.2) → DV hx' v (rowOf TO TN kk) ∧ Rel (SV hx') kL' (delT TL kk)) → m' "statistics" = some (.ref R) → m' "old_group" = some (.ref dL) → B .next s') :
    wpAny (MM w) A (execs (forB (pick (txt (st 4)) 1)) (eCm L)) B E s := by
  obtain ⟨xa, s1, s2, s3, rfl, hxi⟩ := sv
  -- what is done with the difference that is made
  have tail : ∀ oL' kL' M s₁ sz sd ct cd, M "statistics" = some (.ref R) → M "old_group" = some (.ref dL) → Fm h₂ L s₀ [(R, listOf vs.toArray ep), (dL, oL')] M s₁ → DOb w oL' kL' → Rel (SV hx) kL' (delT TL kk) → (⟨kk, sz, sd, ct, cd⟩ : Row) = rowOf TO TN kk → ∀ t1 t2 t3 t4,
      wpAny (MM w) A (call (.ref 134) [.str kk t, .int sz t1, .int sd t2, .int ct t3, .int cd t4]) (fun v s₂ => ∃ h₁ news' m', Fm h₁ L s₀ news' m' s₂ ∧ ∀ s', Fm h₁ L s₀ news' (upd m' "stat" v) s' → wpAny (MM w) A (execs ((forB (pick (txt (st 4)) 1)).drop 2) (eCm L)) B E s') E s₁ := by
    intro oL' kL' M s₁ sz sd ct cd M1 M2 Z₁ ho' rL' hrow t1 t2 t3 t4
    refine mkDiff G Z₁.keep (by omega) fun a da s₂ r₂ x₂ na nda ne ea eda => ?_
    obtain ⟨Z₂, n2⟩ := Z₁.got2 r₂ x₂ na nda ea eda
    refine ⟨_, _, _, Z₂, fun s₃ Z₃ => ?_⟩
    have nR := n2 (R, listOf vs.toArray ep) (.head _)
    have nL := n2 (dL, oL') (.tail _ (.head _))
    have Z₄ := Z₃.sub (news' := [(R, listOf vs.toArray ep), (a, inst 134 da #[some (.int ct t3), some (.int cd t4), some (.int sz t1), some (.int sd t2), some (.str kk t)]), (da, emptyDict), (dL, oL')]) (fun p hp => by grind)
    refine s_expr (e_append (D := R) (L := L) (s₀ := s₀) ⟨_, _, (Z₄.nw _ (.head _)).1⟩ (EvV.name Z₄.ns (by walk_at "lk")) fun s₅ h₅ r₅ => EvV.go (EvV.name (h₅ ▸ Z₄.ns) (by walk_at "lk")) fun s₆ h₆ r₆ => ⟨_, _, _, vs, ep, (Z₄.touch h₅ r₅).touch h₆ r₆, fun p hp => ?_, by omega, fun ep' s₇ Z₇ => ⟨rfl, xs_nil ?_⟩⟩)
    · simp only [List.mem_cons, List.not_mem_nil, or_false] at hp
      rcases hp with rfl | rfl | rfl
      · exact nR.1.symm
      · exact nR.2.symm
      · exact hR.symm
    refine bn [(a, inst 134 da #[some (.int ct t3), some (.int cd t4), some (.int sz t1), some (.int sd t2), some (.str kk t)]), (da, emptyDict)] oL' kL' (.ref a) ep' _ s₇ (Z₇.sub fun p hp => by grind) (fun p hp => ?_) ho' (fun hx' h1 h2 => ⟨?_, rL'.mono fun _ _ _ r => r.keeps h1⟩) (by walk_at "lk") (by walk_at "lk")
    · simp only [List.mem_cons, List.not_mem_nil, or_false] at hp
      rcases hp with rfl | rfl
      · exact ⟨nR.1.symm, nL.1.symm⟩
      · exact ⟨nR.2.symm, nL.2.symm⟩
    · rw [← hrow]
      exact ⟨a, t3, t4, t1, t2, t, rfl, da, _, h2 _ (.head _), h2 _ (.tail _ (.head _)), rfl⟩
  have hxi' : ∀ {news m s'}, Fm h₂ L s₀ news m s' → InstH s'.heap xa 75 #[some (.int y.2 s1), some (.int y.1 s2), some (.str kk s3)] := fun Z => (hxi.keeps hx2).keeps Z.keep
  have hrv := rL.value (k := kk)
  refine s_asgW (s₀ := s₀) (e_popD (kvs := kL) Z.swap (fun p hp => by rw [List.mem_singleton.mp hp]; exact hR) ho lo (by omega) (EvV.name Z.ns m2) (EvV.name Z.ns m3) (fun v hv oL' s₁ Z₁ ho' => ?_) fun hv s₁ Z₁ => ?_)
  · rcases hrv with ⟨e, _⟩ | ⟨v', z, e1, e2, ⟨za, z1, z2, z3, rfl, hzi⟩⟩
    · rw [e] at hv; cases hv
    rw [e1] at hv
    cases hv
    have hz : getT TO kk = some z := by rw [← hTL]; exact e2
    refine ⟨_, _, _, Z₁.swap, fun s₂ Z₂ => ?_⟩
    have hzi' : ∀ {news m s'}, Fm h₂ L s₀ news m s' → InstH s'.heap za 75 #[some (.int z.2 z1), some (.int z.1 z2), some (.str kk z3)] := fun Z => (hzi.keeps hx2).keeps Z.keep
    refine s_if (b := true) Z₂ (.isNotNone (EvV.name Z₂.ns (by walk_at "lk")) EvV.none) fun B' s₃ Z₃ b1 _ _ _ => ⟨fun _ => ?_, fun h => (nomatch h)⟩
    refine s_asgW (s₀ := s₀) (callL (EvV.glob G Z₃.keep (by k_is)) (.K G Z₃.keep (by k_is)) (.cons (EvV.name Z₃.ns (by walk_at "lk")) (.cons (EvV.attr G Z₃.keep (EvV.name Z₃.ns (by walk_at "lk")) (hxi' Z₃) (st_size w) rfl rfl)
      (.cons (EvI.sub (EvI.attr G Z₃.keep (EvV.name Z₃.ns (by walk_at "lk")) (hxi' Z₃) (st_size w) rfl) (EvI.attr G Z₃.keep (EvV.name Z₃.ns (by walk_at "lk")) (hzi' Z₃) (st_size w) rfl))
      (.cons (EvV.attr G Z₃.keep (EvV.name Z₃.ns (by walk_at "lk")) (hxi' Z₃) (st_count w) rfl rfl)
      (.cons (EvI.sub (EvI.attr G Z₃.keep (EvV.name Z₃.ns (by walk_at "lk")) (hxi' Z₃) (st_count w) rfl) (EvI.attr G Z₃.keep (EvV.name Z₃.ns (by walk_at "lk")) (hzi' Z₃) (st_count w) rfl)) .nil))))) ?_)
    rintro _ s₄ ⟨_, _, rfl, rfl, _, _, rfl, rfl, _, _, rfl, ⟨ta, rfl⟩, _, _, rfl, rfl, _, _, rfl, ⟨tb, rfl⟩, rfl⟩ h₄ r₄
    have Z₄ := Z₃.touch h₄ r₄
    refine wpAny_mono (tail oL' _ _ s₄ y.1 (y.1 - z.1) y.2 (y.2 - z.2) (by walk_at "lk") (by walk_at "lk") Z₄ ho' rL.del ?_ _ _ _ _) (fun v s' h => ?_) fun _ _ e => e
    · simp only [rowOf, hy, hz, Option.getD_some]
    · obtain ⟨h₁, news', m', Z', q⟩ := h
      exact ⟨h₁, news', m', Z', fun s'' Z'' => xs_nil (b1 _ (q s'' Z''))⟩
  · have e2 : getT TL kk = none := by
      rcases hrv with ⟨_, e2⟩ | ⟨v', z, e1, _⟩
      · exact e2
      · rw [e1] at hv; cases hv
    have hz : getT TO kk = none := by rw [← hTL]; exact e2
    refine ⟨_, _, _, Z₁.swap, fun s₂ Z₂ => ?_⟩
    refine s_if (b := false) Z₂ (.isNotNone (EvV.name Z₂.ns (by walk_at "lk")) EvV.none) fun B' s₃ Z₃ b1 _ _ _ => ⟨fun h => (nomatch h), fun _ => ?_⟩
    refine s_asgW (s₀ := s₀) (callL (EvV.glob G Z₃.keep (by k_is)) (.K G Z₃.keep (by k_is)) (.cons (EvV.name Z₃.ns (by walk_at "lk")) (.cons (EvV.attr G Z₃.keep (EvV.name Z₃.ns (by walk_at "lk")) (hxi' Z₃) (st_size w) rfl rfl)
      (.cons (EvV.attr G Z₃.keep (EvV.name Z₃.ns (by walk_at "lk")) (hxi' Z₃) (st_size w) rfl rfl)
      (.cons (EvV.attr G Z₃.keep (EvV.name Z₃.ns (by walk_at "lk")) (hxi' Z₃) (st_count w) rfl rfl)
      (.cons (EvV.attr G Z₃.keep (EvV.name Z₃.ns (by walk_at "lk")) (hxi' Z₃) (st_count w) rfl rfl) .nil))))) ?_)
    rintro _ s₄ ⟨_, _, rfl, rfl, _, _, rfl, rfl, _, _, rfl, rfl, _, _, rfl, rfl, _, _, rfl, rfl, rfl⟩ h₄ r₄
    have Z₄ := Z₃.touch h₄ r₄
    have hdel : delT TL kk = TL := by
      unfold delT
      rw [List.filter_eq_self]
      intro a ha
      simp only [ne_eq, decide_not, Bool.not_eq_true', decide_eq_false_iff_not]
      intro e
      unfold getT at e2
      rw [Option.map_eq_none_iff, List.find?_eq_none] at e2
      exact e2 a ha (by simpa using e)
    refine wpAny_mono (tail oL kL _ s₄ y.1 y.1 y.2 y.2 (by walk_at "lk") (by walk_at "lk") Z₄ ho (by rw [hdel]; exact rL) ?_ _ _ _ _) (fun v s' h => ?_) fun _ _ e => e
    · simp only [rowOf, hy, hz, Option.getD_some, Option.getD_none, Int.sub_zero]
    · obtain ⟨h₁, news', m', Z', q⟩ := h
      exact ⟨h₁, news', m', Z', fun s'' Z'' => xs_nil (b1 _ (q s'' Z''))⟩
end
end Mine

end
section
open PySem PySem.W PySem.Calls PyProof.Rows PySem.SeqAt
namespace Mine

abbrev itemIt (d : Addr) (n ep : Nat) : Obj := { cls := .type "dict_itemiterator", data := .fields #[.none, .bool false, .ref d, .int 0 0, .int n 0, .int ep 0, .none, .none] }

section
variable {w : World} {A : Around} {E : Value → Shared → Prop} {s : Shared} {Q : Value → Shared → Prop} {h₀ : Heap} {dL dS : Addr} {kL kS : List (Str × Value)} {TO TN : Tab} {oL : Obj}

set_option maxHeartbeats 8000000 in
theorem compare_spec (G : Gd w h₀) (hk₀ : Sub h₀ s.heap) (hL : s.heap.get? dL = some oL) (hL0 : h₀.get? dL = none) (ho : DOb w oL kL) (lo : (dL == sysModules) = false) (rL : Rel (SV h₀) kL TO) (hnO : (TO.map (·.1)).Nodup)
    (hS : Dct w h₀ dS kS) (rS : Rel (SV h₀) kS TN) (h9 : TO.length ≤ 9) (h9' : TN.length ≤ 9) (hh : A.handled = none) (hroom : A.depth + 6 < recursionLimit)
    (ret : ∀ R vs ep oL' kL' s', Rest s s' → Ext [dL] s.heap s'.heap → s'.heap.get? R = some (listOf vs.toArray ep) → All2 (DV s'.heap) vs ((TN.map (·.1) ++ (delAll TO TN).map (·.1)).map (rowOf TO TN)) → s'.heap.get? dL = some oL' → DOb w oL' kL' → Rel (SV s'.heap) kL' (delAll TO TN) → s.heap.get? R = none → Q (.ref R) s') :
    wpAny (MM w) A (call (.ref 148) [.ref dL, .ref dS]) Q E s := by
  refine' callF (binds := [("old_group", .ref dL), ("new_group", .ref dS)]) G hk₀ [(dL, oL)] ?hm ?ho ?hc (by omega) ?hb ?hl ?_ ?c1 ?c2 ?c3 ?c4; (case ho => k_is); (case hc => k_is); (case hb => exact BindsTo.of_eq rfl); (case hl => exact rfl); (case c1 => decide); (case c2 => exact rfl); (case c3 => exact rfl); (case c4 => exact rfl); (case hm => exact List.forall_mem_singleton.mpr ⟨hL, hL0⟩)
  intro h₁ L s₁ A' E' Q' hh' hu' hdp hQ _ G₁ st hext Z
  have hhA : A'.handled = none := hh'.trans hh
  have hnN := hS.nodup
  rw [rS.keys] at hnN
  have hSl := rS.len
  obtain ⟨loS, hS0⟩ := hS
  obtain ⟨epS, hat⟩ := hS0.dictAt
  have hat1 : h₁.DictAt (SK w) dS kS epS := hat.at' fun o e => st dS o e
  obtain ⟨oS, _, eS, _⟩ := id hat1
  refine s_asgW (s₀ := s) (e_list Z .nil (by decide) (fun vs h => by rw [h]; rfl) ?_)
  rintro _ R s₂ rfl Z₂ n2 _
  refine ⟨_, _, _, Z₂, fun s₃ Z₃ => ?_⟩
  have hRL : R ≠ dL := (n2 _ (.head _)).symm
  refine xs_cons (wpAny_For (e_items (kvs := kS) Z₃ (EvV.name Z₃.ns (by walk_at "lk")) ⟨loS, (hat1.at' fun o e => Z₃.keep dS o e).dictOf⟩ fun V s₄ Z₄ n4 _ => ?_) fun _ => rfl)
  refine wpAny_pyIter_items (knd := SK w) ⟨_, (Z₄.nw _ (.head _)).1, rfl, rfl⟩ (hat1.at' fun o e => Z₄.keep dS o e) ?_
  obtain ⟨Z₅, n5⟩ := Z₄.new (ob := itemIt dS kS.length epS) (tk := s₄.toks)
  have zI := Z₅.nw _ (.head _)
  have hI0 : h₁.get? s₄.heap.objs.size = none := zI.2.2
  generalize s₄.heap.objs.size = I at *
  have hSI : dS ≠ I := by rintro rfl; rw [eS] at hI0; cases hI0
  have hRI : R ≠ I := n5 (R, _) (.tail _ (.head _))
  have hLI : dL ≠ I := n5 (dL, _) (.tail _ (.tail _ (.head _)))
  have hSR : dS ≠ R := by rintro rfl; rw [(Z₃.nw _ (.head _)).2.2] at eS; cases eS
  have hSL : dS ≠ dL := by rintro rfl; rw [(Z₃.nw _ (.tail _ (.head _))).2.2] at eS; cases eS
  have hSLL : dS ≠ L := by rintro rfl; rw [Z.off] at eS; cases eS
  refine for_walkH (news := [(R, listOf #[] 0), (dL, oL)]) (Trn.items (kvs := kS) (ep := epS) (d := dS) hhA hSI) (CJ1 w R dL dS TO TN) (Z₅.sub fun p hp => by grind) ⟨⟨_, _, zI.1⟩, hat1.at' fun o e => Z₅.keep dS o e⟩ ?_ ?_ ?_ ?_ ?_
  · exact .mk [] 0 oL kL _ _ (by rw [List.take_zero]; exact .nil) ho (by rw [List.take_zero]; exact rL.mono fun _ _ _ r => r.keeps st) (by walk_at "lk") (by walk_at "lk")
  · intro b hb
    simp only [List.mem_cons, List.not_mem_nil, or_false] at hb
    rcases hb with rfl | rfl
    · exact ⟨zI.2.1, by simp [hRI.symm, hLI.symm]⟩
    · exact ⟨hSLL, by simp [hSR, hSL]⟩
  · intro b hb
    rw [List.mem_singleton.mp hb]; exact hI0
  · rintro i v _ _ s₆ h₂ hx E'' B hi' ⟨T, kk, x, t, rfl, hkx, hT⟩ ⟨vs, ep, oL', kL', m, hx, hvs, ho', rL', m1, m2⟩ h0x hx2 Z₆ bn _
    obtain ⟨y, hy, sv⟩ := rS.get hkx
    have h12 : Sub h₁ h₂ := fun b o e => hx2 b o (h0x b o e)
    obtain ⟨hiT, eT⟩ := List.getElem?_eq_some_iff.mp hy
    have htk : TN.take (i + 1) = TN.take i ++ [(kk, y)] := by rw [List.take_succ_eq_append_getElem hiT, eT]
    refine a_unpack2 hhA Z₆ hT fun s₇ Z₇ => ?_
    have hvl : vs.length ≤ 100 := by
      have := hvs.len
      simp at this
      omega
    have hll : kL'.length ≤ 100 := by
      have h1 := rL'.len
      have h2 : (delAll TO (TN.take i)).length ≤ TO.length := by rw [delAll_eq]; exact List.length_filter_le _ _
      omega
    refine cmp_turn1 (TL := delAll TO (TN.take i)) (G₁.keeps h12) (by omega) hRL Z₇ hx2 hvl ho' lo hll rL' (getT_delAll (T := TO) (key_notin hnN hy)) (getT_of hnN hy) (sv.keeps fun b o e => h0x b o (st b o e)) (by walk_at "lk") (by walk_at "lk") (by walk_at "lk") (by walk_at "lk") ?_
    intro extra oL'' kL'' v' ep' m' s' Z' de ho'' hr m1' m2'
    refine bn extra _ _ _ Z' (fun p hp q hq => ?_) fun hx' h1 h2 => .mk (vs ++ [v']) ep' oL'' kL'' m' hx' ?_ ho'' ?_ m1' m2'
    · simp only [List.mem_cons, List.not_mem_nil, or_false] at hq
      rcases hq with rfl | rfl
      · exact (de p hp).1
      · exact (de p hp).2
    · rw [htk, List.map_append, List.map_append]
      exact (hvs.mono fun _ _ r => r.keeps h1).snoc (hr hx' h1 h2).1
    · rw [htk]
      unfold delAll
      rw [List.foldl_append]
      exact (hr hx' h1 h2).2
  · rintro _ _ s₆ hx E'' ⟨vs, ep, oL', kL', m, hx, hvs, ho', rL', m1, m2⟩ h0x Z₆
    rw [hSl, List.take_length] at hvs rL'
    -- the second loop: the old group stands now
    obtain ⟨h₂, st2, x2, Z₇⟩ := (Z₆.sub (news' := [(R, listOf vs.toArray ep)]) fun p hp => by rw [List.mem_singleton.mp hp]; exact .head _).rebase
    have zL6 := Z₆.nw _ (.tail _ (.head _))
    have eL2 : h₂.get? dL = some oL' := x2 _ _ (by simp [hRL.symm, zL6.2.1]) zL6.1
    have hD2 : h₂.DictOf (SK w) dL kL' := Heap.dictOf_iff.mpr ⟨oL', eL2, ho'⟩
    obtain ⟨epL, hatL⟩ := hD2.dictAt
    have h12 : Sub h₁ h₂ := fun b o e => st2 b o (h0x b o e)
    have G₂ := G₁.keeps h12
    have rL2 : Rel (SV h₂) kL' (delAll TO TN) := rL'.mono fun _ _ _ r => r.keeps st2
    have hLl := rL2.len
    have hnL : ((delAll TO TN).map (·.1)).Nodup := by
      rw [delAll_eq]
      exact List.Sublist.nodup (List.Sublist.map _ List.filter_sublist) hnO
    have hlL : (delAll TO TN).length ≤ 9 := by
      have : (delAll TO TN).length ≤ TO.length := by rw [delAll_eq]; exact List.length_filter_le _ _
      omega
    have hvl0 := hvs.len
    refine xs_cons (wpAny_For (e_items (kvs := kL') Z₇ (EvV.name Z₇.ns m2) ⟨lo, (hatL.at' fun o e => Z₇.keep dL o e).dictOf⟩ fun V2 s₈ Z₈ n8 _ => ?_) fun _ => rfl)
    refine wpAny_pyIter_items (knd := SK w) ⟨_, (Z₈.nw _ (.head _)).1, rfl, rfl⟩ (hatL.at' fun o e => Z₈.keep dL o e) ?_
    obtain ⟨Z₉, n9⟩ := Z₈.new (ob := itemIt dL kL'.length epL) (tk := s₈.toks)
    have zI := Z₉.nw _ (.head _)
    have hI0 : h₂.get? s₈.heap.objs.size = none := zI.2.2
    generalize s₈.heap.objs.size = I2 at *
    have hLI : dL ≠ I2 := by rintro rfl; rw [eL2] at hI0; cases hI0
    have hRI : R ≠ I2 := n9 (R, _) (.tail _ (.head _))
    refine for_walkH (news := [(R, listOf vs.toArray ep)]) (Trn.items (kvs := kL') (ep := epL) (d := dL) hhA hLI) (CJ2 w R TO TN (delAll TO TN)) (Z₉.sub fun p hp => by grind) ⟨⟨_, _, zI.1⟩, hatL.at' fun o e => Z₉.keep dL o e⟩ ?_ ?_ ?_ ?_ ?_
    · exact .mk vs ep _ _ (by rw [List.take_zero, List.map_nil, List.append_nil]; exact hvs.mono fun _ _ r => r.keeps st2) m1
    · intro b hb
      simp only [List.mem_cons, List.not_mem_nil, or_false] at hb
      rcases hb with rfl | rfl
      · exact ⟨zI.2.1, by simpa using hRI.symm⟩
      · exact ⟨zL6.2.1, by simpa using hRL.symm⟩
    · intro b hb
      rw [List.mem_singleton.mp hb]; exact hI0
    · rintro i v _ _ s₁₀ h₃ hx E'' B hi' ⟨T, kk, x, t, rfl, hkx, hT⟩ ⟨vs', ep', m, hx, hvs', m1'⟩ h0x' hx2 Z₁₀ bn _
      obtain ⟨y, hy, sv⟩ := rL2.get hkx
      have h23 : Sub h₂ h₃ := fun b o e => hx2 b o (h0x' b o e)
      have G₃ := G₂.keeps h23
      obtain ⟨hiT, eT⟩ := List.getElem?_eq_some_iff.mp hy
      have htk : (delAll TO TN).take (i + 1) = (delAll TO TN).take i ++ [(kk, y)] := by rw [List.take_succ_eq_append_getElem hiT, eT]
      have hmem : (kk, y) ∈ delAll TO TN := List.mem_of_getElem? hy
      have hin : kk ∉ TN.map (·.1) := by
        rw [delAll_eq, List.mem_filter] at hmem
        simpa using hmem.2
      have hgy : getT TO kk = some y := by rw [← getT_delAll (T := TO) (l := TN) hin]; exact getT_of hnL hy
      have hrow : (⟨kk, 0, -y.1, 0, -y.2⟩ : Row) = rowOf TO TN kk := by
        simp only [rowOf, hgy, getT_none hin, Option.getD_some, Option.getD_none, Int.zero_sub]
      have hvl : vs'.length ≤ 100 := by
        have := hvs'.len
        simp at this hvl0
        omega
      obtain ⟨xa, s1, s2, s3, rfl, hxi⟩ := sv
      refine a_unpack2 hhA Z₁₀ hT fun s₁₁ Z₁₁ => ?_
      have hxi' : InstH s₁₁.heap xa 75 #[some (.int y.2 s1), some (.int y.1 s2), some (.str kk s3)] := (hxi.keeps h23).keeps Z₁₁.keep
      refine s_asgW (s₀ := s) (callL (EvV.glob G₃ Z₁₁.keep (by k_is)) (.K G₃ Z₁₁.keep (by k_is)) (.cons (EvV.name Z₁₁.ns (by walk_at "lk")) (.cons EvI.const (.cons (EvI.neg (EvI.attr G₃ Z₁₁.keep (EvV.name Z₁₁.ns (by walk_at "lk")) hxi' (st_size w) rfl)) (.cons EvI.const (.cons (EvI.neg (EvI.attr G₃ Z₁₁.keep (EvV.name Z₁₁.ns (by walk_at "lk")) hxi' (st_count w) rfl)) .nil))))) ?_)
      rintro _ s₁₂ ⟨_, _, rfl, rfl, _, _, rfl, ⟨ta, rfl⟩, _, _, rfl, ⟨tb, rfl⟩, _, _, rfl, ⟨tc, rfl⟩, _, _, rfl, ⟨td, rfl⟩, rfl⟩ h₁₂ r₁₂
      have Z₁₂ := Z₁₁.touch h₁₂ r₁₂
      refine mkDiff G₃ Z₁₂.keep (by omega) fun a da s₁₃ r₁₃ x₁₃ na nda ne ea eda => ?_
      obtain ⟨Z₁₃, n13⟩ := Z₁₂.got2 r₁₃ x₁₃ na nda ea eda
      refine ⟨_, _, _, Z₁₃, fun s₁₄ Z₁₄ => ?_⟩
      have nR := n13 (R, listOf vs'.toArray ep') (.head _)
      have Z₁₅ := Z₁₄.sub (news' := [(R, listOf vs'.toArray ep'), (a, inst 134 da #[some (.int 0 tc), some (.int (-y.2) td), some (.int 0 ta), some (.int (-y.1) tb), some (.str kk t)]), (da, emptyDict)]) (fun p hp => by grind)
      refine s_expr (e_append (D := R) (L := L) (s₀ := s) ⟨_, _, (Z₁₅.nw _ (.head _)).1⟩ (EvV.name Z₁₅.ns (by walk_at "lk")) fun s₁₆ h₁₆ r₁₆ => EvV.go (EvV.name (h₁₆ ▸ Z₁₅.ns) (by walk_at "lk")) fun s₁₇ h₁₇ r₁₇ => ⟨_, _, _, vs', ep', (Z₁₅.touch h₁₆ r₁₆).touch h₁₇ r₁₇, fun p hp => ?_, by omega, fun ep'' s₁₈ Z₁₈ => ⟨rfl, xs_nil ?_⟩⟩)
      · simp only [List.mem_cons, List.not_mem_nil, or_false] at hp
        rcases hp with rfl | rfl
        · exact nR.1.symm
        · exact nR.2.symm
      refine bn [(a, inst 134 da #[some (.int 0 tc), some (.int (-y.2) td), some (.int 0 ta), some (.int (-y.1) tb), some (.str kk t)]), (da, emptyDict)] [(R, listOf (vs' ++ [Value.ref a]).toArray ep'')] _ s₁₈ (Z₁₈.sub fun p hp => by grind) (fun p hp q hq => ?_) fun hx' h1 h2 => .mk (vs' ++ [Value.ref a]) ep'' _ hx' ?_ (by walk_at "lk")
      · rw [List.mem_singleton.mp hq]
        simp only [List.mem_cons, List.not_mem_nil, or_false] at hp
        rcases hp with rfl | rfl
        · exact nR.1.symm
        · exact nR.2.symm
      · have e : (TN.map (·.1) ++ ((delAll TO TN).take (i + 1)).map (·.1)).map (rowOf TO TN) = (TN.map (·.1) ++ ((delAll TO TN).take i).map (·.1)).map (rowOf TO TN) ++ [rowOf TO TN kk] := by rw [htk]; simp
        rw [e]
        refine (hvs'.mono fun _ _ r => r.keeps h1).snoc ?_
        rw [← hrow]
        exact ⟨a, tc, td, ta, tb, t, rfl, da, _, h2 _ (.head _), h2 _ (.tail _ (.head _)), rfl⟩
    · rintro _ _ s₁₀ hx E'' ⟨vs', ep', m, hx, hvs', m1'⟩ h0x' Z₁₀
      rw [hLl, List.take_length] at hvs'
      refine s_retE Z₁₀ (EvV.name Z₁₀.ns m1') ?_
      rintro _ s₁₁ rfl Z₁₁
      have up : Sub h₂ s₁₁.heap := fun b o e => Z₁₁.keep b o (h0x' b o e)
      refine hQ _ _ (ret R vs' ep' oL' kL' s₁₁ Z₁₁.rest (fun b o hb e => up b o (h12 b o (hext b o (by simpa using hb) e))) (Z₁₁.nw _ (.head _)).1 (hvs'.mono fun _ _ r => r.keeps Z₁₁.keep) (up _ _ eL2) ho' (rL2.mono fun _ _ _ r => r.keeps up) ?_)
      cases e : s.heap.get? R with
      | none => rfl
      | some o => have := (Z₃.nw _ (.head _)).2.2; rw [hext _ _ (by simpa using hRL) e] at this; cases this
end
end Mine

end
section
open PySem PySem.W PySem.Calls PyProof.Rows PySem.SeqAt
namespace Mine

/-- the fields of a difference, as the law tells them -/
def FT (h : Heap) (v : Value) (r : Row) : Prop := ∃ t t1 t2 t3 t4 t5 t6 t7, v = .ref t ∧ h.get? t = some (tupOf [.int (r.sd.natAbs : Int) t1, .int r.sz t2, .int (r.cd.natAbs : Int) t3, .int r.ct t4, .str r.p t5, .int r.sd t6, .int r.cd t7])
theorem FT.keeps {h h' : Heap} {v : Value} {r : Row} (a : FT h v r) (hk : Sub h h') : FT h' v r := let ⟨t, t1, t2, t3, t4, t5, t6, t7, e1, e2⟩ := a; ⟨t, t1, t2, t3, t4, t5, t6, t7, e1, hk _ _ e2⟩
def keyI (r : Row) : List Int := [(r.sd.natAbs : Int), r.sz, (r.cd.natAbs : Int), r.ct]
theorem FT.row {h : Heap} {v : Value} {r : Row} (a : FT h v r) : RowAt h v (keyI r) r.p 2 := by
  obtain ⟨t, t1, t2, t3, t4, t5, t6, t7, e1, e2⟩ := a
  exact ⟨t, [.int (r.sd.natAbs : Int) t1, .int r.sz t2, .int (r.cd.natAbs : Int) t3, .int r.ct t4, .str r.p t5], [.int r.sd t6, .int r.cd t7], e1, e2, .cons _ _ (.cons _ _ (.cons _ _ (.cons _ _ (.nil _ _)))), rfl⟩

section
variable {w : World} {A : Around} {E : Value → Shared → Prop} {env : Env} {h h₀ : Heap} {L : Addr} {s₀ s : Shared} {news : List (Addr × Obj)} {m : Str → Option Value} {e e₁ e₂ o : Expr} {pos pos' apos tp p1 p2 : Pos} {D : Addr} {kvs : List (Str × Value)} {k : Str} {t : Tok} {T : Tab} {pl : Sem Bool} {k1 k2 k3 : Nat}

theorem Tst.or {b₁ b₂ : Bool} (a : Tst w A env h e₁ b₁) (c : b₁ = false → Tst w A env h e₂ b₂) : Tst w A env h (.BoolOp .Or [e₁, e₂] pos) (b₁ || b₂) := fun s Q E hs q =>
  wpAny_isTrue_BoolOp (wpAny_allTrue_Or_cons (a s _ E hs fun s' h' r' => by
    cases b₁ with
    | true => exact q s' h' r'
    | false => exact wpAny_allTrue_Or_cons (c rfl s' _ E h' fun s'' h'' r'' => by
        cases b₂ with
        | true => exact q s'' h'' (r'.trans r'')
        | false => exact wpAny_allTrue_Or_nil (q s'' h'' (r'.trans r'')))))

/-- «d.get(k, (0, 0))» -/
theorem e_getT {Q : Value → Shared → Prop} (Z : Fm h₀ L s₀ news m s) (hd : Dct w h₀ D kvs) (rel : Rel (TV h₀) kvs T) (a : EvV w A env s.heap o (.ref D)) (b : EvV w A env s.heap e₁ (.str k t))
    (h : ∀ v s', TV s'.heap k v ((getT T k).getD (0, 0)) → Fm h₀ L s₀ news m s' → Q v s')
    (he : MethEq o "get" apos pos [e₁, .Tuple [.Constant (.int 0) k1 p1, .Constant (.int 0) k2 p2] k3 tp] env pl := by rfl) (hx : backTo pos (starEach [e₁, .Tuple [.Constant (.int 0) k1 p1, .Constant (.int 0) k2 p2] k3 tp] env) = [(false, eval e₁ env), (false, eval (.Tuple [.Constant (.int 0) k1 p1, .Constant (.int 0) k2 p2] k3 tp) env)] := by rfl) :
    wpAny (MM w) A (eval (.Call (.Attribute o "get" apos) [e₁, .Tuple [.Constant (.int 0) k1 p1, .Constant (.int 0) k2 p2] k3 tp] [] pos) env) Q E s := by
  refine e_get2 (kvs := kvs) a b hd.1 (fun s₁ h₁ r₁ => ?_) (hd.keeps Z.keep).2 he hx
  have Z₁ := Z.touch h₁ r₁
  refine e_tuple Z₁ (.cons EvI.const (.cons EvI.const .nil)) (by show 2 ≤ 1000; decide) ?_ ?_
  · rintro _ ⟨_, _, rfl, _, _, _, rfl, _, rfl⟩; rfl
  rintro _ tt s₂ ⟨_, _, rfl, ⟨ta, rfl⟩, _, _, rfl, ⟨tb, rfl⟩, rfl⟩ Z₂ n2 _
  refine ⟨hd.keeps Z₂.keep, fun s₃ h₃ r₃ => h _ s₃ ?_ ((Z₂.touch h₃ r₃).sub fun p hp => .tail _ hp)⟩
  have Z₃ := Z₂.touch h₃ r₃
  rcases rel.value (k := k) with ⟨e1, e2⟩ | ⟨v, y, e1, e2, tv⟩
  · rw [e1, e2]; exact ⟨tt, ta, tb, rfl, (Z₃.nw _ (.head _)).1⟩
  · rw [e1, e2]; exact tv.keeps Z₃.keep
/-- «d.get(k, (0, 0))[i]» -/
theorem e_getI {n : Nat} {kc : Nat} {pc ps : Pos} {Q : Value → Shared → Prop} (Z : Fm h₀ L s₀ news m s) (hd : Dct w h₀ D kvs) (rel : Rel (TV h₀) kvs T) (a : EvV w A env s.heap o (.ref D)) (b : EvV w A env s.heap e₁ (.str k t)) (hn : n < 2)
    (h : ∀ u s', Fm h₀ L s₀ news m s' → Q (.int (if n = 0 then ((getT T k).getD (0, 0)).1 else ((getT T k).getD (0, 0)).2) u) s')
    (he : MethEq o "get" apos pos [e₁, .Tuple [.Constant (.int 0) k1 p1, .Constant (.int 0) k2 p2] k3 tp] env pl := by rfl) (hx : backTo pos (starEach [e₁, .Tuple [.Constant (.int 0) k1 p1, .Constant (.int 0) k2 p2] k3 tp] env) = [(false, eval e₁ env), (false, eval (.Tuple [.Constant (.int 0) k1 p1, .Constant (.int 0) k2 p2] k3 tp) env)] := by rfl) :
    wpAny (MM w) A (eval (.Subscript (.Call (.Attribute o "get" apos) [e₁, .Tuple [.Constant (.int 0) k1 p1, .Constant (.int 0) k2 p2] k3 tp] [] pos) (.Constant (.int (n : Int)) kc pc) ps) env) Q E s := by
  refine Subscript_ (e_getT Z hd rel a b (fun v s₁ tv Z₁ => ?_) he hx)
  obtain ⟨tt, ta, tb, rfl, htt⟩ := tv
  refine EvI.const.go fun v s₂ hv h₂ r₂ => ?_
  obtain ⟨u, rfl⟩ := hv
  have Z₂ := Z₁.touch h₂ r₂
  have ht2 : s₂.heap.get? tt = some (tupOf [.int ((getT T k).getD (0, 0)).1 ta, .int ((getT T k).getD (0, 0)).2 tb]) := by rw [h₂]; exact htt
  have : n = 0 ∨ n = 1 := by omega
  have hT : s₂.TypeIs (.ref tt) "tuple" := ⟨_, ht2, rfl⟩
  rcases this with rfl | rfl
  · exact tail_any hT (by first | exact tuple_getitem_lookup | exact slot_tuple_getitem.lookup) (getItem_tuple (j := 0) ⟨_, ht2, rfl, 0, rfl⟩ (by decide) (by decide) rfl rfl (h ta s₂ Z₂)) (by with_unfolding_all rfl)
  · exact tail_any hT (by first | exact tuple_getitem_lookup | exact slot_tuple_getitem.lookup) (getItem_tuple (j := 1) ⟨_, ht2, rfl, 0, rfl⟩ (by decide) (by decide) rfl rfl (h tb s₂ Z₂)) (by with_unfolding_all rfl)
end
end Mine

end
section
open PySem PySem.W PySem.Calls PyProof.Rows PySem.SeqAt
namespace Mine

/-- a list in the order of its ranks -/
theorem byRank {vs : List Value} {σ : List Nat} (hd : σ.Nodup) (hl : vs.length = σ.length) : vs = σ.map fun r => vs.getD (σ.idxOf r) .none := by
  apply List.ext_getElem
  · rw [hl, List.length_map]
  · intro i h1 h2
    have hi : i < σ.length := by omega
    rw [List.getElem_map]
    have : σ.idxOf σ[i] = i := hd.idxOf_getElem i hi
    rw [this]
    simp [h1]

/-- rows in their order: S; σ tells each row's rank -/
structure Ranks (rows S : List Row) (σ : List Nat) : Prop where
  perm : σ.Perm (List.range S.length)
  rows : rows = σ.map fun r => S.getD r ⟨⟨#[]⟩, 0, 0, 0, 0⟩
  keys : Keys S.length (fun r => keyI (S.getD r ⟨⟨#[]⟩, 0, 0, 0, 0⟩)) (fun r => (S.getD r ⟨⟨#[]⟩, 0, 0, 0, 0⟩).p)
theorem Ranks.nodup {rows S : List Row} {σ : List Nat} (a : Ranks rows S σ) : σ.Nodup := a.perm.nodup_iff.mpr List.nodup_range
theorem Ranks.lt {rows S : List Row} {σ : List Nat} (a : Ranks rows S σ) : ∀ r ∈ σ, r < S.length := fun r hr => by simpa using a.perm.mem_iff.mp hr
theorem Ranks.mem {rows S : List Row} {σ : List Nat} (a : Ranks rows S σ) {r : Nat} (hr : r < S.length) : r ∈ σ := a.perm.mem_iff.mpr (by simpa using hr)
theorem Ranks.len {rows S : List Row} {σ : List Nat} (a : Ranks rows S σ) : σ.length = S.length := by simpa using a.perm.length_eq

/-- what is told of a list's things, by rank -/
theorem Ranks.item {R : Value → Row → Prop} {rows S : List Row} {σ : List Nat} {vs : List Value} (a : Ranks rows S σ) (h : All2 R vs rows) : ∀ r, r < S.length → R (vs.getD (σ.idxOf r) .none) (S.getD r ⟨⟨#[]⟩, 0, 0, 0, 0⟩) := fun r hr => by
  have hm := a.mem hr
  have hi := List.idxOf_lt_length_of_mem hm
  have hg : rows[σ.idxOf r]? = some (S.getD r ⟨⟨#[]⟩, 0, 0, 0, 0⟩) := by
    rw [a.rows, List.getElem?_map, List.getElem?_eq_getElem hi, List.getElem_idxOf hi]; rfl
  obtain ⟨v, hv, hr'⟩ := h.get hg
  rw [List.getD, hv]; exact hr'
theorem All2.range {R : Value → Row → Prop} {f : Nat → Value} : ∀ {S : List Row}, (∀ r, r < S.length → R (f r) (S.getD r ⟨⟨#[]⟩, 0, 0, 0, 0⟩)) → All2 R ((List.range S.length).map f) S
  | [], _ => .nil
  | b :: S, h => by
    rw [List.length_cons, List.range_succ_eq_map, List.map_cons, List.map_map]
    refine .cons (h 0 (by simp)) (All2.range (f := f ∘ Nat.succ) fun r hr => ?_)
    simpa using h (r + 1) (by simpa using hr)

section
variable {w : World} {A : Around} {E : Value → Shared → Prop} {s : Shared} {h₀ : Heap} {is : Nat → List Int} {p : Nat → Str} {n c : Nat} {item : Nat → Value} {σ : List Nat} {ep : Nat} {R : Addr}

/-- «sorted(x)» of rows -/
theorem call_sortedR {Q : Value → Shared → Prop} (hR : s.heap.get? R = some (listOf (ranked item σ) ep)) (h2 : 2 ≤ σ.length) (h8 : σ.length ≤ 8) (ok : srtOk σ = true) (KK : Keys n is p) (hr : ∀ r ∈ σ, r < n) (hd : σ.Nodup) (hne : ∀ r, r < n → is r ≠ [])
    (rows : ∀ r ∈ σ, RowAt s.heap (item r) (is r) (p r) c)
    (h : ∀ D ep' s', Rest s s' → Ext [] s.heap s'.heap → s.heap.get? D = none → s'.heap.get? D = some (listOf (ranked item (srtP σ)) ep') → Q (.ref D) s') :
    wpAny (MM w) A (call (.builtin "sorted") [.ref R]) Q E s := by
  refine call_function_entry kind_sorted plain_sorted entry_sorted (args_sorted1 _) ?_
  unfold Builtin.«sorted»
  refine wpAny_bind (m := checkCount "sorted" 1 1 _) (wpAny_pure ?_)
  refine wpAny_bind (collect_list (vs := σ.map item) ⟨_, hR, rfl, ep, rfl⟩ ?_ (by rw [sizeLine_eq, List.length_map]; omega))
  have keep0 : Sub s.heap ((s.heap.push (seqObj "list" #[] 0)).update s.heap.objs.size (Obj.mapSeq (· ++ (σ.map item).toArray))) := fun b o e =>
    (Heap.get?_update_other _ _ (Nat.ne_of_gt (Heap.lt_size e))).trans (Heap.get?_push_of_some _ e)
  have hsz : s.heap.objs.size ≤ ((s.heap.push (seqObj "list" #[] 0)).update s.heap.objs.size (Obj.mapSeq (· ++ (σ.map item).toArray))).objs.size := by rw [Heap.size_update, Heap.size_push]; exact Nat.le_succ _
  generalize (s.heap.push (seqObj "list" #[] 0)).update s.heap.objs.size (Obj.mapSeq (· ++ (σ.map item).toArray)) = h1 at *
  refine wpAny_bind (wpAny_newList ?_ (by rw [sizeLine_eq, List.length_map]; omega))
  have hD : (h1.push (seqObj "list" (σ.map item).toArray 0)).get? h1.objs.size = some (listOf (ranked item σ) 0) := Heap.get?_push_size _ rfl
  have hn1 : s.heap.get? h1.objs.size = none := Heap.get?_none_of_le hsz
  have keep1 : Sub s.heap (h1.push (seqObj "list" (σ.map item).toArray 0)) := fun b o e => Heap.get?_push_of_some _ (keep0 b o e)
  refine wpAny_bind (wpAny_holding (wpAny_call_entry slot_list_sort ⟨_, hD, rfl⟩ entry_list_sort ?body (args_list_sort _)))
  show wpAny (MM w) A.in1.in1 (Builtin.«list.sort» ⟨[.ref h1.objs.size], []⟩) _ _ _
  rw [pl_plain]
  refine plT_spec (b := false) (κ := tuples' true) hD h2 h8 ok (SortBy.rows (n := n) (is := is) (p := p) (c := c) KK hr hd hne (by omega) (by simp) ?_ fun i hi => ?_) fun s' c' r' x' hD' => ⟨_, rfl, wpAny_pure ⟨_, rfl, h _ c' s' (Rest.trans .heap r') (fun b o _ e => x' b o ?_ (keep1 b o e)) hn1 hD'⟩⟩
  · intro t us e hm
    rw [List.mem_singleton.mp hm] at e
    rw [hD] at e
    injection e with e
    injection e with e
    simp at e
  · obtain ⟨t, xs, rest, e1, e2, e3, e4⟩ := rows (σ.getD i 0) (by simp [hi])
    have : (σ.map item).getD i .none = item (σ.getD i 0) := by simp [hi]
    rw [this]
    exact ⟨t, xs, rest, e1, keep1 _ _ e2, e3, e4⟩
  · simp only [List.mem_singleton]; rintro rfl; rw [hn1] at e; cases e

set_option maxHeartbeats 4000000 in
theorem fields_spec {x : Value} {r : Row} {Q : Value → Shared → Prop} (G : Gd w h₀) (dv : DV h₀ x r) (hk₀ : Sub h₀ s.heap) (hroom : A.depth < recursionLimit)
    (ret : ∀ k s', Rest s s' → Ext [] s.heap s'.heap → s.heap.get? k = none → (∃ us, s'.heap.get? k = some (tupOf us)) → FT s'.heap (.ref k) r → Q (.ref k) s') : wpAny (MM w) A (call (.ref 251) [x]) Q E s := by
  obtain ⟨a, t1, t2, t3, t4, t5, rfl, I⟩ := dv
  refine' callF (binds := [("one", .ref a)]) G hk₀ [] ?hm ?ho ?hc hroom ?hb ?hl ?_ ?c1 ?c2 ?c3 ?c4; (case ho => k_is); (case hc => k_is); (case hb => exact BindsTo.of_eq rfl); (case hl => exact rfl); (case c1 => decide); (case c2 => exact rfl); (case c3 => exact rfl); (case c4 => exact rfl); (case hm => exact fun _ h => nomatch h)
  intro h₁ L s₁ A' E' Q' _ hu' _ hQ _ G₁ st hext Z
  have I₁ := (I.keeps st).keeps Z.keep
  refine s_ret (e_tuple Z (.cons (EvI.abs G₁ Z.keep (.attr G₁ Z.keep (.name Z.ns rfl) I₁ (sd_sized w) rfl)) (.cons (EvV.attr G₁ Z.keep (.name Z.ns rfl) I₁ (sd_size w) rfl rfl)
    (.cons (EvI.abs G₁ Z.keep (.attr G₁ Z.keep (.name Z.ns rfl) I₁ (sd_countd w) rfl)) (.cons (EvV.attr G₁ Z.keep (.name Z.ns rfl) I₁ (sd_count w) rfl rfl) (.cons (EvV.attr G₁ Z.keep (.name Z.ns rfl) I₁ (sd_tb w) rfl rfl)
    (.cons (EvV.attr G₁ Z.keep (.name Z.ns rfl) I₁ (sd_sized w) rfl rfl) (.cons (EvV.attr G₁ Z.keep (.name Z.ns rfl) I₁ (sd_countd w) rfl rfl) .nil))))))) (by decide) ?_ ?_)
  · rintro _ ⟨_, _, rfl, ⟨_, rfl⟩, _, _, rfl, rfl, _, _, rfl, ⟨_, rfl⟩, _, _, rfl, rfl, _, _, rfl, rfl, _, _, rfl, rfl, _, _, rfl, rfl, rfl⟩; rfl
  · rintro _ t s₂ ⟨_, _, rfl, ⟨_, rfl⟩, _, _, rfl, rfl, _, _, rfl, ⟨_, rfl⟩, _, _, rfl, rfl, _, _, rfl, rfl, _, _, rfl, rfl, _, _, rfl, rfl, rfl⟩ Z n nt
    refine hQ _ _ (ret t _ Z.rest (fun b o _ e => Z.keep b o (hext b o (by simp) e)) ?_ ⟨_, (Z.nw _ (.head _)).1⟩ ⟨_, _, _, _, _, _, _, _, rfl, (Z.nw _ (.head _)).1⟩)
    cases e : s.heap.get? t with
    | none => rfl
    | some o => have := (Z.nw _ (.head _)).2.2; rw [hext _ _ (by simp) e] at this; cases this
end
end Mine

end
section
open PySem PySem.W PySem.Calls PyProof.Rows PySem.SeqAt
namespace Mine

def P5 : List Str := [plc 0, plc 1, plc 2, plc 3, plc 4]
def isIn (TO TN : Tab) (p : Str) : Bool := (getT TO p).isSome || (getT TN p).isSome
def dueRows (TO TN : Tab) : List Row := (P5.filter (isIn TO TN)).map (rowOf TO TN)
abbrev eDu (L : Addr) : Env := envOf (Str.ofString "_law_due") (scp (st 20)) L 244 (.ref 243)

/-- between the turns of _law_due -/
inductive DJ (R dO dN : Addr) (TO TN : Tab) (i : Nat) : List (Addr × Obj) → (Str → Option Value) → Heap → Prop
  | mk (vs : List Value) (ep : Nat) (m : Str → Option Value) (hx : Heap) : All2 (FT hx) vs (((P5.take i).filter (isIn TO TN)).map (rowOf TO TN)) → m "rows" = some (.ref R) → m "old" = some (.ref dO) → m "new" = some (.ref dN) → DJ R dO dN TO TN i [(R, listOf vs.toArray ep)] m hx

theorem Rel.some {β : Type} {R : Str → Value → β → Prop} {kvs : List (Str × Value)} {t : List (Str × β)} {k : Str} (a : Rel R kvs t) : (valueAt kvs k).isSome = (getT t k).isSome := by
  rcases a.value (k := k) with ⟨e1, e2⟩ | ⟨v, y, e1, e2, _⟩ <;> rw [e1, e2] <;> rfl
theorem P5_get {i c : Nat} (h : (Str.ofString "abcde").cps[i]? = some c) : i < 5 ∧ (⟨#[c]⟩ : Str) = plc i ∧ P5[i]? = some (plc i) := by
  have e : (Str.ofString "abcde").cps = #[97, 98, 99, 100, 101] := by decide +kernel
  rw [e] at h
  have hi : i < 5 := (Array.getElem?_eq_some_iff.mp h).1
  have : i = 0 ∨ i = 1 ∨ i = 2 ∨ i = 3 ∨ i = 4 := by omega
  rcases this with rfl | rfl | rfl | rfl | rfl <;> (simp at h; subst h; exact ⟨by decide, rfl, rfl⟩)
theorem P5_size : (Str.ofString "abcde").cps.size = 5 := by decide +kernel

section
variable {w : World} {A : Around} {E : Value → Shared → Prop} {s : Shared} {Q : Value → Shared → Prop} {h₀ : Heap} {dO dN : Addr} {kO kN : List (Str × Value)} {TO TN : Tab} {S : List Row} {σ : List Nat}

set_option maxHeartbeats 8000000 in
theorem due_spec (G : Gd w h₀) (hk₀ : Sub h₀ s.heap) (hO : Dct w h₀ dO kO) (hN : Dct w h₀ dN kN) (rO : Rel (TV h₀) kO TO) (rN : Rel (TV h₀) kN TN) (hh : A.handled = none) (hroom : A.depth + 6 < recursionLimit) (rk : Ranks (dueRows TO TN) S σ) (ok : srtOk σ = true) (hP : srtP σ = List.range S.length) (h2 : 2 ≤ S.length) (h5 : S.length ≤ 8)
    (ret : ∀ D vs ep s', Rest s s' → Ext [] s.heap s'.heap → s'.heap.get? D = some (listOf vs.toArray ep) → All2 (FT s'.heap) vs S → Q (.ref D) s') :
    wpAny (MM w) A (call (.ref 244) [.ref dO, .ref dN]) Q E s := by
  refine' callF (binds := [("old", .ref dO), ("new", .ref dN)]) G hk₀ [] ?hm ?ho ?hc (by omega) ?hb ?hl ?_ ?c1 ?c2 ?c3 ?c4; (case ho => k_is); (case hc => k_is); (case hb => exact BindsTo.of_eq rfl); (case hl => exact rfl); (case c1 => decide); (case c2 => exact rfl); (case c3 => exact rfl); (case c4 => exact rfl); (case hm => exact fun _ h => nomatch h)
  intro h₁ L s₁ A' E' Q' hh' hu' hdp hQ _ G₁ st hext Z
  have hhA : A'.handled = none := hh'.trans hh
  have hO1 := hO.keeps st
  have hN1 := hN.keeps st
  have rO1 : Rel (TV h₁) kO TO := rO.mono fun _ _ _ r => r.keeps st
  have rN1 : Rel (TV h₁) kN TN := rN.mono fun _ _ _ r => r.keeps st
  refine s_asgW (s₀ := s) (e_list Z .nil (by decide) (fun vs h => by rw [h]; rfl) ?_)
  rintro _ R s₂ rfl Z₂ n2 _
  refine ⟨_, _, _, Z₂, fun s₃ Z₃ => ?_⟩
  refine xs_cons (wpAny_For (Evs.str.go fun v s₄ hv h₄ r₄ => ?_) fun _ => rfl)
  obtain ⟨tv, rfl⟩ := hv
  have Z₄ := Z₃.touch h₄ r₄
  refine wpAny_pyIter_ascii (by decide +kernel) ?_
  obtain ⟨Z₅, n5⟩ := Z₄.new (ob := { cls := .type "str_ascii_iterator", data := .fields #[.str (Str.ofString "abcde") tv, .int 0 0] }) (tk := s₄.toks)
  have zI := Z₅.nw _ (.head _)
  have hI0 : h₁.get? s₄.heap.objs.size = none := zI.2.2
  generalize s₄.heap.objs.size = I at *
  have hRI : R ≠ I := n5 (R, _) (.head _)
  have W := Walks.strAscii (prog := PR) (w := w) (A := A') hhA I (Str.ofString "abcde") tv
  refine for_walkH (news := [(R, listOf #[] 0)]) (Trn.ofWalks W fun i h st b hb => by rw [List.mem_singleton.mp hb]; obtain ⟨o, e, _⟩ := st; exact ⟨o, e⟩) (DJ R dO dN TO TN) (Z₅.sub fun p hp => by grind) ⟨_, zI.1, rfl, rfl⟩ ?_ ?_ ?_ ?_ ?_
  · exact .mk [] 0 _ _ (by rw [List.take_zero]; exact .nil) (by walk_at "lk") (by walk_at "lk") (by walk_at "lk")
  · intro b hb
    rw [List.mem_singleton.mp hb]
    exact ⟨zI.2.1, by simpa using hRI.symm⟩
  · intro b hb
    rw [List.mem_singleton.mp hb]; exact hI0
  · rintro i v _ _ s₆ h₂ hx E'' B hi' ⟨c, u, hc, rfl⟩ ⟨vs, ep, m, hx, hvs, m1, m2, m3⟩ h0x hx2 Z₆ bn _
    obtain ⟨hi5, ec, eP⟩ := P5_get hc
    rw [ec]
    have h12 : Sub h₁ h₂ := fun b o e => hx2 b o (h0x b o e)
    have G₂ := G₁.keeps h12
    have hO2 := hO1.keeps h12
    have hN2 := hN1.keeps h12
    have rO2 : Rel (TV h₂) kO TO := rO1.mono fun _ _ _ r => r.keeps h12
    have rN2 : Rel (TV h₂) kN TN := rN1.mono fun _ _ _ r => r.keeps h12
    have htk : P5.take (i + 1) = P5.take i ++ [plc i] := by
      obtain ⟨hiP, eP'⟩ := List.getElem?_eq_some_iff.mp eP
      rw [List.take_succ_eq_append_getElem hiP, eP']
    have hvl : vs.length ≤ 5 := by
      have h1 := hvs.len
      have h3 := List.length_filter_le (isIn TO TN) (P5.take i)
      have h4 := List.length_take_le i P5
      have h5 : P5.length = 5 := rfl
      rw [List.length_map] at h1
      have : (P5.take i).length ≤ 5 := by rw [List.length_take, h5]; omega
      omega
    refine a_name Z₆ fun s₇ Z₇ => ?_
    generalize hpl : plc i = pc at *
    have hbe : ((valueAt kO pc).isSome || (valueAt kN pc).isSome) = isIn TO TN pc := by rw [isIn, rO1.some, rN1.some]
    refine s_if (b := isIn TO TN pc) Z₇ (hbe ▸ .or (.inD (EvV.name Z₇.ns (by walk_at "lk")) (EvV.name Z₇.ns (by walk_at "lk")) (hO2.keeps Z₇.keep)) fun _ => .inD (EvV.name Z₇.ns (by walk_at "lk")) (EvV.name Z₇.ns (by walk_at "lk")) (hN2.keeps Z₇.keep)) fun B' s₈ Z₈ b1 _ _ _ => ⟨fun hb => ?_, fun hb => xs_nil (b1 _ (xs_nil ?_))⟩
    · refine s_unpack2 (e_getT Z₈ hN2 rN2 (EvV.name Z₈.ns (by walk_at "lk")) (EvV.name Z₈.ns (by walk_at "lk")) fun v s₉ tv Z₉ => ?_)
      obtain ⟨tt, ta, tb, rfl, htt⟩ := tv
      refine a_unpack2 hhA Z₉ ⟨_, htt, rfl, 0, rfl⟩ fun s₁₀ Z₁₀ => ?_
      refine s_asgW (s₀ := s) (wpAny_BinOp (EvV.go (EvV.name Z₁₀.ns (by walk_at "lk")) fun s₁₁ h₁₁ r₁₁ => ?_))
      have Z₁₁ := Z₁₀.touch h₁₁ r₁₁
      refine e_getI (n := 0) Z₁₁ hO2 rO2 (EvV.name Z₁₁.ns (by walk_at "lk")) (EvV.name Z₁₁.ns (by walk_at "lk")) (by decide) fun u1 s₁₂ Z₁₂ => ?_
      refine sub_int ⟨_, _, _, Z₁₂.touch (s' := { s₁₂ with toks := s₁₂.toks + 1 }) rfl .heap, fun s₁₃ Z₁₃ => ?_⟩
      refine s_asgW (s₀ := s) (wpAny_BinOp (EvV.go (EvV.name Z₁₃.ns (by walk_at "lk")) fun s₁₄ h₁₄ r₁₄ => ?_))
      have Z₁₄ := Z₁₃.touch h₁₄ r₁₄
      refine e_getI (n := 1) Z₁₄ hO2 rO2 (EvV.name Z₁₄.ns (by walk_at "lk")) (EvV.name Z₁₄.ns (by walk_at "lk")) (by decide) fun u2 s₁₅ Z₁₅ => ?_
      refine sub_int ⟨_, _, _, Z₁₅.touch (s' := { s₁₅ with toks := s₁₅.toks + 1 }) rfl .heap, fun s₁₆ Z₁₆ => ?_⟩
      simp only [if_true, Nat.one_ne_zero, if_false] at Z₁₆
      refine s_expr (e_append (D := R) (L := L) (s₀ := s) ⟨_, _, (Z₁₆.nw _ (.head _)).1⟩ (EvV.name Z₁₆.ns (by walk_at "lk")) fun s₁₇ h₁₇ r₁₇ => ?_)
      have Z₁₇ := Z₁₆.touch h₁₇ r₁₇
      refine e_tuple Z₁₇ (.cons (EvI.abs G₂ Z₁₇.keep (EvI.name Z₁₇.ns (by walk_at "lk"))) (.cons (EvV.name Z₁₇.ns (by walk_at "lk")) (.cons (EvI.abs G₂ Z₁₇.keep (EvI.name Z₁₇.ns (by walk_at "lk"))) (.cons (EvV.name Z₁₇.ns (by walk_at "lk")) (.cons (EvV.name Z₁₇.ns (by walk_at "lk")) (.cons (EvV.name Z₁₇.ns (by walk_at "lk")) (.cons (EvV.name Z₁₇.ns (by walk_at "lk")) .nil))))))) (by decide) ?_ ?_
      · rintro _ ⟨_, _, rfl, _, _, _, rfl, _, _, _, rfl, _, _, _, rfl, _, _, _, rfl, _, _, _, rfl, _, _, _, rfl, _, rfl⟩; rfl
      rintro _ tt' s₁₈ ⟨_, _, rfl, ⟨w1, rfl⟩, _, _, rfl, rfl, _, _, rfl, ⟨w2, rfl⟩, _, _, rfl, rfl, _, _, rfl, rfl, _, _, rfl, rfl, _, _, rfl, rfl, rfl⟩ Z₁₈ n18 _
      have nR := n18 (R, listOf vs.toArray ep) (.head _)
      refine ⟨_, _, _, vs, ep, Z₁₈.swap, fun p hp => by rw [List.mem_singleton.mp hp]; exact nR.symm, by omega, fun ep' s₁₉ Z₁₉ => ⟨rfl, xs_nil (b1 _ (xs_nil ?_))⟩⟩
      refine bn [(tt', _)] [(R, listOf (vs ++ [Value.ref tt']).toArray ep')] _ s₁₉ (Z₁₉.sub fun p hp => by
        simp only [List.cons_append, List.nil_append, List.mem_cons, List.not_mem_nil, or_false] at hp ⊢
        exact hp.symm) (fun p hp q hq => ?_) fun hx' h1 h2 => .mk (vs ++ [Value.ref tt']) ep' _ hx' ?_ (by walk_at "lk") (by walk_at "lk") (by walk_at "lk")
      · rw [List.mem_singleton.mp hq, List.mem_singleton.mp hp]; exact nR.symm
      · have e : ((P5.take (i + 1)).filter (isIn TO TN)).map (rowOf TO TN) = ((P5.take i).filter (isIn TO TN)).map (rowOf TO TN) ++ [rowOf TO TN pc] := by
          rw [htk, List.filter_append, List.map_append]
          simp [hb]
        rw [e]
        exact (hvs.mono fun _ _ r => r.keeps h1).snoc ⟨tt', _, _, _, _, _, _, _, rfl, h2 _ (.head _)⟩
    · refine bn [] [(R, listOf vs.toArray ep)] _ s₈ Z₈ (fun _ h => nomatch h) fun hx' h1 h2 => .mk vs ep _ hx' ?_ (by walk_at "lk") (by walk_at "lk") (by walk_at "lk")
      have e : ((P5.take (i + 1)).filter (isIn TO TN)).map (rowOf TO TN) = ((P5.take i).filter (isIn TO TN)).map (rowOf TO TN) := by
        rw [htk, List.filter_append]
        simp [hb]
      rw [e]
      exact hvs.mono fun _ _ r => r.keeps h1
  · rintro _ _ s₆ hx E'' ⟨vs, ep, m, hx, hvs, m1, m2, m3⟩ h0x Z₆
    have e5 : P5.take (Str.ofString "abcde").cps.size = P5 := by rw [P5_size]; rfl
    rw [e5] at hvs
    have hvs' : All2 (FT hx) vs (dueRows TO TN) := hvs
    have hls : vs.length = σ.length := by rw [hvs'.len, rk.rows, List.length_map]
    have hit := rk.item hvs'
    have hvr := byRank rk.nodup hls
    have Gx := G₁.keeps h0x
    refine s_ret (callP1 (EvV.bltN (v := .builtin "sorted") Gx Z₆.keep) .blt (EvV.name Z₆.ns m1) (fun v s₇ hv h₇ r₇ => ?_) rfl)
    subst hv
    have Z₇ := Z₆.touch h₇ r₇
    have zR := (Z₇.nw _ (.head _)).1
    refine call_sortedR (σ := σ) (item := fun r => vs.getD (σ.idxOf r) .none) (ep := ep) (n := S.length) (c := 2) (by rw [show ranked (fun r => vs.getD (σ.idxOf r) .none) σ = vs.toArray by unfold ranked; rw [← hvr]]; exact zR) (by rw [rk.len]; exact h2) (by rw [rk.len]; exact h5) ok rk.keys rk.lt rk.nodup (fun r _ => by simp [keyI]) (fun r hr => ((hit r (rk.lt r hr)).keeps Z₇.keep).row) fun D ep' s₈ r₈ x₈ n₈ hD₈ => ?_
    rw [hP] at hD₈
    refine hQ _ _ (ret D _ ep' s₈ (Z₇.rest.trans r₈) (fun b o _ e => x₈.nil _ _ (Z₇.keep b o (h0x b o (hext b o (by simp) e)))) hD₈ (All2.range fun r hr => ((hit r hr).keeps Z₇.keep).keeps fun b o e => x₈.nil b o e))
end
end Mine

end
section
open PySem PySem.W PySem.Calls PyProof.Rows PySem.SeqAt
namespace Mine

section
variable {w : World} {A : Around} {E : Value → Shared → Prop} {env : Env} {h h₀ : Heap} {L : Addr} {s₀ s : Shared} {news : List (Addr × Obj)} {m : Str → Option Value} {e e₁ e₂ o : Expr} {pos pos' apos tp p1 p2 np : Pos} {D : Addr}

/-- a function as an attribute of its class -/
theorem EvV.clsFn {C f : Addr} {n name : Str} (G : Gd w h₀) (hk₀ : Sub h₀ h) (a : EvV w A env h (.Name n np) (.ref C)) (hr : readsIn (K w.params) C (.type "type") = true) (e : findCls (K w.params) (.ref C) (.type "type") name = some (.val (.ref f))) :
    EvV w A env h (.Attribute (.Name n np) name pos) (.ref f) := fun s Q E hs q => by
  subst hs
  refine Attribute_name (a s _ E rfl fun y s₁ hy h₁ r₁ => ?_)
  subst hy
  exact cls_value (G.X.keeps (fun b o e => by rw [h₁]; exact hk₀ b o e)) hr e rfl (q _ _ rfl h₁ (r₁.trans .heap))
theorem EvV.diffKey (G : Gd w h₀) (hk₀ : Sub h₀ h) (hg : env.globals = mainGlobals := by rfl) (hk : env.scope.kind = .function := by rfl) (hx : env.kindOf "StatisticDiff" = some .globalImplicit := by rfl) :
    EvV w A env h (.Attribute (.Name "StatisticDiff" np) "_sort_key" pos) (.ref 130) := EvV.clsFn (C := 134) G hk₀ (EvV.glob G hk₀ (by k_is) hg hk hx) (by k_is) (by k_is)
theorem EvV.statKey (G : Gd w h₀) (hk₀ : Sub h₀ h) (hg : env.globals = mainGlobals := by rfl) (hk : env.scope.kind = .function := by rfl) (hx : env.kindOf "Statistic" = some .globalImplicit := by rfl) :
    EvV w A env h (.Attribute (.Name "Statistic" np) "_sort_key" pos) (.ref 71) := EvV.clsFn (C := 75) G hk₀ (EvV.glob G hk₀ (by k_is) hg hk hx) (by k_is) (by k_is)
end

/-- plain values that are the same -/
inductive SameV : Value → Value → Prop
  | int (i : Int) (t u : Tok) : SameV (.int i t) (.int i u)
  | str (p : Str) (t u : Tok) : SameV (.str p t) (.str p u)
theorem SameV.eq {A : Around} {s : Shared} {x y : Value} (a : SameV x y) : EqAt A s x y true := by
  cases a with
  | int i t u => have := EqAt.int_int (A := A) (s := s) i t i u; rwa [beq_self_eq_true] at this
  | str p t u => have := (SeqRoads2.EqGives.str p p t u).at A s; rwa [beq_self_eq_true] at this
/-- tuples of plain values that are the same; or such values themselves -/
inductive ElEq (h : Heap) : Value → Value → Prop
  | val {x y : Value} : SameV x y → ElEq h x y
  | tup {t t' : Addr} {xs ys : List Value} : h.get? t = some (tupOf xs) → h.get? t' = some (tupOf ys) → xs.length = ys.length → (∀ (i : Nat) (x y : Value), xs[i]? = some x → ys[i]? = some y → SameV x y) → ElEq h (.ref t) (.ref t')
theorem all_true (n : Nat) : ((List.range n).all fun _ => true) = true := by rw [List.all_eq_true]; intro _ _; rfl
theorem ElEq.eq {A : Around} {s : Shared} {x y : Value} (a : ElEq s.heap x y) (hu : A.units < cLine) : EqAt A s x y true := by
  cases a with
  | val a => exact a.eq
  | @tup t t' xs ys h1 h2 hl hs =>
    by_cases ht : t = t'
    · subst ht; exact EqAt.same _
    · have := RcAt.tuples (e := fun _ => true) (A := A) (s := s) (l := t) (b := t') ⟨_, h1, rfl, 0, rfl⟩ ⟨_, h2, rfl, 0, rfl⟩ hu (fun j a b => by
        have a' : j < xs.length := by simpa using a
        have b' : j < ys.length := by simpa using b
        simpa using (hs j xs[j] ys[j] (by simp [a']) (by simp [b'])).eq)
      refine .of_refs ht ?_
      simpa [hl, all_true] using this

section
variable {w : World} {A : Around} {E : Value → Shared → Prop} {s : Shared} {l b : Addr} {vs us : List Value} {ep ep' : Nat} {Q : Value → Shared → Prop}
theorem lists_ne (hl : s.heap.get? l = some (listOf vs.toArray ep)) (hb : s.heap.get? b = some (listOf us.toArray ep')) (hz : vs.length = us.length) (hs : ∀ (i : Nat) x y, vs[i]? = some x → us[i]? = some y → ElEq s.heap x y) (hu : A.units + 2 < cLine) (q : Q (.bool false) s) :
    wpAny (MM w) A (compareOp .NotEq (.ref l) (.ref b)) Q E s := by
  have := RcNeAt.lists (e := fun _ => true) (A := A) (s := s) (l := l) (b := b) ⟨_, hl, rfl, ep, rfl⟩ ⟨_, hb, rfl, ep', rfl⟩ (by simpa using hz) (by omega) (fun j a b => by
    have a' : j < vs.length := by simpa using a
    have b' : j < us.length := by simpa using b
    simpa using (hs j vs[j] us[j] (by simp [a']) (by simp [b'])).eq (A := A.in1) (by show A.units + 1 < _; omega))
  exact this PR w E Q (by simpa [all_true] using q)
theorem lists_eq (hl : s.heap.get? l = some (listOf vs.toArray ep)) (hb : s.heap.get? b = some (listOf us.toArray ep')) (hz : vs.length = us.length) (hs : ∀ (i : Nat) x y, vs[i]? = some x → us[i]? = some y → ElEq s.heap x y) (hu : A.units + 2 < cLine) (q : Q (.bool true) s) :
    wpAny (MM w) A (compareOp .Eq (.ref l) (.ref b)) Q E s := by
  have := RcAt.lists (e := fun _ => true) (A := A) (s := s) (l := l) (b := b) ⟨_, hl, rfl, ep, rfl⟩ ⟨_, hb, rfl, ep', rfl⟩ (by simpa using hz) (by omega) (fun j a b => by
    have a' : j < vs.length := by simpa using a
    have b' : j < us.length := by simpa using b
    simpa using (hs j vs[j] us[j] (by simp [a']) (by simp [b'])).eq (A := A.in1) (by show A.units + 1 < _; omega))
  exact this PR w E Q (by simpa [all_true] using q)
end

theorem FT.el {h : Heap} {v v' : Value} {r : Row} (a : FT h v r) (b : FT h v' r) : ElEq h v v' := by
  obtain ⟨t, t1, t2, t3, t4, t5, t6, t7, rfl, e2⟩ := a
  obtain ⟨u, u1, u2, u3, u4, u5, u6, u7, rfl, f2⟩ := b
  refine .tup e2 f2 rfl fun i x y hx hy => ?_
  match i with
  | 0 => cases hx; cases hy; exact .int _ _ _
  | 1 => cases hx; cases hy; exact .int _ _ _
  | 2 => cases hx; cases hy; exact .int _ _ _
  | 3 => cases hx; cases hy; exact .int _ _ _
  | 4 => cases hx; cases hy; exact .str _ _ _
  | 5 => cases hx; cases hy; exact .int _ _ _
  | 6 => cases hx; cases hy; exact .int _ _ _
  | n + 7 => cases hx
theorem All2.els {β : Type} {R R' : Value → β → Prop} {h : Heap} {vs us : List Value} {bs : List β} (a : All2 R vs bs) (b : All2 R' us bs) (f : ∀ v v' r, R v r → R' v' r → ElEq h v v') : vs.length = us.length ∧ ∀ (i : Nat) x y, vs[i]? = some x → us[i]? = some y → ElEq h x y := by
  refine ⟨a.len.trans b.len.symm, ?_⟩
  induction a generalizing us with
  | nil => intro i x y hx; simp at hx
  | cons r _ ih =>
    cases b with
    | cons r' b' =>
      intro i x y hx hy
      cases i with
      | zero => simp at hx hy; subst hx hy; exact f _ _ _ r r'
      | succ i => exact ih b' i x y (by simpa using hx) (by simpa using hy)
end Mine

end
section
open PySem PySem.W PySem.Calls PyProof.Rows PySem.SeqAt
namespace Mine

abbrev noRow : Row := ⟨⟨#[]⟩, 0, 0, 0, 0⟩

section
variable {w : World} {A : Around} {E : Value → Shared → Prop} {env : Env} {h h₀ : Heap} {L : Addr} {s₀ s : Shared} {news : List (Addr × Obj)} {m : Str → Option Value} {e e₁ e₂ o : Expr} {pos sp up cp : Pos} {kc : Nat} {D : Addr}

/-- «x[::-1]» of a list, whatever makes x -/
theorem e_rev {Q : Value → Shared → Prop} (h : wpAny (MM w) A (eval e env) (fun v s₁ => ∃ D its h₁ news' m', v = .ref D ∧ s₁.heap.IsList D its ∧ its.size ≤ 1000 ∧ Fm h₁ L s₀ news' m' s₁ ∧
      ∀ t s', Fm h₁ L s₀ ((t, listOf its.toList.reverse.toArray 0) :: news') m' s' → (∀ p ∈ news', p.1 ≠ t) → Sub s₁.heap s'.heap → Q (.ref t) s') E s) :
    wpAny (MM w) A (eval (.Subscript e (.Slice none none (some (.UnaryOp .USub (.Constant (.int 1) kc cp) up)) sp) pos) env) Q E s := by
  refine Subscript_ (wpAny_mono h (fun v s₁ h₁ => ?_) fun _ _ e => e)
  obtain ⟨D, its, hb, news', m', rfl, hD, hsz, Z, q⟩ := h₁
  refine wpAny_Slice (wpAny_pure (wpAny_pure ?_))
  rw [evalPart_some]
  refine (EvI.neg EvI.const).go fun y s₂ hy h₂ r₂ => ?_
  obtain ⟨u, rfl⟩ := hy
  have Z₂ := Z.touch h₂ r₂
  obtain ⟨Z₃, n3⟩ := Z₂.new (ob := { cls := .type "slice", data := .fields #[.none, .none, .int (-1) u] }) (tk := s₂.toks)
  have hl : Heap.IsList (s₂.heap.push { cls := .type "slice", data := .fields #[.none, .none, .int (-1) u] }) D its := (show s₂.heap.IsList D its from h₂ ▸ hD).push _
  refine tail_any (ops := [.ref D, .ref s₂.heap.objs.size]) (Heap.IsList.typeIs (s := { s₂ with heap := s₂.heap.push { cls := .type "slice", data := .fields #[.none, .none, .int (-1) u] } }) hl) list_getitem_lookup
    (wpAny_getItem_list_slice hl (Heap.IsSliceOf.new ..) .none .none (.int _ _) (by decide) ?_ (by rw [sizeLine_eq]; omega)) (by with_unfolding_all rfl)
  rw [krv_pick]
  obtain ⟨Z₄, n4⟩ := Z₃.new (ob := listOf its.toList.reverse.toArray 0) (tk := s₂.toks)
  refine q _ _ (Z₄.sub fun p hp => ?_) (fun p hp => n4 p (.tail _ hp)) ?_
  · rcases List.mem_cons.mp hp with rfl | hp
    · exact .head _
    · exact .tail _ (.tail _ hp)
  · exact fun b o e => Heap.get?_push_of_some _ (Heap.get?_push_of_some _ (show s₂.heap.get? b = some o by rw [h₂]; exact e))
/-- «x[:n]» of a list; all stays -/
theorem e_uptoS {Q : Value → Shared → Prop} (h : wpAny (MM w) A (eval e env) (fun v s₁ => ∃ D its n h₁ news' m', v = .ref D ∧ s₁.heap.IsList D its ∧ its.size ≤ 1000 ∧ Fm h₁ L s₀ news' m' s₁ ∧ EvI w A env s₁.heap e₂ ((n : Nat) : Int) ∧
      ∀ t s', Fm h₁ L s₀ ((t, listOf (its.toList.take n).toArray 0) :: news') m' s' → (∀ p ∈ news', p.1 ≠ t) → Sub s₁.heap s'.heap → Q (.ref t) s') E s) :
    wpAny (MM w) A (eval (.Subscript e (.Slice none (some e₂) none sp) pos) env) Q E s := by
  refine Subscript_ (wpAny_mono h (fun v s₁ h₁ => ?_) fun _ _ e => e)
  obtain ⟨D, its, n, hb, news', m', rfl, hD, hsz, Z, b, q⟩ := h₁
  refine wpAny_Slice (wpAny_pure ?_)
  rw [evalPart_some]
  refine b s₁ _ E rfl fun y s₂ hy h₂ r₂ => ?_
  obtain ⟨u, rfl⟩ := hy
  refine wpAny_pure ?_
  have Z₂ := Z.touch h₂ r₂
  obtain ⟨Z₃, n3⟩ := Z₂.new (ob := { cls := .type "slice", data := .fields #[.none, .int (n : Int) u, .none] }) (tk := s₂.toks)
  have hl : Heap.IsList (s₂.heap.push { cls := .type "slice", data := .fields #[.none, .int (n : Int) u, .none] }) D its := (show s₂.heap.IsList D its from h₂ ▸ hD).push _
  refine tail_any (ops := [.ref s₂.heap.objs.size, .ref D]) (Heap.IsList.typeIs (s := { s₂ with heap := s₂.heap.push { cls := .type "slice", data := .fields #[.none, .int (n : Int) u, .none] } }) hl) list_getitem_lookup
    (wpAny_getItem_list_slice hl (Heap.IsSliceOf.new ..) .none (.int _ _) .none (by simp) ?_ (by rw [sizeLine_eq]; omega)) (by with_unfolding_all rfl)
  rw [slicePick_upto']
  obtain ⟨Z₄, n4⟩ := Z₃.new (ob := listOf (its.toList.take n).toArray 0) (tk := s₂.toks)
  refine q _ _ (Z₄.sub fun p hp => ?_) (fun p hp => n4 p (.tail _ hp)) ?_
  · rcases List.mem_cons.mp hp with rfl | hp
    · exact .head _
    · exact .tail _ (.tail _ hp)
  · exact fun b o e => Heap.get?_push_of_some _ (Heap.get?_push_of_some _ (show s₂.heap.get? b = some o by rw [h₂]; exact e))

variable {ev : Nat → Value} {S : List Row} {scope : Scope} {iter : Expr} {p0 p1 p2 p3 : Pos}
/-- «[_law_fields(one) for one in x]» -/
theorem e_fields {Q : Value → Shared → Prop} (G : Gd w h₀) (hh : A.handled = none) (hroom : A.depth < recursionLimit) (dv : ∀ r, r < S.length → DV h₀ (ev r) (S.getD r noRow))
    (h : wpAny (MM w) A (eval iter env) (fun v s₁ => ∃ D rs ep, v = .ref D ∧ s₁.heap.get? D = some (listOf (ranked ev rs) ep) ∧ rs.length ≤ 8 ∧ (∀ r ∈ rs, r < S.length) ∧ Sub h₀ s₁.heap ∧
      ∀ R ys ep' s', Rest s₁ s' → Sub s₁.heap s'.heap → s'.heap.get? R = some (listOf ys.toArray ep') → All2 (FT s'.heap) ys (rs.map fun r => S.getD r noRow) → Q (.ref R) s') E s)
    (hclos : closureFor scope env = pure [] := by rfl) (hkind : scope.kind = .function := by rfl) (hnames : ∀ y ∈ scope.names, y.2 = .local → scope.names.lookup y.1 = some .local := by decide) (hcell : ∀ y ∈ scope.names, y.2 ≠ .cell := by decide)
    (hs : ∀ x, foldedSetIterable iter env x = pure x := by intro _; rfl) (hg : env.globals = mainGlobals := by rfl) (l1 : scope.names.lookup (Str.ofString "one") = some .local := by rfl) (l2 : (relabel scope env).names.lookup (Str.ofString "_law_fields") = some .globalImplicit := by rfl) :
    wpAny (MM w) A (eval (.ListComp (.Call (.Name "_law_fields" p0) [.Name "one" p1] [] p2) [⟨.Name "one" p3, iter, [], 0⟩] scope pos) env) Q E s := by
  refine e_comp (cl := []) (wpAny_mono h (fun v s₁ h₁ => ?_) fun _ _ e => e) hclos hkind hnames hs
  obtain ⟨D, rs, ep, rfl, hD, h8, hlt, hsub, cont⟩ := h₁
  have hDl : s₁.heap.IsList D (ranked ev rs) := ⟨_, hD, rfl, ep, rfl⟩
  refine wpAny_pyIter_list hDl ?_
  have hltD : D < s₁.heap.objs.size := Heap.lt_size hD
  have hmm : ∀ i, i < rs.length → rs.getD i 0 ∈ rs := fun i hi => by simp [hi]
  have hget : ∀ (i : Nat) (v : Value), (ranked ev rs)[i]? = some v → i < rs.length ∧ v = ev (rs.getD i 0) := fun i v e => by
    have hi : i < rs.length := by have := (Array.getElem?_eq_some_iff.mp e).1; simpa using this
    rw [ranked_get hi] at e
    exact ⟨hi, (Option.some.inj e).symm⟩
  have W := Walks.list (prog := PR) (w := w) (A := A) hh s₁.heap.objs.size D (Nat.ne_of_lt hltD) (ranked ev rs)
  have hnI : ∀ b o, s₁.heap.get? b = some o → b ∉ [s₁.heap.objs.size] := fun b o e q => by rw [List.mem_singleton.mp q] at e; exact Nat.lt_irrefl _ (Heap.lt_size e)
  refine comp_loop (Trn.ofWalks W ?_) ⟨⟨_, Heap.get?_push_size _ rfl, rfl, rfl⟩, ⟨_, Heap.get?_push_of_some _ hD, rfl, ep, rfl⟩⟩ (by rw [sizeR]; omega) (fun i ys hx => All2 (FT hx) ys ((rs.take i).map fun r => S.getD r noRow)) (fun _ => by rw [List.take_zero]; exact .nil) ?_ ?_ (fun i ys _ e => by rw [e.len, List.length_map, List.length_take]; omega) hcell hkind
  · intro i h st b hb
    simp only [List.mem_cons, List.not_mem_nil, or_false] at hb
    rcases hb with rfl | rfl
    · obtain ⟨o, e, _⟩ := st.1; exact ⟨o, e⟩
    · obtain ⟨o, e, _⟩ := st.2; exact ⟨o, e⟩
  · intro i v ys C hb hx s₂ m₂ E' hi' hP hJ hxb hsx Z₂
    obtain ⟨hi, rfl⟩ := hget i v hP
    have h0x : Sub h₀ hx := fun b o e => hsx b o (hnI b o (hsub b o e)) (Heap.get?_push_of_some _ (hsub b o e))
    have G₂ := G.keeps fun b o e => hxb b o (h0x b o e)
    refine a_name Z₂ (fun s₃ Z₃ => ?_) rfl hkind (lookup_relabel_local l1)
    refine callP1 (EvV.glob G₂ Z₃.keep (by k_is) hg hkind l2) (.K G₂ Z₃.keep (by k_is)) (EvV.name Z₃.ns upd_same rfl hkind (lookup_relabel_local l1)) (fun v s₄ hv h₄ r₄ => ?_) rfl
    subst hv
    have Z₄ := Z₃.touch h₄ r₄
    refine fields_spec (h₀ := hb) G₂ ((dv _ (hlt _ (hmm i hi))).keeps fun b o e => hxb b o (h0x b o e)) Z₄.keep hroom fun k s₅ r₅ x₅ n₅ ⟨us, e₅⟩ ft => ?_
    obtain ⟨Z₅, _⟩ := Z₄.got r₅ x₅ n₅ e₅
    refine ⟨_, _, Z₅, fun hx' hxx hnw => ?_⟩
    rw [List.take_succ_eq_append_getElem hi, List.map_append]
    have hgd : rs[i] = rs.getD i 0 := by simp [hi]
    refine (hJ.mono fun _ _ r => r.keeps hxx).snoc ?_
    rw [hgd]
    obtain ⟨t, t1, t2, t3, t4, t5, t6, t7, ev', hg⟩ := ft
    cases ev'
    refine ⟨k, t1, t2, t3, t4, t5, t6, t7, rfl, ?_⟩
    rw [e₅] at hg
    rw [hnw _ (.head _), ← hg]
  · intro R ys hx ep' s' hR0 hR hJ hxs hxR hsx r' _
    have e : rs.take (ranked ev rs).size = rs := by rw [sizeR, List.take_length]
    rw [e] at hJ
    exact cont R ys ep' s' (Rest.trans .heap r') (fun b o e => hxs b o (hsx b o (hnI b o e) (Heap.get?_push_of_some _ e))) hR (hJ.mono fun _ _ r => r.keeps hxs)
end
end Mine

end
section
open PySem PySem.W PySem.Calls PyProof.Rows PySem.SeqAt
namespace Mine

abbrev eFw (L : Addr) : Env := envOf (Str.ofString "_law_few") (scp (st 22)) L 256 (.ref 255)

/-- what _law_few is handed: the differences by rank, their rows, the order they come in -/
structure Few (w : World) (h₀ : Heap) (ev : Nat → Value) (S : List Row) (ρ : List Nat) (us : List Value) (T U : Addr) (eT eU : Nat) (N : Int) : Prop where
  kc : KC w h₀ 130 S.length ev (fun r => keyI (S.getD r noRow)) (fun r => (S.getD r noRow).p)
  dv : ∀ r, r < S.length → DV h₀ (ev r) (S.getD r noRow)
  told : h₀.get? T = some (listOf (ρ.map ev).toArray eT)
  due : h₀.get? U = some (listOf us.toArray eU)
  ft : All2 (FT h₀) us S
  perm : ρ.Perm (List.range S.length)
  h2 : 2 ≤ S.length
  h5 : S.length ≤ 5
  wish : N ∈ wishes

theorem wish_bd {N : Int} (h : N ∈ wishes) : -10 ≤ N ∧ N ≤ 10 := by
  simp only [wishes, List.mem_cons, List.not_mem_nil, or_false] at h
  omega
theorem All2.take {β : Type} {R : Value → β → Prop} {vs : List Value} {bs : List β} (a : All2 R vs bs) : ∀ k, All2 R (vs.take k) (bs.take k) := by
  induction a with
  | nil => intro k; simp; exact .nil
  | cons r _ ih =>
    intro k
    cases k with
    | zero => exact .nil
    | succ k => exact .cons r (ih k)
theorem All2.reverse {β : Type} {R : Value → β → Prop} {vs : List Value} {bs : List β} (a : All2 R vs bs) : All2 R vs.reverse bs.reverse := by
  induction a with
  | nil => exact .nil
  | cons r _ ih => rw [List.reverse_cons, List.reverse_cons]; exact ih.snoc r
theorem rangeS {S : List Row} : (List.range S.length).map (fun r => S.getD r noRow) = S := by
  apply List.ext_getElem
  · simp
  · intro i h1 h2
    simp at h1
    simp [h1]
theorem OutF.mem {h : Heap} : ∀ {l : List Env}, OutF h l → ∀ b ∈ l.filterMap (·.frame), ∃ o, h.get? b = some o ∧ ∀ vs, o.data ≠ .fields vs
  | [], _, b, hb => by simp at hb
  | env :: rest, ⟨_, ⟨L, o, hf, ho, hd⟩, r⟩, b, hb => by
    rw [List.filterMap_cons, hf] at hb
    rcases List.mem_cons.mp hb with rfl | hb
    · exact ⟨o, ho, hd⟩
    · exact r.mem b hb
theorem OutF.extF {h h' : Heap} {F : List Addr} {l : List Env} (a : OutF h l) (x : ExtF F h h') : OutF h' l := a.mono fun b o e n => let ⟨sl, e'⟩ := x.slots b o e n; ⟨_, e', rfl⟩

section
variable {w : World} {A : Around} {E : Value → Shared → Prop} {h₀ hb : Heap} {L T U : Addr} {s₀ s : Shared} {M : Str → Option Value} {ev : Nat → Value} {S : List Row} {ρ : List Nat} {us : List Value} {eT eU : Nat} {N : Int} {V : Value} {mu kp : List (Addr × Obj)} {en : Prop} {outer : List Env} {t tm : Tok} {B : Flow → Shared → Prop}

set_option maxHeartbeats 8000000 in
theorem few_turn1 (W : Few w h₀ ev S ρ us T U eT eU N) (G : Gd w h₀) (hsub : Sub h₀ hb) (Z : Fm hb L s₀ (mu ++ kp) M s) (hh : A.handled = none) (hroom : A.depth + 30 < recursionLimit) (hu : A.units + 400 < cLine) (hfr : A.frames = some (eFw L :: outer)) (hOb : OutF hb outer) (hF0 : ∀ b ∈ outer.filterMap (·.frame), h₀.get? b = none)
    (hkm : ∀ p ∈ kp, p.1 ∉ mu.map (·.1)) (Sr : Src w h₀ mu V (ρ.map ev) en) (kind : (mu = [] ∧ CollIs w h₀ V (ρ.map ev) ∧ LenIs w h₀ V (ρ.map ev).length) ∨ (∃ I l, V = .ref I ∧ mu = [(I, liOb l)] ∧ en))
    (m1 : M "wish" = some (.int N t)) (m2 : M "each" = some V) (m3 : M "due" = some (.ref U)) (m4 : M "many" = some (.int (N.toNat : Int) tm))
    (bn : ∀ hb' s', Fm hb' L s₀ kp M s' → ExtF (outer.filterMap (·.frame)) hb hb' → B .next s') :
    wpAny (MM w) A (execs (forB (pick (txt (st 22)) 1)) (eFw L)) B E s := by
  have hrl : ρ.length = S.length := by simpa using W.perm.length_eq
  obtain ⟨⟨g1, g2⟩, g3⟩ := good_of W.h2 W.h5 W.perm
  have hO : OutF s.heap outer := hOb.mono fun b o e _ => ⟨o, Z.keep b o e, rfl⟩
  have hkF : ∀ p ∈ mu ++ kp, p.1 ∉ outer.filterMap (·.frame) := fun p hp hm => by
    obtain ⟨o, e, _⟩ := hOb.mem _ hm
    rw [(Z.nw p hp).2.2] at e; cases e
  have hsubh : Sub h₀ (hideAll hb (outer.filterMap (·.frame))) := fun b o e => hideAll_get _ (hsub b o e) (fun h => by rw [hF0 b h] at e; cases e)
  have G' := G.keeps hsub
  have Gh := G.keeps hsubh
  refine xs_cons (wpAny_If (wpAny_isTrue_Compare1 (e_fields (S := S) (ev := ev) G hh (by omega) W.dv (callK (EvV.glob G' Z.keep (by k_is)) (fun s₁ h₁ r₁ => wpAny_items_cons ?_ rfl) rfl rfl rfl) rfl)))
  have Z₁ := Z.touch h₁ r₁
  refine EvV.go (EvV.name Z₁.ns m1) fun s₂ h₂ r₂ => wpAny_items_cons ?_ rfl
  have Z₂ := Z₁.touch h₂ r₂
  refine EvV.go (EvV.name Z₂.ns m2) fun s₃ h₃ r₃ => wpAny_items_nil ?_
  have Z₃ := Z₂.touch h₃ r₃
  refine kwAll_cons (EvV.go (EvV.diffKey G' Z₃.keep) fun s₄ h₄ r₄ => kwAll_nil ⟨.K G' (h₄ ▸ Z₃.keep) (by k_is), ?_⟩)
  have Z₄ := Z₃.touch h₄ r₄
  have hs4 : s₄.heap = s.heap := h₄.trans (h₃.trans (h₂.trans h₁))
  have hLo : ∃ oL, s₄.heap.get? L = some oL ∧ ∀ vs, oL.data ≠ .fields vs := by
    obtain ⟨oL, es, ep, hL, hd, _⟩ := Z₄.ns
    exact ⟨oL, hL, fun vs q => by rw [hd] at q; cases q⟩
  obtain ⟨oL, hL, hLd⟩ := hLo
  have hO4 : OutF s₄.heap (eFw L :: outer) := ⟨(by intro q; cases q), ⟨L, oL, rfl, hL, hLd⟩, hs4 ▸ hO⟩
  have hFl : (eFw L :: outer).filterMap (·.frame) = L :: outer.filterMap (·.frame) := by rw [List.filterMap_cons]; rfl
  have h0b : ∀ b, hb.get? b = none → h₀.get? b = none := fun b e => by
    cases q : h₀.get? b with
    | none => rfl
    | some o => rw [hsub _ _ q] at e; cases e
  show wpAny (MM w) A (call (.ref 217) [.int N t, V] [("key", .ref 130)]) _ _ _
  refine nsmallest_spec (mu := mu) G (fun b o e => Z₄.keep b o (hsub b o e)) (fun p hp => ⟨(Z₄.nw p (List.mem_append_left _ hp)).1, h0b _ (Z₄.nw p (List.mem_append_left _ hp)).2.2⟩) (by omega) (by omega) hh Sr kind W.kc rfl (W.perm.nodup_iff.mpr List.nodup_range) (fun r hr => by simpa using W.perm.mem_iff.mp hr) (by have := W.h5; omega) (by have := W.h2; omega) (W.perm.mem_iff.mpr (by have := W.h2; simp; omega)) (wish_bd W.wish) (by rw [hrl]; exact (g3 N W.wish).1) hfr hO4 ?_ ?_ ?_
  · intro b hb'
    rw [hFl] at hb'
    rcases List.mem_cons.mp hb' with rfl | hb'
    · exact h0b _ Z₄.off
    · exact hF0 b hb'
  · intro p hp
    rw [hFl]
    intro hm
    rcases List.mem_cons.mp hm with h | h
    · exact (Z₄.nw p (List.mem_append_left _ hp)).2.1 h
    · exact hkF p (List.mem_append_left _ hp) h
  intro D ep s₅ r₅ x₅ hD
  rw [hFl] at x₅
  rw [hrl] at hD
  have Z₅ : Fm (hideAll hb (outer.filterMap (·.frame))) L s₀ kp M s₅ := ((Z₄.sub fun p hp => List.mem_append_right _ hp).base fun b o e => of_hideAll _ e).extF r₅ x₅ (fun b hb' => by
    rcases List.mem_append.mp hb' with h | h
    · obtain ⟨p, hp, rfl⟩ := List.mem_map.mp h
      cases q : (hideAll hb (outer.filterMap (·.frame))).get? p.1 with
      | none => rfl
      | some o => have := (Z₄.nw p (List.mem_append_left _ hp)).2.2; rw [of_hideAll _ q] at this; cases this
    · rcases List.mem_cons.mp h with rfl | h
      · cases q : (hideAll hb (outer.filterMap (·.frame))).get? b with
        | none => rfl
        | some o => have := Z₄.off; rw [of_hideAll _ q] at this; cases this
      · exact hideAll_none _ h) (fun p hp hm => by
    rcases List.mem_append.mp hm with h | h
    · exact hkm p hp h
    · rcases List.mem_cons.mp h with h | h
      · exact (Z₄.nw p (List.mem_append_right _ hp)).2.1 h
      · exact hkF p (List.mem_append_right _ hp) h)
  refine ⟨D, _, ep, rfl, hD, ?_, ?_, fun b o e => Z₅.keep b o (hsubh b o e), fun R ys ep' s₆ r₆ u₆ hR hys => ?_⟩
  · rw [List.length_take, List.length_range]; have := W.h5; omega
  · intro r hr; simpa using List.mem_of_mem_take hr
  have Z₆ := Z₅.ext0 r₆ fun b o _ e => u₆ b o e
  refine e_uptoS (L := L) (s₀ := s₀) (EvV.go (EvV.name Z₆.ns m3) fun s₇ h₇ r₇ => ?_)
  have Z₇ := Z₆.touch h₇ r₇
  have hus : us.length = S.length := W.ft.len
  refine ⟨U, us.toArray, N.toNat, _, _, _, rfl, ⟨_, Z₇.keep _ _ (hsubh _ _ W.due), rfl, eU, rfl⟩, by simp; have := W.h5; omega, Z₇, EvI.name Z₇.ns m4, fun t' s₈ Z₈ n₈ u₈ => ?_⟩
  have u68 : Sub s₆.heap s₈.heap := fun b o e => u₈ b o (by rw [h₇]; exact e)
  have hft : All2 (FT s₈.heap) (us.take N.toNat) (S.take N.toNat) := (W.ft.take _).mono fun _ _ r => r.keeps fun b o e => Z₈.keep b o (hsubh b o e)
  have hrows : ((List.range S.length).take N.toNat).map (fun r => S.getD r noRow) = S.take N.toNat := by rw [List.map_take, rangeS]
  rw [hrows] at hys
  obtain ⟨hz, hel⟩ := All2.els (hys.mono fun _ _ r => r.keeps u68) hft fun _ _ _ a b => FT.el a b
  refine lists_ne (vs := ys) (us := us.take N.toNat) (u68 _ _ hR) (by have := (Z₈.nw _ (.head _)).1; simpa using this) hz hel (by omega) (wpAny_truthy_bool ?_)
  simp only [Bool.false_eq_true, if_false]
  obtain ⟨hb', st', x', Z₉⟩ := (show Fm (hideAll hb (outer.filterMap (·.frame))) L s₀ kp M s₈ from Z₈.sub fun p hp => .tail _ hp).rebase
  refine xs_nil (xs_nil (bn hb' s₈ Z₉ ⟨fun b o hn e => st' b o (hideAll_get _ e hn), fun b o e hn => ?_⟩))
  obtain ⟨sl, e5⟩ := x₅.slots b o (Z₄.keep b o e) hn
  refine ⟨sl, x' b _ (fun hm => ?_) (u68 _ _ (u₆ _ _ e5))⟩
  rcases List.mem_cons.mp hm with rfl | hm
  · rw [Z₄.off] at e; cases e
  · obtain ⟨p, hp, rfl⟩ := List.mem_map.mp hm
    rw [(Z₄.nw p (List.mem_append_right _ hp)).2.2] at e; cases e
end
end Mine

end
section
open PySem PySem.W PySem.Calls PyProof.Rows PySem.SeqAt
namespace Mine

section
variable {w : World} {A : Around} {E : Value → Shared → Prop} {h₀ hb : Heap} {L T U : Addr} {s₀ s : Shared} {M : Str → Option Value} {ev : Nat → Value} {S : List Row} {ρ : List Nat} {us : List Value} {eT eU : Nat} {N : Int} {V : Value} {mu kp : List (Addr × Obj)} {en : Prop} {outer : List Env} {t tm : Tok} {B : Flow → Shared → Prop}

set_option maxHeartbeats 8000000 in
theorem few_turn2 (W : Few w h₀ ev S ρ us T U eT eU N) (G : Gd w h₀) (hsub : Sub h₀ hb) (Z : Fm hb L s₀ (mu ++ kp) M s) (hh : A.handled = none) (hroom : A.depth + 30 < recursionLimit) (hu : A.units + 400 < cLine) (hfr : A.frames = some (eFw L :: outer)) (hOb : OutF hb outer) (hF0 : ∀ b ∈ outer.filterMap (·.frame), h₀.get? b = none)
    (hkm : ∀ p ∈ kp, p.1 ∉ mu.map (·.1)) (Sr : Src w h₀ mu V (ρ.map ev) en) (kind : (mu = [] ∧ CollIs w h₀ V (ρ.map ev) ∧ LenIs w h₀ V (ρ.map ev).length) ∨ (∃ I l, V = .ref I ∧ mu = [(I, liOb l)] ∧ en))
    (m1 : M "wish" = some (.int N t)) (m2 : M "each" = some V) (m3 : M "due" = some (.ref U)) (m4 : M "many" = some (.int (N.toNat : Int) tm))
    (bn : ∀ hb' s', Fm hb' L s₀ kp M s' → ExtF (outer.filterMap (·.frame)) hb hb' → B .next s') :
    wpAny (MM w) A (execs (forB (pick (txt (st 22)) 2)) (eFw L)) B E s := by
  have hrl : ρ.length = S.length := by simpa using W.perm.length_eq
  obtain ⟨⟨g1, g2⟩, g3⟩ := good_of W.h2 W.h5 W.perm
  have hO : OutF s.heap outer := hOb.mono fun b o e _ => ⟨o, Z.keep b o e, rfl⟩
  have hkF : ∀ p ∈ mu ++ kp, p.1 ∉ outer.filterMap (·.frame) := fun p hp hm => by
    obtain ⟨o, e, _⟩ := hOb.mem _ hm
    rw [(Z.nw p hp).2.2] at e; cases e
  have hsubh : Sub h₀ (hideAll hb (outer.filterMap (·.frame))) := fun b o e => hideAll_get _ (hsub b o e) (fun h => by rw [hF0 b h] at e; cases e)
  have G' := G.keeps hsub
  have Gh := G.keeps hsubh
  refine xs_cons (wpAny_If (wpAny_isTrue_Compare1 (e_fields (S := S) (ev := ev) G hh (by omega) W.dv (callK (EvV.glob G' Z.keep (by k_is)) (fun s₁ h₁ r₁ => wpAny_items_cons ?_ rfl) rfl rfl rfl) rfl)))
  have Z₁ := Z.touch h₁ r₁
  refine EvV.go (EvV.name Z₁.ns m1) fun s₂ h₂ r₂ => wpAny_items_cons ?_ rfl
  have Z₂ := Z₁.touch h₂ r₂
  refine EvV.go (EvV.name Z₂.ns m2) fun s₃ h₃ r₃ => wpAny_items_nil ?_
  have Z₃ := Z₂.touch h₃ r₃
  refine kwAll_cons (EvV.go (EvV.diffKey G' Z₃.keep) fun s₄ h₄ r₄ => kwAll_nil ⟨.K G' (h₄ ▸ Z₃.keep) (by k_is), ?_⟩)
  have Z₄ := Z₃.touch h₄ r₄
  have hs4 : s₄.heap = s.heap := h₄.trans (h₃.trans (h₂.trans h₁))
  have hLo : ∃ oL, s₄.heap.get? L = some oL ∧ ∀ vs, oL.data ≠ .fields vs := by
    obtain ⟨oL, es, ep, hL, hd, _⟩ := Z₄.ns
    exact ⟨oL, hL, fun vs q => by rw [hd] at q; cases q⟩
  obtain ⟨oL, hL, hLd⟩ := hLo
  have hO4 : OutF s₄.heap (eFw L :: outer) := ⟨(by intro q; cases q), ⟨L, oL, rfl, hL, hLd⟩, hs4 ▸ hO⟩
  have hFl : (eFw L :: outer).filterMap (·.frame) = L :: outer.filterMap (·.frame) := by rw [List.filterMap_cons]; rfl
  have h0b : ∀ b, hb.get? b = none → h₀.get? b = none := fun b e => by
    cases q : h₀.get? b with
    | none => rfl
    | some o => rw [hsub _ _ q] at e; cases e
  show wpAny (MM w) A (call (.ref 223) [.int N t, V] [("key", .ref 130)]) _ _ _
  refine nlargest_spec (mu := mu) G (fun b o e => Z₄.keep b o (hsub b o e)) (fun p hp => ⟨(Z₄.nw p (List.mem_append_left _ hp)).1, h0b _ (Z₄.nw p (List.mem_append_left _ hp)).2.2⟩) (by omega) (by omega) hh Sr kind W.kc rfl (W.perm.nodup_iff.mpr List.nodup_range) (fun r hr => by simpa using W.perm.mem_iff.mp hr) (by have := W.h5; omega) (by have := W.h2; omega) (W.perm.mem_iff.mpr (by have := W.h2; simp; omega)) hrl.symm (wish_bd W.wish) (by rw [hrl]; exact (g3 N W.wish).2) hfr hO4 ?_ ?_ ?_
  · intro b hb'
    rw [hFl] at hb'
    rcases List.mem_cons.mp hb' with rfl | hb'
    · exact h0b _ Z₄.off
    · exact hF0 b hb'
  · intro p hp
    rw [hFl]
    intro hm
    rcases List.mem_cons.mp hm with h | h
    · exact (Z₄.nw p (List.mem_append_left _ hp)).2.1 h
    · exact hkF p (List.mem_append_left _ hp) h
  intro D ep s₅ r₅ x₅ hD
  rw [hFl] at x₅
  rw [hrl] at hD
  have Z₅ : Fm (hideAll hb (outer.filterMap (·.frame))) L s₀ kp M s₅ := ((Z₄.sub fun p hp => List.mem_append_right _ hp).base fun b o e => of_hideAll _ e).extF r₅ x₅ (fun b hb' => by
    rcases List.mem_append.mp hb' with h | h
    · obtain ⟨p, hp, rfl⟩ := List.mem_map.mp h
      cases q : (hideAll hb (outer.filterMap (·.frame))).get? p.1 with
      | none => rfl
      | some o => have := (Z₄.nw p (List.mem_append_left _ hp)).2.2; rw [of_hideAll _ q] at this; cases this
    · rcases List.mem_cons.mp h with rfl | h
      · cases q : (hideAll hb (outer.filterMap (·.frame))).get? b with
        | none => rfl
        | some o => have := Z₄.off; rw [of_hideAll _ q] at this; cases this
      · exact hideAll_none _ h) (fun p hp hm => by
    rcases List.mem_append.mp hm with h | h
    · exact hkm p hp h
    · rcases List.mem_cons.mp h with h | h
      · exact (Z₄.nw p (List.mem_append_right _ hp)).2.1 h
      · exact hkF p (List.mem_append_right _ hp) h)
  refine ⟨D, _, ep, rfl, hD, ?_, ?_, fun b o e => Z₅.keep b o (hsubh b o e), fun R ys ep' s₆ r₆ u₆ hR hys => ?_⟩
  · rw [List.length_take, List.length_reverse, List.length_range]; have := W.h5; omega
  · intro r hr; simpa using List.mem_of_mem_take hr
  have Z₆ := Z₅.ext0 r₆ fun b o _ e => u₆ b o e
  refine e_uptoS (L := L) (s₀ := s₀) (e_rev (L := L) (s₀ := s₀) (EvV.go (EvV.name Z₆.ns m3) fun s₇ h₇ r₇ => ?_))
  have Z₇ := Z₆.touch h₇ r₇
  have hus : us.length = S.length := W.ft.len
  refine ⟨U, us.toArray, _, _, _, rfl, ⟨_, Z₇.keep _ _ (hsubh _ _ W.due), rfl, eU, rfl⟩, by simp; have := W.h5; omega, Z₇, fun t₀ s₇' Z₇' n₇' u₇' => ?_⟩
  refine ⟨t₀, us.reverse.toArray, N.toNat, _, _, _, rfl, ⟨_, by have := (Z₇'.nw _ (.head _)).1; simpa using this, rfl, 0, rfl⟩, by simp; have := W.h5; omega, Z₇', EvI.name Z₇'.ns m4, fun t' s₈ Z₈ n₈ u₈ => ?_⟩
  have u68 : Sub s₆.heap s₈.heap := fun b o e => u₈ b o (u₇' b o (by rw [h₇]; exact e))
  have hft : All2 (FT s₈.heap) (us.reverse.take N.toNat) (S.reverse.take N.toNat) := (W.ft.reverse.take _).mono fun _ _ r => r.keeps fun b o e => Z₈.keep b o (hsubh b o e)
  have hrows : ((List.range S.length).reverse.take N.toNat).map (fun r => S.getD r noRow) = S.reverse.take N.toNat := by rw [List.map_take, List.map_reverse, rangeS]
  rw [hrows] at hys
  obtain ⟨hz, hel⟩ := All2.els (hys.mono fun _ _ r => r.keeps u68) hft fun _ _ _ a b => FT.el a b
  refine lists_ne (vs := ys) (us := us.reverse.take N.toNat) (u68 _ _ hR) (by have := (Z₈.nw _ (.head _)).1; simpa using this) hz hel (by omega) (wpAny_truthy_bool ?_)
  simp only [Bool.false_eq_true, if_false]
  obtain ⟨hb', st', x', Z₉⟩ := (show Fm (hideAll hb (outer.filterMap (·.frame))) L s₀ kp M s₈ from Z₈.sub fun p hp => .tail _ (.tail _ hp)).rebase
  refine xs_nil (xs_nil (bn hb' s₈ Z₉ ⟨fun b o hn e => st' b o (hideAll_get _ e hn), fun b o e hn => ?_⟩))
  obtain ⟨sl, e5⟩ := x₅.slots b o (Z₄.keep b o e) hn
  refine ⟨sl, x' b _ (fun hm => ?_) (u68 _ _ (u₆ _ _ e5))⟩
  rcases List.mem_cons.mp hm with rfl | hm
  · rw [Z₄.off] at e; cases e
  · obtain ⟨p, hp, rfl⟩ := List.mem_map.mp hm
    rw [(Z₄.nw p (List.mem_append_right _ hp)).2.2] at e; cases e
end
end Mine

end
section
open PySem PySem.W PySem.Calls PyProof.Rows PySem.SeqAt
namespace Mine

/-- what _law_few's frame holds -/
structure FwM (M : Str → Option Value) (T U : Addr) (N : Int) : Prop where
  told : M "told" = some (.ref T)
  due : M "due" = some (.ref U)
  wish : ∃ t, M "wish" = some (.int N t)
  many : ∃ t, M "many" = some (.int (N.toNat : Int) t)
theorem FwM.each {M : Str → Option Value} {T U : Addr} {N : Int} {v : Value} (a : FwM M T U N) : FwM (upd M "each" v) T U N :=
  ⟨upd_ne (by decide) a.told, upd_ne (by decide) a.due, let ⟨t, e⟩ := a.wish; ⟨t, upd_ne (by decide) e⟩, let ⟨t, e⟩ := a.many; ⟨t, upd_ne (by decide) e⟩⟩
theorem OutF.sub {h h' : Heap} {l : List Env} (a : OutF h l) (k : Sub h h') : OutF h' l := a.mono fun b o e _ => ⟨o, k b o e, rfl⟩

section
variable {w : World} {A : Around} {E : Value → Shared → Prop} {h₀ hb : Heap} {L T U : Addr} {s₀ s : Shared} {M : Str → Option Value} {ev : Nat → Value} {S : List Row} {ρ : List Nat} {us : List Value} {eT eU : Nat} {N : Int} {outer : List Env} {body rest : List Stmt} {Q : Flow → Shared → Prop} {p0 p1 p2 p3 p4 tp pos : Pos} {k : Nat}

set_option maxHeartbeats 8000000 in
theorem few_for (W : Few w h₀ ev S ρ us T U eT eU N) (G : Gd w h₀) (hsub : Sub h₀ hb) (Z : Fm hb L s₀ [] M s) (hM : FwM M T U N) (hh : A.handled = none) (hOb : OutF hb outer) (hF0 : ∀ b ∈ outer.filterMap (·.frame), h₀.get? b = none)
    (turn : ∀ (mu kp : List (Addr × Obj)) (V : Value) (en : Prop) (hb' : Heap) (M' : Str → Option Value) (s' : Shared) (t tm : Tok) (B : Flow → Shared → Prop) (E : Value → Shared → Prop), Sub h₀ hb' → Fm hb' L s₀ (mu ++ kp) M' s' → OutF hb' outer → (∀ p ∈ kp, p.1 ∉ mu.map (·.1)) → Src w h₀ mu V (ρ.map ev) en →
      ((mu = [] ∧ CollIs w h₀ V (ρ.map ev) ∧ LenIs w h₀ V (ρ.map ev).length) ∨ (∃ I l, V = .ref I ∧ mu = [(I, liOb l)] ∧ en)) → M' "wish" = some (.int N t) → M' "each" = some V → M' "due" = some (.ref U) → M' "many" = some (.int (N.toNat : Int) tm) →
      (∀ hb'' s'', Fm hb'' L s₀ kp M' s'' → ExtF (outer.filterMap (·.frame)) hb' hb'' → B .next s'') → wpAny (MM w) A (execs body (eFw L)) B E s')
    (cont : ∀ hb' M' s' E, Fm hb' L s₀ [] M' s' → FwM M' T U N → ExtF (outer.filterMap (·.frame)) hb hb' → wpAny (MM w) A (execs rest (eFw L)) Q E s') :
    wpAny (MM w) A (execs (.For (.Name "each" p0) (.Tuple [.Name "told" p1, .Call (.Name "iter" p2) [.Name "told" p3] [] p4] k tp) body [] pos :: rest) (eFw L)) Q E s := by
  have hrl : (ρ.map ev).length ≤ 8 := by have h1 := W.perm.length_eq; have := W.h5; simp at h1 ⊢; omega
  have G' := G.keeps hsub
  have subF : ∀ {hb' : Heap}, ExtF (outer.filterMap (·.frame)) hb hb' → Sub h₀ hb' := fun x b o e => x.ext b o (fun h => by rw [hF0 b h] at e; cases e) (hsub b o e)
  refine xs_cons (wpAny_For (wpAny_Tuple (wpAny_items_cons (EvV.go (EvV.name Z.ns hM.told) fun s₁ h₁ r₁ => wpAny_items_cons ?_ rfl) rfl)) fun _ => rfl)
  have Z₁ := Z.touch h₁ r₁
  refine callP1 (EvV.bltN (v := .builtin "iter") G' Z₁.keep) .blt (EvV.name Z₁.ns hM.told) (fun v s₂ hv h₂ r₂ => ?_) rfl
  subst hv
  have Z₂ := Z₁.touch h₂ r₂
  refine call_iter (wpAny_pyIter_list ⟨_, Z₂.keep _ _ (hsub _ _ W.told), rfl, eT, rfl⟩ (wpAny_items_nil ?_))
  refine ⟨by rw [sizeLine_eq]; simp, ?_⟩
  obtain ⟨Z₃, n3⟩ := Z₂.new (ob := liOb T) (tk := s₂.toks)
  obtain ⟨Z₄, n4⟩ := Z₃.new (ob := tupOf [.ref T, .ref s₂.heap.objs.size]) (tk := s₂.toks)
  refine wpAny_pyIter_tuple ⟨_, (Z₄.nw _ (.head _)).1, rfl, 0, rfl⟩ ?_
  obtain ⟨Z₅, n5⟩ := Z₄.new (ob := { cls := .type "tuple_iterator", data := .fields #[.ref (s₂.heap.push (liOb T)).objs.size, .int 0 0] }) (tk := s₂.toks)
  have ntI : s₂.heap.objs.size ≠ (s₂.heap.push (liOb T)).objs.size := n4 _ (.head _)
  have nJI := n5 (s₂.heap.objs.size, liOb T) (.tail _ (.head _))
  have nJt := n5 (_, tupOf [.ref T, .ref s₂.heap.objs.size]) (.head _)
  dsimp only at nJI nJt
  generalize ((s₂.heap.push (liOb T)).push (tupOf [.ref T, .ref s₂.heap.objs.size])).objs.size = J at *
  generalize (s₂.heap.push (liOb T)).objs.size = tt at *
  generalize hI : s₂.heap.objs.size = I at *
  have Wt := Walks.tuple (prog := PR) (w := w) (A := A) hh J tt nJt #[.ref T, .ref I]
  refine codeAny_forLoop (fun n s' => ∃ i oJ hb' M', n = 2 - i ∧ i ≤ 2 ∧ oJ.cls = .type "tuple_iterator" ∧ oJ.data = .fields #[.ref tt, .int ((i : Nat) : Int) 0] ∧ ExtF (outer.filterMap (·.frame)) hb hb' ∧ FwM M' T U N ∧
      Fm hb' L s₀ ((J, oJ) :: (tt, tupOf [.ref T, .ref I]) :: (if i < 2 then [(I, liOb T)] else [])) M' s') ?_ 2 ⟨0, _, hb, M, rfl, by omega, rfl, rfl, .refl _ _, hM, Z₅⟩
  rintro n s' ⟨i, oJ, hb', M', rfl, hi, hc, hd, xb, hM', Z'⟩
  have zJ := Z'.nw _ (.head _)
  have zt := Z'.nw _ (.tail _ (.head _))
  by_cases hlt : i < 2
  · refine Wt.item i s' _ _ (by simpa using hlt) ⟨⟨oJ, zJ.1, hc, hd⟩, ⟨_, zt.1, rfl, 0, rfl⟩⟩ fun v h' tk hv hst hx => ?_
    obtain ⟨⟨oJ', eJ', hc', hd'⟩, _⟩ := hst
    rw [if_pos hlt] at Z'
    have Z₆ : Fm hb' L s₀ ((J, oJ') :: (tt, tupOf [.ref T, .ref I]) :: [(I, liOb T)]) M' { s' with heap := h', toks := tk } := Z'.ext .heap (fun b o hb e => hx b o hb e) eJ' (fun p hp => by
      simp only [List.mem_cons, List.not_mem_nil, or_false] at hp
      rcases hp with rfl | rfl
      · exact nJt
      · exact nJI)
    have hOb' := hOb.extF xb
    refine a_name Z₆ fun s₇ Z₇ => ?_
    obtain ⟨tw, hw⟩ := hM'.wish
    obtain ⟨tm, hm⟩ := hM'.many
    have : i = 0 ∨ i = 1 := by omega
    rcases this with rfl | rfl
    · have hv : v = .ref T := by simpa using hv.symm
      subst hv
      refine wpAny_mono (turn [] ((J, oJ') :: (tt, tupOf [.ref T, .ref I]) :: [(I, liOb T)]) (.ref T) True hb' _ s₇ tw tm (fun f s₃ => match f with
          | .next | .cont => ∃ m, m < 2 - 0 ∧ ∃ i oJ hb' M', m = 2 - i ∧ i ≤ 2 ∧ oJ.cls = .type "tuple_iterator" ∧ oJ.data = .fields #[.ref tt, .int ((i : Nat) : Int) 0] ∧ ExtF (outer.filterMap (·.frame)) hb hb' ∧ FwM M' T U N ∧
              Fm hb' L s₀ ((J, oJ) :: (tt, tupOf [.ref T, .ref I]) :: (if i < 2 then [(I, liOb T)] else [])) M' s₃
          | _ => False) _ (subF xb) Z₇ hOb' (fun _ _ h => nomatch h) (Src.list W.told) (.inl ⟨rfl, CollIs.list W.told hrl, LenIs.list W.told hrl⟩) (upd_ne (by decide) hw) upd_same (upd_ne (by decide) hM'.due) (upd_ne (by decide) hm) ?_) (fun f s₃ h₃ => ?_) fun _ _ e => e
      · intro hb'' s'' Z'' x''
        exact ⟨1, by omega, 1, oJ', hb'', _, rfl, by omega, hc', hd', xb.trans x'', hM'.each, Z''⟩
      · cases f with
        | next => exact h₃
        | cont => exact h₃
        | brk => exact h₃.elim
        | ret v => exact h₃.elim
    · have hv : v = .ref I := by simpa using hv.symm
      subst hv
      refine wpAny_mono (turn [(I, liOb T)] [(J, oJ'), (tt, tupOf [.ref T, .ref I])] (.ref I) True hb' _ s₇ tw tm (fun f s₃ => match f with
          | .next | .cont => ∃ m, m < 2 - 1 ∧ ∃ i oJ hb' M', m = 2 - i ∧ i ≤ 2 ∧ oJ.cls = .type "tuple_iterator" ∧ oJ.data = .fields #[.ref tt, .int ((i : Nat) : Int) 0] ∧ ExtF (outer.filterMap (·.frame)) hb hb' ∧ FwM M' T U N ∧
              Fm hb' L s₀ ((J, oJ) :: (tt, tupOf [.ref T, .ref I]) :: (if i < 2 then [(I, liOb T)] else [])) M' s₃
          | _ => False) _ (subF xb) (Z₇.sub fun p hp => by grind) hOb' (fun p hp => ?_) (Src.itr W.told) (.inr ⟨I, T, rfl, rfl, trivial⟩) (upd_ne (by decide) hw) upd_same (upd_ne (by decide) hM'.due) (upd_ne (by decide) hm) ?_) (fun f s₃ h₃ => ?_) fun _ _ e => e
      · simp only [List.mem_cons, List.not_mem_nil, or_false] at hp
        rcases hp with rfl | rfl
        · simpa using nJI.symm
        · simpa using ntI.symm
      · intro hb'' s'' Z'' x''
        exact ⟨0, by omega, 2, oJ', hb'', _, rfl, by omega, hc', hd', xb.trans x'', hM'.each, Z''⟩
      · cases f with
        | next => exact h₃
        | cont => exact h₃
        | brk => exact h₃.elim
        | ret v => exact h₃.elim
  · have hin : i = 2 := by omega
    subst hin
    refine Wt.done s' _ _ ⟨⟨oJ, zJ.1, hc, hd⟩, ⟨_, zt.1, rfl, 0, rfl⟩⟩ fun h' tk hx => ?_
    refine wpAny_execs_nil (cont hb' M' _ _ ((Z'.sub (news' := []) fun _ h => nomatch h).extS .heap (fun b o hb e => hx b o hb e) (by simpa using zJ.2.1.symm) (fun b hb => by rw [List.mem_singleton.mp hb]; exact zJ.2.2) (fun _ h => nomatch h)) hM' xb)

set_option maxHeartbeats 8000000 in
theorem few_spec {t : Tok} {Q : Value → Shared → Prop} (W : Few w h₀ ev S ρ us T U eT eU N) (G : Gd w h₀) (hk₀ : Sub h₀ s.heap) (hh : A.handled = none) (hroom : A.depth + 40 < recursionLimit) (hu : A.units + 500 < cLine) (hfr : A.frames = some outer) (hO : OutF s.heap outer) (hF0 : ∀ b ∈ outer.filterMap (·.frame), h₀.get? b = none)
    (ret : ∀ s', Rest s s' → ExtF (outer.filterMap (·.frame)) s.heap s'.heap → Q (.bool true) s') :
    wpAny (MM w) A (call (.ref 256) [.ref T, .int N t, .ref U]) Q E s := by
  refine wpAny_call ?_
  refine' callFrc (binds := [("told", .ref T), ("wish", .int N t), ("due", .ref U)]) G hk₀ [] ?hm ?ho ?hc (by omega) ?hb ?hl ?_ ?c1 ?c2 ?c3 ?c4; (case ho => k_is); (case hc => k_is); (case hb => exact BindsTo.of_eq rfl); (case hl => exact rfl); (case c1 => decide); (case c2 => exact rfl); (case c3 => exact rfl); (case c4 => exact rfl); (case hm => exact fun _ h => nomatch h)
  intro h₁ L s₁ A' E' Q' hh' hu' hd' hfr' hQ hQn G₁ st hext Z
  have hhA : A'.handled = none := hh'.trans hh
  have hfA : A'.frames = some (eFw L :: outer) := by rw [hfr', hfr]; rfl
  have hOb : OutF h₁ outer := hO.sub hext.nil
  refine s_asgW (s₀ := s) (callP2 (EvV.bltN (v := .builtin "max") G₁ Z.keep) .blt (EvV.name Z.ns rfl) EvI.const (fun v v' s₂ hv hv' h₂ r₂ => ?_) rfl rfl)
  subst hv
  obtain ⟨u, rfl⟩ := hv'
  have Z₂ := Z.touch h₂ r₂
  refine max_two_ints hhA fun h' tk hk => ⟨_, _, _, Z₂.grew (h' := h') (tk := tk) hk, fun s₃ Z₃ => ?_⟩
  have hm : ∃ tm, (if 0 > N then Value.int 0 u else .int N t) = .int (N.toNat : Int) tm := by
    by_cases h : 0 > N
    · rw [if_pos h]; exact ⟨u, by congr 1; omega⟩
    · rw [if_neg h]; exact ⟨t, by congr 1; omega⟩
  obtain ⟨tm, hm⟩ := hm
  rw [hm] at Z₃
  have hM : FwM (upd (mOf [("told", .ref T), ("wish", .int N t), ("due", .ref U)]) "many" (.int (N.toNat : Int) tm)) T U N := ⟨by walk_at "lk", by walk_at "lk", ⟨t, by walk_at "lk"⟩, ⟨tm, by walk_at "lk"⟩⟩
  have subF : ∀ {hb hb' : Heap}, Sub h₀ hb → ExtF (outer.filterMap (·.frame)) hb hb' → Sub h₀ hb' := fun hs x b o e => x.ext b o (fun h => by rw [hF0 b h] at e; cases e) (hs b o e)
  refine few_for W G st Z₃ hM hhA hOb hF0 (fun mu kp V en hb' M' s' t' tm' B E'' a1 a2 a3 a4 a5 a6 a7 a8 a9 a10 a11 => few_turn1 W G a1 a2 hhA (by omega) (by omega) hfA a3 hF0 a4 a5 a6 a7 a8 a9 a10 a11) ?_
  intro hb₁ M₁ s₄ E₁ Z₄ hM₁ x₁
  refine few_for W G (subF st x₁) Z₄ hM₁ hhA (hOb.extF x₁) hF0 (fun mu kp V en hb' M' s' t' tm' B E'' a1 a2 a3 a4 a5 a6 a7 a8 a9 a10 a11 => few_turn2 W G a1 a2 hhA (by omega) (by omega) hfA a3 hF0 a4 a5 a6 a7 a8 a9 a10 a11) ?_
  intro hb₂ M₂ s₅ E₂ Z₅ hM₂ x₂
  refine s_retE Z₅ EvV.bool ?_
  rintro _ s₆ rfl Z₆
  exact hQ _ _ (ret s₆ Z₆.rest ((ExtF.of hext.nil).trans ((x₁.trans x₂).trans (.of Z₆.keep))))
end
end Mine

end
section
open PySem PySem.W PySem.Calls PyProof.Rows PySem.SeqAt
namespace Mine

abbrev eHp (L : Addr) : Env := envOfC (Str.ofString "_law_heap") (scp (st 23)) L 261 (.ref 260)

section
variable {w : World} {A : Around} {E : Value → Shared → Prop} {env : Env} {h h₀ : Heap} {L : Addr} {s₀ s : Shared} {news : List (Addr × Obj)} {m : Str → Option Value} {e e₁ e₂ o test : Expr} {body rest : List Stmt} {pos pos' apos tp p1 p2 np : Pos} {D : Addr}

/-- a while, whatever its test leaves -/
theorem s_whileW {Q : Flow → Shared → Prop} (I : Nat → Shared → Prop) (n : Nat) (h : I n s)
    (turn : ∀ n s E (B : Flow → Shared → Prop) (C : Shared → Prop), I n s → (∀ m s₃, m < n → I m s₃ → B .next s₃) → (∀ v s₃, Q (.ret v) s₃ → B (.ret v) s₃) →
      (∀ s₃, (∀ E, wpAny (MM w) A (execs rest env) Q E s₃) → C s₃) →
      wpAny (MM w) A (isTrue test env (eval test env)) (fun b s₂ => (b = true → wpAny (MM w) A (execs body env) B E s₂) ∧ (b = false → C s₂)) E s) :
    wpAny (MM w) A (execs (.While test body [] pos :: rest) env) Q E s := by
  refine xs_cons (wpAny_While (codeAny_whileLoop I (fun n s hI => ?_) n h))
  refine wpAny_mono (turn n s (notedBy (MM w) A env fun e s' => cameBackBy (MM w) A env E e s') (fun f s₃ => match f with
            | .next | .cont => ∃ m, m < n ∧ I m s₃
            | .brk => ∀ E, wpAny (MM w) A (execs rest env) Q E s₃
            | .ret v => Q (.ret v) s₃) (fun s₂ => ∀ E, wpAny (MM w) A (execs rest env) Q E s₂) hI (fun m s₃ a b => ⟨m, a, b⟩) (fun _ _ a => a) (fun _ a => a)) (fun b s₂ h₂ => ?_) fun _ _ e => e
  cases b with
  | false => exact wpAny_execs_nil (h₂.2 rfl _)
  | true => exact wpAny_mono (h₂.1 rfl) (fun f s₃ h₃ => by cases f <;> first | exact h₃ | exact h₃ _) fun _ _ e => e

/-- «x.f()», x an made thing -/
theorem e_meth0 {C f x : Addr} {sl : Array (Option Value)} {name : Str} {pl : Sem Bool} {Q : Value → Shared → Prop} (G : Gd w h₀) (hk : Sub h₀ s.heap) (a : EvV w A env s.heap o (.ref x)) (I : InstH s.heap x C sl)
    (hga : findIn (K w.params) (.ref C) "__getattribute__" = some (some (.builtin "object.__getattribute__"))) (hga' : findIn (K w.params) (.ref C) "__getattr__" = some none)
    (hf : findIn (K w.params) (.ref C) name = some (some (.ref f))) (ht : typeIn (K w.params) (.ref f) = some (.type "function")) (kp : keepIn (K w.params) (.ref f) = true) (hn : shadowIn (some emptyDict) name = some false)
    (q : ∀ s', s'.heap = s.heap → Rest s s' → wpAny (MM w) A (call (.ref f) [.ref x]) Q E s') (he : MethEq o name apos pos [] env pl := by rfl) :
    wpAny (MM w) A (eval (.Call (.Attribute o name apos) [] [] pos) env) Q E s := by
  refine MethodCall_ (a.go fun s₁ h₁ r₁ => ?_) he
  obtain ⟨dx, od, i1, i2, rfl⟩ := I
  have X := G.X.keeps (fun b o e => (show s₁.heap.get? b = some o by rw [h₁]; exact hk b o e))
  refine method_fn (f := f) (C := C) X (ox := inst C dx sl) (od := some emptyDict) ⟨h₁ ▸ i1, rfl, rfl, h₁ ▸ i2⟩ hga hga' hf ht hn ?_
  refine callWith_of (P := fun h => Kp w h (.ref f)) rfl (fun _ k => k) (evalArgs_nil3 ⟨.K G (fun b o e => (show s₁.heap.get? b = some o by rw [h₁]; exact hk b o e)) kp, ?_⟩)
  exact q s₁ h₁ r₁
end

/-- what is laid into _law_heap's heap: key and number -/
def HT (h : Heap) (S : List Row) (ρ : List Nat) (r : Nat) (v : Value) : Prop :=
  ∃ t kt i tk, v = .ref t ∧ h.get? t = some (tupOf [.ref kt, .int ((i : Nat) : Int) tk]) ∧ KeyAt h kt (keyI (S.getD r noRow)) (S.getD r noRow).p ∧ ρ[i]? = some r
theorem HT.keeps {h h' : Heap} {S : List Row} {ρ : List Nat} {r : Nat} {v : Value} (a : HT h S ρ r v) (hk : Sub h h') : HT h' S ρ r v :=
  let ⟨t, kt, i, tk, e1, e2, e3, e4⟩ := a; ⟨t, kt, i, tk, e1, hk _ _ e2, e3.keeps hk, e4⟩
theorem HT.keepsT {h h' : Heap} {S : List Row} {ρ : List Nat} {r : Nat} {v : Value} (a : HT h S ρ r v) (hk : ∀ b us, h.get? b = some (tupOf us) → h'.get? b = some (tupOf us)) : HT h' S ρ r v :=
  let ⟨t, kt, i, tk, e1, e2, ⟨vs, e3, e3'⟩, e4⟩ := a; ⟨t, kt, i, tk, e1, hk _ _ e2, ⟨vs, hk _ _ e3, e3'⟩, e4⟩
theorem HT.item {h : Heap} {S : List Row} {ρ : List Nat} {r : Nat} {v : Value} (a : HT h S ρ r v) : ItemAt h v (keyI (S.getD r noRow)) (S.getD r noRow).p 1 :=
  let ⟨t, kt, i, tk, e1, e2, e3, _⟩ := a; ⟨t, kt, _, e1, e2, e3, rfl⟩
def HJ (S : List Row) (ρ : List Nat) (i : Nat) (ys : List Value) (hx : Heap) : Prop := ∃ item : Nat → Value, ys = (ρ.take i).map item ∧ ∀ r ∈ ρ.take i, HT hx S ρ r (item r)
theorem HJ.snoc {S : List Row} {ρ : List Nat} {i : Nat} {ys : List Value} {hx hx' : Heap} {y : Value} (a : HJ S ρ i ys hx) (hk : ∀ b o, hx.get? b = some o → hx'.get? b = some o) (hd : ρ.Nodup) (hi : i < ρ.length)
    (hy : HT hx' S ρ (ρ.getD i 0) y) : HJ S ρ (i + 1) (ys ++ [y]) hx' := by
  obtain ⟨item, e, hT⟩ := a
  have hgi : ρ.getD i 0 = ρ[i] := by simp [hi]
  have hni : ρ[i] ∉ ρ.take i := fun hm => by
    obtain ⟨j, hj, e⟩ := List.getElem_of_mem hm
    simp only [List.length_take] at hj
    rw [List.getElem_take] at e
    exact List.pairwise_iff_getElem.mp hd j i (by omega) hi (by omega) e
  have htk : ρ.take (i + 1) = ρ.take i ++ [ρ[i]] := by rw [List.take_succ_eq_append_getElem hi]
  refine ⟨fun r => if r = ρ[i] then y else item r, ?_, ?_⟩
  · rw [htk, List.map_append, List.map_cons, List.map_nil, if_pos rfl, e]
    congr 1
    refine List.map_congr_left fun r hr => ?_
    rw [if_neg (fun h : r = ρ[i] => hni (h ▸ hr))]
  · intro r hr
    rw [htk] at hr
    rcases List.mem_append.mp hr with hr | hr
    · show HT hx' S ρ r (if r = ρ[i] then y else item r)
      rw [if_neg (fun h : r = ρ[i] => hni (h ▸ hr))]; exact (hT r hr).keeps hk
    · have : r = ρ[i] := by simpa using hr
      subst this
      show HT hx' S ρ ρ[i] (if ρ[i] = ρ[i] then y else item ρ[i])
      rw [if_pos rfl, ← hgi]; exact hy

section
variable {w : World} {A : Around} {E : Value → Shared → Prop} {h₀ hb : Heap} {L T U : Addr} {s₀ s : Shared} {m : Str → Option Value} {ev : Nat → Value} {S : List Row} {ρ : List Nat} {us : List Value} {eT eU : Nat} {Q : Flow → Shared → Prop}

set_option maxHeartbeats 4000000 in
theorem heap_comp (G : Gd w h₀) (hh : A.handled = none) (hroom : A.depth < recursionLimit) (Z : Fm h₀ L s₀ [] m s) (hT : h₀.get? T = some (listOf (ρ.map ev).toArray eT)) (hcell : h₀.IsCell (L + 1) (some (.ref T)))
    (dv : ∀ r, r < S.length → DV h₀ (ev r) (S.getD r noRow)) (hd : ρ.Nodup) (hρ : ∀ r ∈ ρ, r < S.length) (h8 : ρ.length ≤ 8)
    (cont : ∀ D hx item s' ep, Sub h₀ hx → Fm hx L s₀ [(D, listOf (ranked item ρ) ep)] (upd m "heap" (.ref D)) s' → (∀ r ∈ ρ, HT hx S ρ r (item r)) → wpAny (MM w) A (execs ((txt (st 23)).drop 1) (eHp L)) Q E s') :
    wpAny (MM w) A (execs (txt (st 23)) (eHp L)) Q E s := by
  have hsz : (ρ.map ev).toArray.size = ρ.length := by simp
  have cellK : ∀ {g : Heap}, Sub h₀ g → g.IsCell (L + 1) (some (.ref T)) := fun hs => by
    obtain ⟨oc, e1, e2⟩ := hcell
    exact ⟨oc, hs _ _ e1, e2⟩
  refine comp_use (L := L) (s₀ := s₀) (m₀ := m) (news := []) (h₀ := h₀) (cl := [("told", L + 1)]) (callP1 (EvV.bltN (v := .type "range") G Z.keep) .type (EvI.len G Z.keep (EvV.cell (cellK Z.keep)) (Z.keep _ _ hT) (by rw [hsz]; omega)) (fun v s₁ hv h₁ r₁ => ?_) rfl) rfl rfl rfl
  obtain ⟨t, rfl⟩ := hv
  rw [hsz]
  have Z₁ := Z.touch h₁ r₁
  refine call_range_1 ?_
  obtain ⟨Z₂, n2⟩ := Z₁.new (ob := rangeOb 0 (ρ.length : Int) 1 s₁.toks t (s₁.toks + 1)) (tk := s₁.toks + 1 + 1)
  have hrs : Builtin.Range.rangeSize 0 (ρ.length : Int) 1 = (ρ.length : Int) := by unfold Builtin.Range.rangeSize; split <;> (try split) <;> omega
  have hsm : Builtin.Range.small 0 (ρ.length : Int) 1 = true := small_one (by omega) (by omega) (by omega) (by omega)
  refine wpAny_pyIter_range (Z₂.nw _ (.head _)).1 hsm ?_
  obtain ⟨Z₃, n3⟩ := Z₂.new (ob := { cls := .type "range_iterator", data := .fields #[rawInt 0, rawInt (Builtin.Range.rangeSize 0 (ρ.length : Int) 1), rawInt 1] }) (tk := s₁.toks + 1 + 1)
  have zI := Z₃.nw _ (.head _)
  generalize ({ s₁ with heap := s₁.heap.push (rangeOb 0 (ρ.length : Int) 1 s₁.toks t (s₁.toks + 1)), toks := s₁.toks + 1 + 1 } : Shared).heap.objs.size = I at *
  have W := LCg.range_walks (prog := PR) (w := w) (A := A) (I := I) hh 0 ρ.length
  have hLw : L ∉ [I] := fun h => zI.2.1 (List.mem_singleton.mp h).symm
  have hw0 : ∀ b o, h₀.get? b = some o → b ∉ [I] := fun b o e h => by rw [List.mem_singleton.mp h, zI.2.2] at e; cases e
  refine ⟨I, _, _, _, _, _, _, _, rfl, Trn.ofWalks W (fun i h st b hb => ?_), ?_, by omega, HJ S ρ, m, Z₃.ns, hLw, Z₃.rest, fun hx => ⟨fun _ => .none, by simp, by simp⟩, ?_, ?_, ?_, ?_⟩
  · rw [List.mem_singleton.mp hb]; exact ⟨_, st⟩
  · show IsRangeIter _ _ _ _ _
    have := zI.1
    rw [hrs] at this
    unfold IsRangeIter
    rw [hrs, show (0 : Int) + ((0 : Nat) : Int) * 1 = 0 by omega, show ((ρ.length : Nat) : Int) - ((0 : Nat) : Int) = (ρ.length : Int) by omega]
    exact this
  · rintro i ys hx ⟨item, rfl, _⟩
    simp; omega
  · intro i v ys C hb₂ hx s₆ m₆ E' hi' hP hJ hxb hsx Z₆
    obtain ⟨t6, rfl⟩ := hP
    have hiρ : i < ρ.length := hi'
    have hgd : ρ.getD i 0 = ρ[i] := by simp [hiρ]
    have hmem : ρ.getD i 0 ∈ ρ := by rw [hgd]; exact List.getElem_mem hiρ
    have h0x : Sub h₀ hx := fun b o e => hsx b o (hw0 b o e) (Z₃.keep b o e)
    have h0b : Sub h₀ hb₂ := fun b o e => hxb b o (h0x b o e)
    have G₂ := G.keeps h0b
    rw [Int.zero_add]
    refine a_name Z₆ fun s₇ Z₇ => ?_
    have hs7 : Sub h₀ s₇.heap := fun b o e => Z₇.keep b o (h0b b o e)
    obtain ⟨a, t1, t2, t3, t4, t5, ea, Ia⟩ := dv _ (hρ _ hmem)
    have hit : (ρ.map ev).toArray[i]? = some (Value.ref a) := by rw [← ea, hgd]; simp [hiρ]
    refine wpAny_Tuple (wpAny_items_cons (e_meth0 (C := 134) (f := 130) G₂ Z₇.keep (EvV.item (k := i) (EvV.cell (cellK hs7)) (EvI.name Z₇.ns (by walk_at "lk")) (hs7 _ _ hT) hit (by omega)) (Ia.keeps hs7) (by k_is) (by k_is) (by k_is) (by k_is) (by k_is) rfl fun s₈ h₈ r₈ => ?_) rfl)
    have Z₈ := Z₇.touch h₈ r₈
    refine diffKey (h₀ := hb₂) G₂ (Ia.keeps h0b) A s₈ _ _ Z₈.keep hroom fun kt s₉ r₉ x₉ n₉ ⟨vs, e₉, hkv⟩ => ?_
    obtain ⟨Z₉, nn⟩ := Z₈.got r₉ x₉ n₉ e₉
    refine (EvL.cons (EvV.name Z₉.ns (by walk_at "lk")) .nil rfl) _ s₉ _ E' rfl fun vs' s₁₀ hv h₁₀ r₁₀ => ?_
    obtain ⟨_, _, rfl, rfl, rfl⟩ := hv
    refine ⟨by rw [sizeLine_eq]; simp, ?_⟩
    obtain ⟨Z₁₁, n11⟩ := (Z₉.touch h₁₀ r₁₀).new (ob := tupOf [.ref kt, .int (i : Int) t6]) (tk := s₁₀.toks)
    refine ⟨_, _, Z₁₁, fun hx' hxx hnw => hJ.snoc hxx hd hiρ ⟨_, kt, i, t6, rfl, hnw _ (.head _), ⟨vs, hnw _ (.tail _ (.head _)), hkv⟩, by rw [hgd]; simp [hiρ]⟩⟩
  · intro D ys hx ep s₆ hD0 hD hJ hxs6 hxD hsx r₆ hFn hns
    obtain ⟨item, rfl, hTt⟩ := hJ
    rw [List.take_length] at hD hTt
    have hDL : D ≠ L := fun h => by obtain ⟨oL, _, _, hL, _⟩ := Z₃.ns; rw [← h, hD0] at hL; cases hL
    have h0x : Sub h₀ hx := fun b o e => hsx b o (hw0 b o e) (Z₃.keep b o e)
    have hb3 : ∀ b o, h₀.get? b = some o → b ∉ [L, D] := fun b o e q => by
      simp only [List.mem_cons, List.not_mem_nil, or_false] at q
      rcases q with rfl | rfl
      · rw [Z.off] at e; cases e
      · rw [none_of Z₃.keep hD0] at e; cases e
    refine cont D (hideAll s₆.heap [L, D]) item s₆ ep (fun b o e => hideAll_get _ (hxs6 b o (fun h => hb3 b o e (by simp [h])) (h0x b o e)) (hb3 b o e)) ⟨hns, fun b o e => of_hideAll _ e, hideAll_none _ (by simp), fun p hp => ?_, Z₃.rest.trans r₆⟩ (fun r hr => (hTt r hr).keepsT fun b us e => ?_)
    · rw [List.mem_singleton.mp hp]
      exact ⟨hD, hDL, hideAll_none _ (by simp)⟩
    · have hbL : b ≠ L := by
        rintro rfl
        obtain ⟨oL, es, ep', hL, hdL, _⟩ := Z₃.ns
        have := hsx _ _ hLw hL
        rw [e] at this
        injection this with this
        rw [← this] at hdL
        cases hdL
      have hbD : b ≠ D := by rintro rfl; rw [hxD] at e; cases e
      exact hideAll_get _ (hxs6 b _ hbL e) (by simp [hbL, hbD])
  · exact fun _ _ _ _ => trivial
end
end Mine

end
section
open PySem PySem.W PySem.Calls PyProof.Rows PySem.SeqAt
namespace Mine

/-- a heap, emptied -/
def popsN : Nat → List Nat → List Nat
  | 0, _ => []
  | n + 1, rs => popV rs :: popsN n (popR rs)
def hpOne (k : Nat) (ρ : List Nat) : Bool := popsN k (hpf ltN ρ) == List.range k
theorem hpo2 : (permsOf 2).all (hpOne 2) = true := by decide +kernel
theorem hpo3 : (permsOf 3).all (hpOne 3) = true := by decide +kernel
theorem hpo4 : (permsOf 4).all (hpOne 4) = true := by decide +kernel
theorem hpo5 : (permsOf 5).all (hpOne 5) = true := by decide +kernel
theorem pops_of {k : Nat} (h2 : 2 ≤ k) (h5 : k ≤ 5) {ρ : List Nat} (hp : ρ.Perm (List.range k)) : popsN k (hpf ltN ρ) = List.range k := by
  have hg : (permsOf k).all (hpOne k) = true := by
    have : k = 2 ∨ k = 3 ∨ k = 4 ∨ k = 5 := by omega
    rcases this with rfl | rfl | rfl | rfl
    · exact hpo2
    · exact hpo3
    · exact hpo4
    · exact hpo5
  exact beq_iff_eq.mp (List.all_eq_true.mp hg ρ (mem_permsOf hp))
theorem popR_rk {n : Nat → Prop} {rs : List Nat} (R : Rk n rs) (hp : 0 < rs.length) : Rk n (popR rs) := by
  unfold popR
  split
  · exact ⟨(fun _ h => nomatch h), by simp⟩
  · rename_i hne
    exact su_rk (R.dropLast.set (R.get (by omega))) (by rw [List.length_set]; exact ne_len hne)
theorem popR_len {rs : List Nat} (hp : 0 < rs.length) : (popR rs).length = rs.length - 1 := by
  unfold popR
  split
  · rename_i he
    have := congrArg List.length he
    simp at this
    simp; omega
  · rename_i hne
    rw [su_len (by rw [List.length_set]; exact ne_len hne), List.length_set, List.length_dropLast]
theorem popV_in {n : Nat → Prop} {rs : List Nat} (R : Rk n rs) (hp : 0 < rs.length) : n (popV rs) := by
  unfold popV
  split
  · exact R.get (by omega)
  · rename_i hne
    exact R.dropLast.get (ne_len hne)

section
variable {w : World} {A : Around} {E : Value → Shared → Prop} {h₀ : Heap} {T U : Addr} {s : Shared} {ev : Nat → Value} {S : List Row} {ρ : List Nat} {us : List Value} {eT eU : Nat} {N : Int} {Q : Value → Shared → Prop}

/-- what the while of _law_heap keeps -/
def WJ (hx : Heap) (L D R : Addr) (s₀ : Shared) (m : Str → Option Value) (item : Nat → Value) (S : List Row) (ρ : List Nat) (k : Nat) (s' : Shared) : Prop :=
  ∃ rs ys ep ep' hb, Sub hx hb ∧ rs.length = k ∧ k ≤ S.length ∧ Rk (· ∈ ρ) rs ∧ popsN k rs = (List.range S.length).drop (S.length - k) ∧ All2 (FT hb) ys (S.take (S.length - k)) ∧ Fm hb L s₀ [(D, listOf (ranked item rs) ep), (R, listOf ys.toArray ep')] m s'

set_option maxHeartbeats 8000000 in
theorem heap_spec (W : Few w h₀ ev S ρ us T U eT eU N) (G : Gd w h₀) (hk₀ : Sub h₀ s.heap) (hh : A.handled = none) (hroom : A.depth + 10 < recursionLimit) (hu : A.units + 100 < cLine)
    (ret : ∀ s', Rest s s' → Ext [] s.heap s'.heap → Q (.bool true) s') : wpAny (MM w) A (call (.ref 261) [.ref T, .ref U]) Q E s := by
  have hrl : ρ.length = S.length := by simpa using W.perm.length_eq
  have hnd : ρ.Nodup := W.perm.nodup_iff.mpr List.nodup_range
  have hlt : ∀ r ∈ ρ, r < S.length := fun r hr => by simpa using W.perm.mem_iff.mp hr
  have h5 := W.h5
  have h2 := W.h2
  refine' callFC (binds := [("told", .ref T), ("due", .ref U)]) G hk₀ [] ?hm ?ho ?hc (by omega) ?hb ?hl ?_ ?c2 ?c3 ?c4; (case ho => k_is); (case hc => k_is); (case hb => exact BindsTo.of_eq rfl); (case c2 => exact rfl); (case c3 => exact rfl); (case c4 => exact rfl); (case hm => exact fun _ h => nomatch h)
  case hl =>
    intro n x hx
    simp only [List.mem_cons, List.not_mem_nil, or_false] at hx
    rcases hx with rfl | rfl
    · exact .inr ⟨rfl, rfl⟩
    · exact .inl rfl
  intro h₁ L s₁ A' E' Q' hh' hu' hd' hfr' hQ hQn G₁ st hext Z hcl
  have hc1 : h₁.IsCell (L + 1) (some (.ref T)) := hcl "told" (L + 1) rfl
  have hhA : A'.handled = none := hh'.trans hh
  refine heap_comp G₁ hhA (by omega) Z (st _ _ W.told) hc1 (fun r hr => (W.dv r hr).keeps st) hnd hlt (by omega) fun D hx item s₂ ep hsx Z₂ hTt => ?_
  have G₂ := G₁.keeps hsx
  have O : Ord hx (· ∈ ρ) item := Ord.of W.kc.KK hlt fun r hr => (hTt r hr).item
  have R0 : Rk (· ∈ ρ) ρ := ⟨fun _ h => h, by omega⟩
  refine s_expr (callP1 (EvV.glob G₂ Z₂.keep (by k_is)) (.K G₂ Z₂.keep (by k_is)) (EvV.name Z₂.ns (by walk_at "lk")) (fun v s₃ hv h₃ r₃ => ?_) rfl)
  subst hv
  have Z₃ := Z₂.touch h₃ r₃
  refine heapify_spec G₂ Z₃.keep O (Z₃.nw _ (.head _)).1 (Z₃.nw _ (.head _)).2.2 R0 hhA (by omega) (by omega) fun s₄ r₄ x₄ hD₄ => ⟨rfl, ?_⟩
  have Z₄ := Z₃.ext r₄ x₄ hD₄ fun _ => not_nil
  obtain ⟨hRk, hlen⟩ : Rk (· ∈ ρ) (hpf ltN ρ) ∧ (hpf ltN ρ).length = ρ.length := hpL_rk (lt := ltN) (ρ.length / 2) ρ (by omega) R0
  refine s_asgW (s₀ := s) (e_list Z₄ EvL.nil (by decide) (fun _ h => by rw [h]; rfl) fun vs R s₅ hv Z₅ n5 _ => ⟨_, _, _, Z₅, fun s₆ Z₆ => ?_⟩)
  subst hv
  have nDR : D ≠ R := n5 _ (.head _)
  refine s_whileW (WJ hx L D R s _ item S ρ) S.length ⟨hpf ltN ρ, [], ep, 0, hx, fun _ _ e => e, hlen.trans hrl, Nat.le_refl _, hRk, ?_, ?_, Z₆.sub fun p hp => by grind⟩ ?_
  · rw [Nat.sub_self, List.drop_zero]; exact pops_of h2 h5 W.perm
  · rw [Nat.sub_self]; exact .nil
  rintro k s₇ E₁ B C ⟨rs, ys, ep₁, ep₂, hb, hsb, rfl, hkS, hR, hpops, hft, Z₇⟩ bn br cn
  have h1b : Sub h₁ hb := fun b o e => hsb b o (hsx b o e)
  have Gb := G₁.keeps h1b
  have zc : ∀ {g : Heap}, Sub hb g → g.IsCell (L + 1) (some (.ref T)) := fun hs => by
    obtain ⟨oc, e1, e2⟩ := hc1
    exact ⟨oc, hs _ _ (h1b _ _ e1), e2⟩
  refine wpAny_isTrue_Compare1 (EvV.go (EvV.name Z₇.ns (by walk_at "lk")) fun s₈ h₈ r₈ => e_list (Z₇.touch h₈ r₈) EvL.nil (by decide) (fun _ h => by rw [h]; rfl) fun vs t s₉ hv Z₉ n9 _ => ?_)
  subst hv
  have zD := Z₉.nw _ (.tail _ (.head _))
  have zt := Z₉.nw _ (.head _)
  by_cases hrs : rs = []
  · subst hrs
    refine lists_ne (vs := []) (us := []) zD.1 zt.1 rfl (fun i x y h => nomatch h) (by omega) (wpAny_truthy_bool ⟨(fun h => nomatch h), fun _ => cn _ fun E₂ => ?_⟩)
    have hus : All2 (FT h₁) us S := W.ft.mono fun _ _ r => r.keeps st
    have hft' : All2 (FT hb) ys S := by simpa using hft
    refine s_ret (wpAny_Compare1 (EvV.go (EvV.name Z₉.ns (by walk_at "lk")) fun s₁₀ h₁₀ r₁₀ => EvV.go (EvV.name (Z₉.touch h₁₀ r₁₀).ns (by walk_at "lk")) fun s₁₁ h₁₁ r₁₁ => ?_))
    have Z₁₁ := (Z₉.touch h₁₀ r₁₀).touch h₁₁ r₁₁
    obtain ⟨hz, hel⟩ := All2.els (hft'.mono fun _ _ r => r.keeps Z₁₁.keep) (hus.mono fun _ _ r => r.keeps fun b o e => Z₁₁.keep b o (h1b b o e)) fun _ _ _ a b => FT.el a b
    exact lists_eq (vs := ys) (us := us) (Z₁₁.nw _ (.tail _ (.tail _ (.head _)))).1 (Z₁₁.keep _ _ (h1b _ _ (st _ _ W.due))) hz hel (by omega) (hQ _ _ (ret _ Z₁₁.rest fun b o hb' e => Z₁₁.keep b o (h1b b o (hext b o hb' e))))
  · have hp := ne_len hrs
    refine RcNeAt.lists_lengths (l := D) (b := t) (items := ranked item rs) (items2 := #[]) ⟨_, zD.1, rfl, ep₁, rfl⟩ ⟨_, zt.1, rfl, 0, rfl⟩ (by rw [sizeR]; simpa using hrs) (by omega) PR w _ _ (wpAny_truthy_bool ⟨fun _ => ?_, fun h => nomatch h⟩)
    have Z₁₀ := Z₉.sub (news' := [(D, listOf (ranked item rs) ep₁), (R, listOf ys.toArray ep₂)]) fun p hp => by grind
    have hpv : popV rs = S.length - rs.length ∧ popsN (rs.length - 1) (popR rs) = (List.range S.length).drop (S.length - (rs.length - 1)) := by
      obtain ⟨k, hk⟩ : ∃ k, rs.length = k + 1 := ⟨rs.length - 1, by omega⟩
      rw [hk] at hpops ⊢
      rw [popsN, List.drop_eq_getElem_cons (by simp; omega)] at hpops
      injection hpops with q1 q2
      refine ⟨by rw [q1]; simp, ?_⟩
      rw [Nat.add_sub_cancel, q2]
      congr 1
      omega
    have hmem : popV rs ∈ ρ := popV_in hR hp
    obtain ⟨tt, kt, i, tk, e1, e2, e3, e4⟩ := (hTt _ hmem).keeps hsb
    have hiv : (ρ.map ev).toArray[i]? = some (ev (popV rs)) := by simp [e4]
    have hiρ : i < ρ.length := (List.getElem?_eq_some_iff.mp e4).1
    refine s_expr (e_append (D := R) (L := L) (s₀ := s) ⟨_, _, (Z₁₀.nw _ (.tail _ (.head _))).1⟩ (EvV.name Z₁₀.ns (by walk_at "lk")) fun s₁₁ h₁₁ r₁₁ => ?_)
    have Z₁₁ := Z₁₀.touch h₁₁ r₁₁
    refine callN (EvV.glob Gb Z₁₁.keep (by k_is)) (fun s₁₂ h₁₂ r₁₂ => wpAny_items_cons (Subscript_ (EvV.go (EvV.cell (zc (Z₁₁.touch h₁₂ r₁₂).keep)) fun s₁₃ h₁₃ r₁₃ => Subscript_ ?_)) rfl) rfl rfl
    have Z₁₃ := (Z₁₁.touch h₁₂ r₁₂).touch h₁₃ r₁₃
    refine callP1 (EvV.glob Gb Z₁₃.keep (by k_is)) (.K Gb Z₁₃.keep (by k_is)) (EvV.name Z₁₃.ns (by walk_at "lk")) (fun v s₁₄ hv h₁₄ r₁₄ => ?_) rfl
    subst hv
    have Z₁₄ := Z₁₃.touch h₁₄ r₁₄
    refine heappop_spec Gb Z₁₄.keep (O.keeps hsb) (Z₁₄.nw _ (.head _)).1 (Z₁₄.nw _ (.head _)).2.2 hR hp (by omega) (by omega) fun s₁₅ r₁₅ x₁₅ hD₁₅ => ?_
    have Z₁₅ := Z₁₄.ext r₁₅ x₁₅ hD₁₅ fun p hp => by rw [List.mem_singleton.mp hp]; exact nDR.symm
    rw [e1]
    refine Evs.go EvI.const fun v s₁₆ hv h₁₆ r₁₆ => ?_
    obtain ⟨u, rfl⟩ := hv
    have Z₁₆ := Z₁₅.touch h₁₆ r₁₆
    have hTT : s₁₆.TypeIs (.ref tt) "tuple" := ⟨_, Z₁₆.keep _ _ e2, rfl⟩
    refine tail_any hTT (by first | exact tuple_getitem_lookup | exact slot_tuple_getitem.lookup) (getItem_tuple (items := #[.ref kt, .int (i : Int) tk]) (j := 1) (x := .int (i : Int) tk) ⟨_, Z₁₆.keep _ _ e2, rfl, 0, rfl⟩ (by omega) (by omega) (by rfl) (by rfl) ?_) (by intros; with_unfolding_all rfl)
    have hTl : s₁₆.heap.IsList T (ρ.map ev).toArray := ⟨_, Z₁₆.keep _ _ (h1b _ _ (st _ _ W.told)), rfl, eT, rfl⟩
    refine tail_any hTl.typeIs slot_list_getitem.lookup (wpAny_getItem_list hTl (by omega) (by omega) (by simpa using hiv) (wpAny_items_nil ⟨.K Gb Z₁₆.keep (by k_is), ?_⟩)) (by intros; with_unfolding_all rfl)
    refine fields_spec (h₀ := hb) Gb ((W.dv _ (hlt _ hmem)).keeps fun b o e => h1b b o (st b o e)) Z₁₆.keep (by omega) fun kf s₁₇ r₁₇ x₁₇ n₁₇ ⟨us', e₁₇⟩ ft => ?_
    obtain ⟨Z₁₇, n17⟩ := Z₁₆.got r₁₇ x₁₇ n₁₇ e₁₇
    have nkD := n17 _ (.head _)
    have nkR := n17 _ (.tail _ (.head _))
    refine ⟨hb, [(kf, tupOf us'), (D, listOf (ranked item (popR rs)) (ep₁ + 1))], _, ys, ep₂, Z₁₇.sub fun p hp => by grind, fun p hp => ?_, ?_, fun ep₃ s₁₈ Z₁₈ => ⟨rfl, xs_nil ?_⟩⟩
    · simp only [List.mem_cons, List.not_mem_nil, or_false] at hp
      rcases hp with rfl | rfl
      · exact nkR.symm
      · exact nDR
    · rw [hft.len, List.length_take]; omega
    obtain ⟨hb', st', x', Z₁₉⟩ := (Z₁₈.sub (news' := [(D, listOf (ranked item (popR rs)) (ep₁ + 1)), (R, listOf (ys ++ [Value.ref kf]).toArray ep₃)]) fun p hp => by grind).rebase
    refine bn (rs.length - 1) s₁₈ (by omega) ⟨popR rs, ys ++ [Value.ref kf], ep₁ + 1, ep₃, hb', fun b o e => st' b o (hsb b o e), popR_len hp, by omega, popR_rk hR hp, hpv.2, ?_, Z₁₉⟩
    have htk : S.take (S.length - (rs.length - 1)) = S.take (S.length - rs.length) ++ [S.getD (popV rs) noRow] := by
      rw [show S.length - (rs.length - 1) = S.length - rs.length + 1 by omega, List.take_succ_eq_append_getElem (by omega), hpv.1]
      congr 1
      have : S.length - rs.length < S.length := by omega
      simp [this]
    rw [htk]
    refine (hft.mono fun _ _ r => r.keeps st').snoc ?_
    obtain ⟨t', t1, t2, t3, t4, t5, t6, t7, ev', hg⟩ := ft
    cases ev'
    refine ⟨kf, t1, t2, t3, t4, t5, t6, t7, rfl, x' _ _ (fun hm => ?_) ?_⟩
    · have zk := Z₁₈.nw (kf, tupOf us') (.tail _ (.head _))
      simp only [List.map_cons, List.map_nil, List.mem_cons, List.not_mem_nil, or_false] at hm
      rcases hm with h | h | h
      · exact zk.2.1 h
      · exact nkD h.symm
      · exact nkR h.symm
    · rw [(Z₁₈.nw (kf, tupOf us') (.tail _ (.head _))).1, ← hg, e₁₇]
end
end Mine

end
section
open PySem PySem.W PySem.Calls PyProof.Rows PySem.SeqAt
namespace Mine

abbrev eSm (L : Addr) : Env := envOfC (Str.ofString "_law_sums") (scp (st 24)) L 266 (.ref 265)
abbrev Ent : Type := Str × (Int × Int)
abbrev noE : Ent := (⟨#[]⟩, (0, 0))
/-- size, count, place -/
def TT (h : Heap) (v : Value) (e : Ent) : Prop := ∃ t t1 t2 t3, v = .ref t ∧ h.get? t = some (tupOf [.int e.2.1 t1, .int e.2.2 t2, .str e.1 t3])
theorem TT.keeps {h h' : Heap} {v : Value} {e : Ent} (a : TT h v e) (hk : Sub h h') : TT h' v e := let ⟨t, t1, t2, t3, e1, e2⟩ := a; ⟨t, t1, t2, t3, e1, hk _ _ e2⟩
theorem TT.keepsT {h h' : Heap} {v : Value} {e : Ent} (a : TT h v e) (hk : ∀ b us, h.get? b = some (tupOf us) → h'.get? b = some (tupOf us)) : TT h' v e := let ⟨t, t1, t2, t3, e1, e2⟩ := a; ⟨t, t1, t2, t3, e1, hk _ _ e2⟩
/-- a thing that is not in h -/
def NewR (h : Heap) (v : Value) : Prop := ∃ t, v = .ref t ∧ h.get? t = none
theorem TT.row {h : Heap} {v : Value} {e : Ent} (a : TT h v e) : RowAt h v [e.2.1, e.2.2] e.1 0 := by
  obtain ⟨t, t1, t2, t3, e1, e2⟩ := a
  exact ⟨t, [.int e.2.1 t1, .int e.2.2 t2, .str e.1 t3], [], e1, e2, .cons _ _ (.cons _ _ (.nil _ _)), rfl⟩
theorem TT.el {h : Heap} {v v' : Value} {e : Ent} (a : TT h v e) (b : TT h v' e) : ElEq h v v' := by
  obtain ⟨t, t1, t2, t3, rfl, e2⟩ := a
  obtain ⟨u, u1, u2, u3, rfl, f2⟩ := b
  refine .tup e2 f2 rfl fun i x y hx hy => ?_
  match i with
  | 0 => cases hx; cases hy; exact .int _ _ _
  | 1 => cases hx; cases hy; exact .int _ _ _
  | 2 => cases hx; cases hy; exact .str _ _ _
  | _ + 3 => cases hx

/-- the sums in their order: S; σ tells each one's rank -/
structure RankT (T S : List Ent) (σ : List Nat) : Prop where
  perm : σ.Perm (List.range S.length)
  rows : T = σ.map fun r => S.getD r noE
  keys : Keys S.length (fun r => [(S.getD r noE).2.1, (S.getD r noE).2.2]) (fun r => (S.getD r noE).1)
section
variable {T S : List Ent} {σ : List Nat}
theorem RankT.nodup (a : RankT T S σ) : σ.Nodup := a.perm.nodup_iff.mpr List.nodup_range
theorem RankT.lt (a : RankT T S σ) : ∀ r ∈ σ, r < S.length := fun r hr => by simpa using a.perm.mem_iff.mp hr
theorem RankT.mem (a : RankT T S σ) {r : Nat} (hr : r < S.length) : r ∈ σ := a.perm.mem_iff.mpr (by simpa using hr)
theorem RankT.len (a : RankT T S σ) : σ.length = S.length := by simpa using a.perm.length_eq
theorem RankT.lenT (a : RankT T S σ) : T.length = S.length := by have := congrArg List.length a.rows; rw [List.length_map] at this; rw [this, a.len]
theorem RankT.item {R : Value → Ent → Prop} {vs : List Value} (a : RankT T S σ) (h : All2 R vs T) : ∀ r, r < S.length → R (vs.getD (σ.idxOf r) .none) (S.getD r noE) := fun r hr => by
  have hm := a.mem hr
  have hi := List.idxOf_lt_length_of_mem hm
  have hg : T[σ.idxOf r]? = some (S.getD r noE) := by
    rw [a.rows, List.getElem?_map, List.getElem?_eq_getElem hi, List.getElem_idxOf hi]; rfl
  obtain ⟨v, hv, hr'⟩ := h.get hg
  rw [List.getD, hv]; exact hr'
end
theorem All2.rangeE {R : Value → Ent → Prop} {f : Nat → Value} : ∀ {S : List Ent}, (∀ r, r < S.length → R (f r) (S.getD r noE)) → All2 R ((List.range S.length).map f) S
  | [], _ => .nil
  | b :: S, h => by
    rw [List.length_cons, List.range_succ_eq_map, List.map_cons, List.map_map]
    refine .cons (h 0 (by simp)) (All2.rangeE (f := f ∘ Nat.succ) fun r hr => ?_)
    simpa using h (r + 1) (by simpa using hr)
theorem rangeE {S : List Ent} : (List.range S.length).map (fun r => S.getD r noE) = S := by
  apply List.ext_getElem
  · simp
  · intro i h1 h2
    simp at h1
    simp [h1]
theorem Rel.all2 {R : Str → Value → Int × Int → Prop} {kvs : List (Str × Value)} {T : List Ent} (a : Rel R kvs T) : All2 (fun v e => R e.1 v e.2) (kvs.map (·.2)) T := by
  induction a with
  | nil => exact .nil
  | cons r _ ih => exact .cons r ih

section
variable {w : World} {A : Around} {E : Value → Shared → Prop} {h₁ : Heap} {L d : Addr} {s₀ s : Shared} {m : Str → Option Value} {T S : List Ent} {σ : List Nat} {kT : List (Str × Value)} {Q : Flow → Shared → Prop}

set_option maxHeartbeats 8000000 in
theorem sums_rows (G : Gd w h₁) (hh : A.handled = none) (Z : Fm h₁ L s₀ [] m s) (hc : h₁.IsCell (L + 1) (some (.ref d))) (hd : Dct w h₁ d kT) (rT : Rel (TV h₁) kT T) (rk : RankT T S σ) (h2 : 2 ≤ S.length) (h5 : S.length ≤ 5)
    (cont : ∀ R vs ep hx s', Sub h₁ hx → Fm hx L s₀ [(R, listOf vs.toArray ep)] (upd m "rows" (.ref R)) s' → All2 (fun v e => TT hx v e ∧ NewR h₁ v) vs S.reverse → wpAny (MM w) A (execs ((txt (st 24)).drop 1) (eSm L)) Q E s') :
    wpAny (MM w) A (execs (txt (st 24)) (eSm L)) Q E s := by
  have hlT := rk.lenT
  have hlk := rT.len
  have hls := rk.len
  obtain ⟨⟨g1, g2⟩, -⟩ := good_of h2 h5 rk.perm
  have cellK : ∀ {g : Heap}, Sub h₁ g → g.IsCell (L + 1) (some (.ref d)) := fun hs => by
    obtain ⟨oc, e1, e2⟩ := hc
    exact ⟨oc, hs _ _ e1, e2⟩
  have hnd := hd.nodup
  obtain ⟨lo, hD0⟩ := id hd
  obtain ⟨ep, hat⟩ := hD0.dictAt
  refine s_asgW (s₀ := s₀) (e_rev (L := L) (s₀ := s₀) (callN (EvV.bltN (v := .builtin "sorted") G Z.keep) (fun s₁ h₁' r₁ => wpAny_items_cons (e_comp (cl := [("table", L + 1)]) (EvV.go (EvV.cell (cellK (Z.touch h₁' r₁).keep)) fun s₂ h₂ r₂ => ?_) rfl rfl) rfl) rfl rfl))
  have Z₂ := (Z.touch h₁' r₁).touch h₂ r₂
  refine wpAny_pyIter_dict lo (hat.at' fun o e => Z₂.keep d o e) ?_
  obtain ⟨Z₃, n3⟩ := Z₂.new (ob := { cls := .type "dict_keyiterator", data := .fields #[.ref d, .int 0 0, .int kT.length 0, .int ep 0] }) (tk := s₂.toks)
  have zI := Z₃.nw _ (.head _)
  have hIn : s₂.heap.get? s₂.heap.objs.size = none := Heap.get?_none_of_le (Nat.le_refl _)
  have up : Sub s₂.heap (s₂.heap.push { cls := .type "dict_keyiterator", data := .fields #[.ref d, .int 0 0, .int kT.length 0, .int ep 0] }) := fun b o e => Heap.get?_push_of_some _ e
  have hI0 : h₁.get? s₂.heap.objs.size = none := zI.2.2
  generalize s₂.heap.objs.size = I at *
  have hdI : d ≠ I := by rintro rfl; obtain ⟨o, _, e, _⟩ := hat; rw [e] at hI0; cases hI0
  have W := Walks.dictKeys (prog := PR) (w := w) (knd := SK w) (A := A) hh I d hdI kT ep
  have hw0 : ∀ b o, s₂.heap.get? b = some o → b ∉ [I] := fun b o e h => by rw [List.mem_singleton.mp h, hIn] at e; cases e
  refine comp_loop (Trn.ofWalks W keys_alive) ⟨⟨_, zI.1, rfl, rfl⟩, hat.at' fun o e => Z₃.keep d o e⟩ (by omega) (fun i ys hx => All2 (fun v e => TT hx v e ∧ NewR h₁ v) ys (T.take i)) (fun _ => by rw [List.take_zero]; exact .nil) ?_ ?_ (fun i ys _ e => by rw [e.len, List.length_take]; omega)
  · rintro i v ys C hb hx s₄ m₄ E' hi' ⟨k, x, hkx, hkv⟩ hJ hxb hsx Z₄
    obtain ⟨tk, rfl⟩ := Value.isStrOf_shape hkv
    obtain ⟨y, hy, tv⟩ := rT.get hkx
    obtain ⟨tt, ta, tb, rfl, htt⟩ := tv
    have h1b : Sub h₁ hb := fun b o e => hxb b o (hsx b o (hw0 b o (Z₂.keep b o e)) (up b o (Z₂.keep b o e)))
    have hva : valueAt kT k = some (.ref tt) := valueAt_of_get hnd hkx
    refine a_name Z₄ fun s₅ Z₅ => ?_
    have h15 : Sub h₁ s₅.heap := fun b o e => Z₅.keep b o (h1b b o e)
    have ht5 : s₅.heap.get? tt = some (tupOf [.int y.1 ta, .int y.2 tb]) := h15 _ _ htt
    refine e_tuple Z₅ (.cons (EvV.titem (n := 0) (EvV.ditem (EvV.cell (cellK h15)) (EvV.name Z₅.ns (by walk_at "lk")) (hd.keeps h15) hva) EvI.const ht5 (v := .int y.1 ta) rfl (by decide)) (.cons (EvV.titem (n := 1) (EvV.ditem (EvV.cell (cellK h15)) (EvV.name Z₅.ns (by walk_at "lk")) (hd.keeps h15) hva) EvI.const ht5 (v := .int y.2 tb) rfl (by decide)) (.cons (EvV.name Z₅.ns (by walk_at "lk")) .nil))) (by decide) ?_ ?_
    · rintro _ ⟨_, _, rfl, rfl, _, _, rfl, rfl, _, _, rfl, rfl, rfl⟩; rfl
    · rintro _ t s₆ ⟨_, _, rfl, rfl, _, _, rfl, rfl, _, _, rfl, rfl, rfl⟩ Z₆ n6 nt
      refine ⟨_, _, Z₆, fun hx' hxx hnw => ?_⟩
      obtain ⟨hiT, eT⟩ := List.getElem?_eq_some_iff.mp hy
      rw [List.take_succ_eq_append_getElem hiT, eT]
      exact (hJ.mono fun _ _ r => ⟨r.1.keeps hxx, r.2⟩).snoc ⟨⟨t, ta, tb, tk, rfl, hnw _ (.head _)⟩, t, rfl, none_of h15 nt⟩
  · intro D ys hx ep' s₄ hD0 hD hJ hxs hxD hsx r₄ _
    rw [hlk, List.take_length] at hJ
    have u24 : Sub s₂.heap s₄.heap := fun b o e => hxs b o (hsx b o (hw0 b o e) (up b o e))
    have Z₄ := Z₂.ext0 (Rest.trans .heap r₄) fun b o _ e => u24 b o e
    have hJ4 : All2 (fun v e => TT s₄.heap v e ∧ NewR h₁ v) ys T := hJ.mono fun _ _ r => ⟨r.1.keeps hxs, r.2⟩
    have hyl : ys.length = σ.length := by rw [hJ.len]; omega
    refine wpAny_items_nil ⟨.blt, ?_⟩
    have hby := byRank rk.nodup hyl
    have hit : ∀ r, r < S.length → TT s₄.heap ((fun r => ys.getD (σ.idxOf r) .none) r) (S.getD r noE) ∧ NewR h₁ ((fun r => ys.getD (σ.idxOf r) .none) r) := rk.item hJ4
    generalize (fun r => ys.getD (σ.idxOf r) .none) = item at hby hit
    refine call_sortedR (R := D) (item := item) (σ := σ) (ep := ep') (n := S.length) (is := fun r => [(S.getD r noE).2.1, (S.getD r noE).2.2]) (p := fun r => (S.getD r noE).1) (c := 0) (by rw [hD, hby]) (by omega) (by omega) g1 rk.keys rk.lt rk.nodup (fun r hr => by simp) (fun r hr => (hit r (rk.lt r hr)).1.row) ?_
    intro D₂ ep₂ s₅ r₅ x₅ n₅ hD₂
    have Z₅ := Z₄.ext0 r₅ x₅
    rw [g2] at hD₂
    refine ⟨D₂, _, _, _, _, rfl, ⟨_, hD₂, rfl, ep₂, rfl⟩, by rw [sizeR, List.length_range]; omega, Z₅, fun R s₆ Z₆ n6 u6 => ?_⟩
    have hv6 : All2 (fun v e => TT s₆.heap v e ∧ NewR h₁ v) ((List.range S.length).map item).reverse S.reverse := ((All2.rangeE (R := fun v e => TT s₄.heap v e ∧ NewR h₁ v) hit).reverse).mono fun _ _ r => ⟨(r.1.keeps x₅.nil).keeps u6, r.2⟩
    have erv : (ranked item (List.range S.length)).toList.reverse.toArray = (((List.range S.length).map item).reverse).toArray := by simp
    rw [erv] at Z₆
    obtain ⟨hx', st', x', Z₇⟩ := Z₆.rebase
    refine ⟨hx', _, _, Z₇, fun s₇ Z₈ => cont R ((List.range S.length).map item).reverse 0 hx' s₇ st' Z₈ (hv6.mono fun _ _ r => ⟨r.1.keepsT fun b us e => x' b _ (fun hm => ?_) e, r.2⟩)⟩
    simp only [List.map_cons, List.map_nil, List.mem_cons, List.not_mem_nil, or_false] at hm
    rcases hm with rfl | rfl
    · obtain ⟨oL, es, ep', hL, hdL, _⟩ := Z₆.ns
      rw [e] at hL
      injection hL with hL
      rw [← hL] at hdL
      cases hdL
    · have := (Z₆.nw _ (.head _)).1
      rw [e] at this
      injection this with this
      injection this with q1
      simp at q1
end
end Mine

end
section
open PySem PySem.W PySem.Calls PyProof.Rows PySem.SeqAt
namespace Mine

section
variable {w : World} {A : Around} {E : Value → Shared → Prop} {env : Env} {h h₀ : Heap} {L : Addr} {s₀ s : Shared} {news : List (Addr × Obj)} {m : Str → Option Value} {e e₁ e₂ : Expr} {pos sp : Pos}

/-- «x[:n]» of a list, whatever makes n -/
theorem e_uptoW {Q : Value → Shared → Prop} (h : wpAny (MM w) A (eval e env) (fun v s₁ => wpAny (MM w) A (eval e₂ env) (fun y s₂ => ∃ D its n u h₁ news' m', v = .ref D ∧ y = .int ((n : Nat) : Int) u ∧ s₂.heap.IsList D its ∧ its.size ≤ 1000 ∧ Fm h₁ L s₀ news' m' s₂ ∧
      ∀ t s', Fm h₁ L s₀ ((t, listOf (its.toList.take n).toArray 0) :: news') m' s' → (∀ p ∈ news', p.1 ≠ t) → Sub s₂.heap s'.heap → Q (.ref t) s') E s₁) E s) :
    wpAny (MM w) A (eval (.Subscript e (.Slice none (some e₂) none sp) pos) env) Q E s := by
  refine Subscript_ (wpAny_mono h (fun v s₁ h₁ => ?_) fun _ _ e => e)
  refine wpAny_Slice (wpAny_pure ?_)
  rw [evalPart_some]
  refine wpAny_mono h₁ (fun y s₂ h₂ => ?_) fun _ _ e => e
  obtain ⟨D, its, n, u, hb, news', m', rfl, rfl, hD, hsz, Z₂, q⟩ := h₂
  refine wpAny_pure ?_
  obtain ⟨Z₃, n3⟩ := Z₂.new (ob := { cls := .type "slice", data := .fields #[.none, .int (n : Int) u, .none] }) (tk := s₂.toks)
  have hl : Heap.IsList (s₂.heap.push { cls := .type "slice", data := .fields #[.none, .int (n : Int) u, .none] }) D its := hD.push _
  refine tail_any (ops := [.ref s₂.heap.objs.size, .ref D]) (Heap.IsList.typeIs (s := { s₂ with heap := s₂.heap.push { cls := .type "slice", data := .fields #[.none, .int (n : Int) u, .none] } }) hl) list_getitem_lookup
    (wpAny_getItem_list_slice hl (Heap.IsSliceOf.new ..) .none (.int _ _) .none (by simp) ?_ (by rw [sizeLine_eq]; omega)) (by with_unfolding_all rfl)
  rw [slicePick_upto']
  obtain ⟨Z₄, n4⟩ := Z₃.new (ob := listOf (its.toList.take n).toArray 0) (tk := s₂.toks)
  refine q _ _ (Z₄.sub fun p hp => ?_) (fun p hp => n4 p (.tail _ hp)) ?_
  · rcases List.mem_cons.mp hp with rfl | hp
    · exact .head _
    · exact .tail _ (.tail _ hp)
  · exact fun b o e => Heap.get?_push_of_some _ (Heap.get?_push_of_some _ e)

variable {ev : Nat → Value} {S : List Ent} {scope : Scope} {iter : Expr} {p0 p1 p2 p3 p4 p5 p6 p7 : Pos} {k : Nat}
/-- «[(one.size, one.count, one.traceback) for one in x]» -/
theorem e_threes {Q : Value → Shared → Prop} (G : Gd w h₀) (hh : A.handled = none) (dv : ∀ r, r < S.length → SV h₀ (S.getD r noE).1 (ev r) (S.getD r noE).2)
    (h : wpAny (MM w) A (eval iter env) (fun v s₁ => ∃ D rs ep, v = .ref D ∧ s₁.heap.get? D = some (listOf (ranked ev rs) ep) ∧ rs.length ≤ 8 ∧ (∀ r ∈ rs, r < S.length) ∧ Sub h₀ s₁.heap ∧
      ∀ R ys ep' s', Rest s₁ s' → Sub s₁.heap s'.heap → s'.heap.get? R = some (listOf ys.toArray ep') → All2 (TT s'.heap) ys (rs.map fun r => S.getD r noE) → Q (.ref R) s') E s)
    (hclos : closureFor scope env = pure [] := by rfl) (hkind : scope.kind = .function := by rfl) (hnames : ∀ y ∈ scope.names, y.2 = .local → scope.names.lookup y.1 = some .local := by decide) (hcell : ∀ y ∈ scope.names, y.2 ≠ .cell := by decide)
    (hs : ∀ x, foldedSetIterable iter env x = pure x := by intro _; rfl) (l1 : scope.names.lookup (Str.ofString "one") = some .local := by rfl) :
    wpAny (MM w) A (eval (.ListComp (.Tuple [.Attribute (.Name "one" p0) "size" p1, .Attribute (.Name "one" p2) "count" p3, .Attribute (.Name "one" p4) "traceback" p5] k p6) [⟨.Name "one" p7, iter, [], 0⟩] scope pos) env) Q E s := by
  refine e_comp (cl := []) (wpAny_mono h (fun v s₁ h₁ => ?_) fun _ _ e => e) hclos hkind hnames hs
  obtain ⟨D, rs, ep, rfl, hD, h8, hlt, hsub, cont⟩ := h₁
  have hDl : s₁.heap.IsList D (ranked ev rs) := ⟨_, hD, rfl, ep, rfl⟩
  refine wpAny_pyIter_list hDl ?_
  have hltD : D < s₁.heap.objs.size := Heap.lt_size hD
  have hmm : ∀ i, i < rs.length → rs.getD i 0 ∈ rs := fun i hi => by simp [hi]
  have hget : ∀ (i : Nat) (v : Value), (ranked ev rs)[i]? = some v → i < rs.length ∧ v = ev (rs.getD i 0) := fun i v e => by
    have hi : i < rs.length := by have := (Array.getElem?_eq_some_iff.mp e).1; simpa using this
    rw [ranked_get hi] at e
    exact ⟨hi, (Option.some.inj e).symm⟩
  have W := Walks.list (prog := PR) (w := w) (A := A) hh s₁.heap.objs.size D (Nat.ne_of_lt hltD) (ranked ev rs)
  have hnI : ∀ b o, s₁.heap.get? b = some o → b ∉ [s₁.heap.objs.size] := fun b o e q => by rw [List.mem_singleton.mp q] at e; exact Nat.lt_irrefl _ (Heap.lt_size e)
  refine comp_loop (Trn.ofWalks W ?_) ⟨⟨_, Heap.get?_push_size _ rfl, rfl, rfl⟩, ⟨_, Heap.get?_push_of_some _ hD, rfl, ep, rfl⟩⟩ (by rw [sizeR]; omega) (fun i ys hx => All2 (TT hx) ys ((rs.take i).map fun r => S.getD r noE)) (fun _ => by rw [List.take_zero]; exact .nil) ?_ ?_ (fun i ys _ e => by rw [e.len, List.length_map, List.length_take]; omega) hcell hkind
  · intro i h st b hb
    simp only [List.mem_cons, List.not_mem_nil, or_false] at hb
    rcases hb with rfl | rfl
    · obtain ⟨o, e, _⟩ := st.1; exact ⟨o, e⟩
    · obtain ⟨o, e, _⟩ := st.2; exact ⟨o, e⟩
  · intro i v ys C hb hx s₂ m₂ E' hi' hP hJ hxb hsx Z₂
    obtain ⟨hi, rfl⟩ := hget i v hP
    have h0x : Sub h₀ hx := fun b o e => hsx b o (hnI b o (hsub b o e)) (Heap.get?_push_of_some _ (hsub b o e))
    have h0b : Sub h₀ hb := fun b o e => hxb b o (h0x b o e)
    have G₂ := G.keeps h0b
    refine a_name Z₂ (fun s₃ Z₃ => ?_) rfl hkind (lookup_relabel_local l1)
    obtain ⟨a, t1, t2, t3, ea, Ia⟩ := dv _ (hlt _ (hmm i hi))
    have I₃ := (Ia.keeps h0b).keeps Z₃.keep
    have nm : ∀ {q : Pos}, EvV w A (compEnvC scope [] C env) s₃.heap (.Name "one" q) (.ref a) := EvV.name Z₃.ns (by rw [← ea]; exact upd_same) rfl hkind (lookup_relabel_local l1)
    refine e_tuple Z₃ (.cons (EvV.attr G₂ Z₃.keep nm I₃ (st_size w) rfl rfl) (.cons (EvV.attr G₂ Z₃.keep nm I₃ (st_count w) rfl rfl) (.cons (EvV.attr G₂ Z₃.keep nm I₃ (st_tb w) rfl rfl) .nil))) (by simp) ?_ ?_
    · rintro _ ⟨_, _, rfl, rfl, _, _, rfl, rfl, _, _, rfl, rfl, rfl⟩; rfl
    · rintro _ t s₄ ⟨_, _, rfl, rfl, _, _, rfl, rfl, _, _, rfl, rfl, rfl⟩ Z₄ n4 nt
      refine ⟨_, _, Z₄, fun hx' hxx hnw => ?_⟩
      rw [List.take_succ_eq_append_getElem hi, List.map_append]
      have hgd : rs[i] = rs.getD i 0 := by simp [hi]
      refine (hJ.mono fun _ _ r => r.keeps hxx).snoc ?_
      rw [hgd]
      exact ⟨t, t2, t1, t3, rfl, hnw _ (.head _)⟩
  · intro R ys hx ep' s' hR0 hR hJ hxs hxR hsx r' _
    have e : rs.take (ranked ev rs).size = rs := by rw [sizeR, List.take_length]
    rw [e] at hJ
    exact cont R ys ep' s' (Rest.trans .heap r') (fun b o e => hxs b o (hsx b o (hnI b o e) (Heap.get?_push_of_some _ e))) hR (hJ.mono fun _ _ r => r.keeps hxs)
end

section
variable {w : World} {A : Around} {E : Value → Shared → Prop} {h₀ : Heap} {dS dT : Addr} {s : Shared} {T S : List Ent} {σ : List Nat} {kS kT : List (Str × Value)} {N : Int} {outer : List Env} {Q : Value → Shared → Prop}

set_option maxHeartbeats 8000000 in
theorem sums_spec {t : Tok} (G : Gd w h₀) (hk₀ : Sub h₀ s.heap) (hdS : Dct w h₀ dS kS) (rS : Rel (SV h₀) kS T) (hdT : Dct w h₀ dT kT) (rT : Rel (TV h₀) kT T) (rk : RankT T S σ) (h2 : 2 ≤ S.length) (h5 : S.length ≤ 5) (hN : N ∈ wishes)
    (hh : A.handled = none) (hroom : A.depth + 40 < recursionLimit) (hu : A.units + 500 < cLine) (hfr : A.frames = some outer) (hO : OutF s.heap outer) (hF0 : ∀ b ∈ outer.filterMap (·.frame), h₀.get? b = none)
    (ret : ∀ s', Rest s s' → ExtF (outer.filterMap (·.frame)) s.heap s'.heap → Q (.bool true) s') :
    wpAny (MM w) A (call (.ref 266) [.ref dS, .ref dT, .int N t]) Q E s := by
  have hlT := rk.lenT
  have hlS := rS.len
  have hls := rk.len
  obtain ⟨⟨g1, g2⟩, g3⟩ := good_of h2 h5 rk.perm
  refine' callFC (binds := [("sums", .ref dS), ("table", .ref dT), ("wish", .int N t)]) G hk₀ [] ?hm ?ho ?hc (by omega) ?hb ?hl ?_ ?c2 ?c3 ?c4; (case ho => k_is); (case hc => k_is); (case hb => exact BindsTo.of_eq rfl); (case c2 => exact rfl); (case c3 => exact rfl); (case c4 => exact rfl); (case hm => exact fun _ h => nomatch h)
  case hl =>
    intro n x hx
    simp only [List.mem_cons, List.not_mem_nil, or_false] at hx
    rcases hx with rfl | rfl | rfl
    · exact .inl rfl
    · exact .inr ⟨rfl, rfl⟩
    · exact .inl rfl
  intro h₁ L s₁ A' E' Q' hh' hu' hd' hfr' hQ hQn G₁ st hext Z hcl
  have hc1 : h₁.IsCell (L + 1) (some (.ref dT)) := hcl "table" (L + 1) rfl
  have hhA : A'.handled = none := hh'.trans hh
  have hfA : A'.frames = some (eSm L :: outer) := by rw [hfr', hfr]; rfl
  have hFin : ∀ b ∈ outer.filterMap (·.frame), ∃ o, h₁.get? b = some o := fun b hb => by
    obtain ⟨o, e, _⟩ := hO.mem b hb
    exact ⟨o, hext.nil b o e⟩
  refine sums_rows G₁ hhA Z hc1 (hdT.keeps st) (rT.mono fun _ _ _ r => r.keeps st) rk h2 h5 fun R vs ep hx s₂ hsx Z₂ hvs => ?_
  have h0x : Sub h₀ hx := fun b o e => hsx b o (st b o e)
  have Gx := G₁.keeps hsx
  refine s_asgW (s₀ := s) (callK (EvV.glob Gx Z₂.keep (by k_is)) (fun s₃ h₃ r₃ => wpAny_items_cons (EvV.go (EvV.name (Z₂.touch h₃ r₃).ns (by walk_at "lk")) fun s₄ h₄ r₄ => wpAny_items_cons ?_ rfl) rfl) rfl rfl rfl)
  have Z₄ := (Z₂.touch h₃ r₃).touch h₄ r₄
  refine e_values (kvs := kS) Z₄ (EvV.name Z₄.ns (by walk_at "lk")) (hdS.keeps fun b o e => Z₄.keep b o (h0x b o e)) fun V s₅ Z₅ n5 u5 => wpAny_items_nil ?_
  refine kwAll_cons (EvV.go (EvV.statKey Gx Z₅.keep) fun s₆ h₆ r₆ => kwAll_nil ⟨.K Gx (h₆ ▸ Z₅.keep) (by k_is), ?_⟩)
  have Z₆ := Z₅.touch h₆ r₆
  have zV := Z₆.nw _ (.head _)
  have zR := Z₆.nw _ (.tail _ (.head _))
  have hLo : ∃ oL, s₆.heap.get? L = some oL ∧ ∀ vs, oL.data ≠ .fields vs := by
    obtain ⟨oL, es, ep, hL, hd, _⟩ := Z₆.ns
    exact ⟨oL, hL, fun vs q => by rw [hd] at q; cases q⟩
  obtain ⟨oL, hL, hLd⟩ := hLo
  have hO6 : OutF s₆.heap (eSm L :: outer) := ⟨(by intro q; cases q), ⟨L, oL, rfl, hL, hLd⟩, hO.sub fun b o e => Z₆.keep b o (hsx b o (hext.nil b o e))⟩
  have hFl : (eSm L :: outer).filterMap (·.frame) = L :: outer.filterMap (·.frame) := by rw [List.filterMap_cons]; rfl
  have notF : ∀ b, h₁.get? b = none → b ∉ outer.filterMap (·.frame) := fun b e h => by obtain ⟨o, q⟩ := hFin b h; rw [e] at q; cases q
  have h1n : ∀ b, hx.get? b = none → h₁.get? b = none := fun b e => by
    cases q : h₁.get? b with
    | none => rfl
    | some o => rw [hsx _ _ q] at e; cases e
  have off : ∀ b, b ≠ L → h₁.get? b = none → b ∉ L :: outer.filterMap (·.frame) := fun b n e h => by
    rcases List.mem_cons.mp h with h | h
    · exact n h
    · exact notF b e h
  have h0q : Sub h₀ (hideAll s₆.heap (L :: outer.filterMap (·.frame))) := fun b o e => hideAll_get _ (Z₆.keep b o (h0x b o e)) (fun h => by
    rcases List.mem_cons.mp h with rfl | h
    · have := st _ _ e; rw [Z.off] at this; cases this
    · rw [hF0 b h] at e; cases e)
  have hVq : (hideAll s₆.heap (L :: outer.filterMap (·.frame))).IsValuesView V dS := ⟨_, hideAll_get _ zV.1 (off _ zV.2.1 (h1n _ zV.2.2)), rfl, rfl⟩
  have hqs : Sub (hideAll s₆.heap (L :: outer.filterMap (·.frame))) s₆.heap := fun b o e => of_hideAll _ e
  have hqn : ∀ b ∈ L :: outer.filterMap (·.frame), (hideAll s₆.heap (L :: outer.filterMap (·.frame))).get? b = none := fun b hb => hideAll_none _ hb
  generalize hideAll s₆.heap (L :: outer.filterMap (·.frame)) = hq at *
  have Gq := G.keeps h0q
  obtain ⟨epS, hat⟩ := (hdS.keeps h0q).2.dictAt
  have a2 : All2 (fun v e => SV hq e.1 v e.2) (kS.map (·.2)) T := (rS.mono fun _ _ _ r => r.keeps h0q).all2
  have hby := byRank rk.nodup (show (kS.map (·.2)).length = σ.length by rw [List.length_map]; omega)
  have hit : ∀ r, r < S.length → SV hq (S.getD r noE).1 ((fun r => (kS.map (·.2)).getD (σ.idxOf r) .none) r) (S.getD r noE).2 := rk.item a2
  have hSr := Src.vals (w := w) hVq hat
  have hLn := LenIs.vals (w := w) hVq hat (by omega)
  have hCo := CollIs.vals (w := w) hVq hat (by omega)
  rw [hby] at hSr hCo
  have hln : kS.length = (σ.map (fun r => (kS.map (·.2)).getD (σ.idxOf r) .none)).length := by rw [List.length_map]; omega
  rw [hln] at hLn
  generalize (fun r => (kS.map (·.2)).getD (σ.idxOf r) .none) = iv at hSr hCo hLn hit
  have kc : KC w hq 71 S.length iv (fun r => [(S.getD r noE).2.1, (S.getD r noE).2.2]) (fun r => (S.getD r noE).1) := by
    refine ⟨rk.keys, fun r hr => ?_, by k_is, fun r hr => by simp, fun r hr => ?_⟩
    · obtain ⟨a, t1, t2, t3, ea, Ia⟩ := hit r hr
      rw [ea]
      exact statKey Gq Ia
    · obtain ⟨a, t1, t2, t3, ea, dx, od, i1, i2, i3⟩ := hit r hr
      exact ⟨a, _, ea, i1, by intro q; cases q⟩
  show wpAny (MM w) A' (call (.ref 223) [.int N t, .ref V] [("key", .ref 71)]) _ _ _
  refine nlargest_spec (mu := []) (en := False) (ρ := σ) (ev := iv) Gq hqs (fun _ h => nomatch h) (by omega) (by omega) hhA hSr (.inl ⟨rfl, hCo, hLn⟩) kc rfl rk.nodup rk.lt (by omega) (by omega) (by rw [hls]; exact rk.mem (by omega)) hls.symm (wish_bd hN) (by rw [hls]; exact (g3 N hN).2) hfA hO6 (by rw [hFl]; exact hqn) (fun _ h => nomatch h) ?_
  intro D ep' s₇ r₇ x₇ hD
  rw [hFl, List.map_nil, List.nil_append] at x₇
  rw [hls] at hD
  have h67 : Sub hq (hideAll s₇.heap [L]) := fun b o e => hideAll_get _ (x₇.ext b o (fun h => by rw [hqn b h] at e; cases e) (hqs b o e)) (fun h => by rw [List.mem_singleton.mp h, hqn L (.head _)] at e; cases e)
  have keepN : ∀ b o, b ≠ L → h₁.get? b = none → s₆.heap.get? b = some o → (hideAll s₇.heap [L]).get? b = some o := fun b o n e q => hideAll_get _ (x₇.ext b o (off b n e) q) (by simpa using n)
  have hvs7 : All2 (TT (hideAll s₇.heap [L])) vs S.reverse := hvs.mono fun v e r => by
    obtain ⟨⟨t', t1, t2, t3, rfl, e2⟩, t'', q, qn⟩ := r
    cases q
    exact ⟨t', t1, t2, t3, rfl, keepN _ _ (by rintro rfl; rw [Z₂.off] at e2; cases e2) qn (Z₆.keep _ _ e2)⟩
  have hR7 := keepN R _ zR.2.1 (h1n _ zR.2.2) zR.1
  have Z₇ : Fm (hideAll s₇.heap [L]) L s [] _ s₇ := ⟨x₇.ns Z₆.ns, fun b o e => of_hideAll _ e, hideAll_none _ (.head _), fun _ h => (nomatch h), Z₆.rest.trans r₇⟩
  have hD7 : (hideAll s₇.heap [L]).get? D = some (listOf (ranked iv ((List.range S.length).reverse.take N.toNat)) ep') := hideAll_get _ hD (fun h => by
    obtain ⟨oL, es, ep, hL, hd, _⟩ := Z₇.ns
    rw [← List.mem_singleton.mp h, hD] at hL
    injection hL with hL
    rw [← hL] at hd
    cases hd)
  have slots7 : ∀ b o, s.heap.get? b = some o → (b ∉ outer.filterMap (·.frame) → (hideAll s₇.heap [L]).get? b = some o) ∧ ((∀ vs, o.data ≠ .fields vs) → ∃ sl, (hideAll s₇.heap [L]).get? b = some { o with slots := sl }) := fun b o e => by
    have e1 := hext.nil b o e
    have e6 := Z₆.keep b o (hsx b o e1)
    have hbL : b ∉ [L] := fun h => by rw [List.mem_singleton.mp h, Z.off] at e1; cases e1
    refine ⟨fun hn => hideAll_get _ (x₇.ext b o (fun h => ?_) e6) hbL, fun hn => ?_⟩
    · rcases List.mem_cons.mp h with h | h
      · exact hbL (by simp [h])
      · exact hn h
    · obtain ⟨sl, q⟩ := x₇.slots b o e6 hn
      exact ⟨sl, hideAll_get _ q hbL⟩
  generalize hideAll s₇.heap [L] = hz at *
  refine ⟨hz, [], _, Z₇, fun s₈ Z₈ => ?_⟩
  have Gz := Gq.keeps h67
  refine s_ret (wpAny_Compare1 (e_threes (S := S) (ev := iv) (h₀ := hz) Gz hhA (fun r hr => (hit r hr).keeps h67) (EvV.go (EvV.name Z₈.ns (by walk_at "lk")) fun s₉ h₉ r₉ => ?_) rfl))
  have Z₉ := Z₈.touch h₉ r₉
  refine ⟨D, _, ep', rfl, Z₉.keep _ _ hD7, ?_, ?_, Z₉.keep, fun R₂ ys ep₂ s₁₀ r₁₀ u₁₀ hR₂ hys => ?_⟩
  · rw [List.length_take, List.length_reverse, List.length_range]; omega
  · intro r hr; simpa using List.mem_of_mem_take hr
  have Z₁₀ := Z₉.ext0 r₁₀ fun b o _ e => u₁₀ b o e
  refine e_uptoW (L := L) (s₀ := s) (EvV.go (EvV.name Z₁₀.ns (by walk_at "lk")) fun s₁₁ h₁₁ r₁₁ => ?_)
  have Z₁₁ := Z₁₀.touch h₁₁ r₁₁
  refine callP2 (EvV.bltN (v := .builtin "max") Gz Z₁₁.keep) .blt (EvV.name Z₁₁.ns (by walk_at "lk")) EvI.const (fun v v' s₁₂ hv hv' h₁₂ r₁₂ => ?_) rfl rfl
  subst hv
  obtain ⟨u, rfl⟩ := hv'
  have Z₁₂ := Z₁₁.touch h₁₂ r₁₂
  refine max_two_ints hhA fun h' tk hk => ?_
  have Z₁₃ := Z₁₂.grew (h' := h') (tk := tk) hk
  have hm : ∃ tm, (if 0 > N then Value.int 0 u else .int N t) = .int (N.toNat : Int) tm := by
    by_cases h : 0 > N
    · rw [if_pos h]; exact ⟨u, by congr 1; omega⟩
    · rw [if_neg h]; exact ⟨t, by congr 1; omega⟩
  obtain ⟨tm, hm⟩ := hm
  have hvl : vs.length = S.length := by rw [hvs.len, List.length_reverse]
  refine ⟨R, vs.toArray, N.toNat, tm, _, _, _, rfl, hm, ⟨_, Z₁₃.keep _ _ hR7, rfl, ep, rfl⟩, by simp; omega, Z₁₃, fun t' s₁₄ Z₁₄ n₁₄ u₁₄ => ?_⟩
  have u10_14 : Sub s₁₀.heap s₁₄.heap := fun b o e => u₁₄ b o (hk b o (by rw [h₁₂, h₁₁]; exact e))
  have hrows : ((List.range S.length).reverse.take N.toNat).map (fun r => S.getD r noE) = S.reverse.take N.toNat := by rw [List.map_take, List.map_reverse, rangeE]
  rw [hrows] at hys
  obtain ⟨hz', hel⟩ := All2.els (hys.mono fun _ _ r => r.keeps u10_14) ((hvs7.take N.toNat).mono fun _ _ r => r.keeps Z₁₄.keep) fun _ _ _ a b => TT.el a b
  refine lists_eq (vs := ys) (us := vs.take N.toNat) (u10_14 _ _ hR₂) (by have := (Z₁₄.nw _ (.head _)).1; simpa using this) hz' hel (by omega) (hQ _ _ (ret _ Z₁₄.rest ⟨fun b o hb e => Z₁₄.keep b o ((slots7 b o e).1 hb), fun b o e hn => ?_⟩))
  obtain ⟨sl, q⟩ := (slots7 b o e).2 hn
  exact ⟨sl, Z₁₄.keep _ _ q⟩
end
end Mine

end
section
open PySem PySem.W PySem.Calls PyProof.Rows PySem.SeqAt
namespace Mine

/-- tuples, made things, empty dicts: what is told of sums and differences rests on these -/
inductive Pl : Obj → Prop
  | tup (us : List Value) : Pl (tupOf us)
  | inst (C dx : Addr) (sl : Array (Option Value)) : Pl (inst C dx sl)
  | emp : Pl emptyDict
def SubP (h h' : Heap) : Prop := ∀ b o, Pl o → h.get? b = some o → h'.get? b = some o
theorem TV.keepsP {h h' : Heap} {k : Str} {v : Value} {x : Int × Int} (a : TV h k v x) (hk : SubP h h') : TV h' k v x := let ⟨t, ta, tb, e1, e2⟩ := a; ⟨t, ta, tb, e1, hk _ _ (.tup _) e2⟩
theorem InstH.keepsP {h h' : Heap} {x C : Addr} {sl : Array (Option Value)} (a : InstH h x C sl) (hk : SubP h h') : InstH h' x C sl := by
  obtain ⟨dx, od, h1, h2, rfl⟩ := a
  exact ⟨dx, _, hk _ _ (.inst _ _ _) h1, hk _ _ .emp h2, rfl⟩
theorem SV.keepsP {h h' : Heap} {p : Str} {v : Value} {x : Int × Int} (a : SV h p v x) (hk : SubP h h') : SV h' p v x := let ⟨a, t1, t2, t3, e1, e2⟩ := a; ⟨a, t1, t2, t3, e1, e2.keepsP hk⟩
theorem DV.keepsP {h h' : Heap} {v : Value} {r : Row} (a : DV h v r) (hk : SubP h h') : DV h' v r := let ⟨a, t1, t2, t3, t4, t5, e1, e2⟩ := a; ⟨a, t1, t2, t3, t4, t5, e1, e2.keepsP hk⟩
theorem FT.keepsP {h h' : Heap} {v : Value} {r : Row} (a : FT h v r) (hk : SubP h h') : FT h' v r := let ⟨t, t1, t2, t3, t4, t5, t6, t7, e1, e2⟩ := a; ⟨t, t1, t2, t3, t4, t5, t6, t7, e1, hk _ _ (.tup _) e2⟩

theorem notPl_cell {o : Obj} {v : Option Value} (h : o.data = .cell v) : ¬ Pl o := by
  rintro (_ | _ | _) <;> cases h
theorem notPl_list {its : Array Value} {ep : Nat} : ¬ Pl (listOf its ep) := by
  intro h
  generalize e : listOf its ep = o at h
  cases h with
  | tup us => injection e with e; simp at e
  | inst C dx sl => injection e with e; cases e
  | emp => injection e with e; simp at e
theorem notPl_dict {w : World} {o : Obj} {kvs : List (Str × Value)} (h : DOb w o kvs) (hne : kvs ≠ []) : ¬ Pl o := by
  obtain ⟨es, ep, _, hd, _, hp, _⟩ := h
  rintro (_ | _ | _)
  · cases hd
  · cases hd
  · cases hd
    have := hp.length
    simp at this
    exact hne (List.eq_nil_of_length_eq_zero this.symm)
theorem notPl_ns {h : Heap} {L : Addr} {m : Str → Option Value} {x : Str} {v : Value} {o : Obj} (hn : h.Ns L m) (hx : m x = some v) (ho : h.get? L = some o) : ¬ Pl o := by
  obtain ⟨o', es, ep, ho', hd, _, hf⟩ := hn
  rw [ho] at ho'
  cases ho'
  rintro (_ | _ | _)
  · cases hd
  · cases hd
  · cases hd
    have := hf x
    rw [hx] at this
    simp [nsFind, findBy] at this

section
variable {w : World} {A : Around} {E : Value → Shared → Prop} {env : Env} {h h₀ : Heap} {L : Addr} {s₀ s : Shared} {news : List (Addr × Obj)} {m : Str → Option Value} {e e₁ e₂ : Expr} {pos p1 p2 tp np : Pos}

/-- a new base, with all that is told of tuples and made things -/
theorem Fm.rebaseP {x : Str} {v : Value} (Z : Fm h₀ L s₀ news m s) (hx : m x = some v) (hn : ∀ p ∈ news, ¬ Pl p.2) :
    ∃ h₁, Sub h₀ h₁ ∧ SubP s.heap h₁ ∧ Ext (L :: news.map (·.1)) s.heap h₁ ∧ Fm h₁ L s₀ news m s := by
  obtain ⟨h₁, a, b, c⟩ := Z.rebase
  refine ⟨h₁, a, fun d o hp e => b d o (fun hm => ?_) e, b, c⟩
  rcases List.mem_cons.mp hm with rfl | hm
  · exact notPl_ns Z.ns hx e hp
  · obtain ⟨p, hp', rfl⟩ := List.mem_map.mp hm
    rw [(Z.nw p hp').1] at e
    cases e
    exact hn p hp' hp

/-- «a, b = t», b in a cell -/
theorem a_unpack2c {T c : Addr} {oc : Obj} {v₀ : Option Value} {a b : Str} {v1 v2 : Value} {k : Nat} {Q : Unit → Shared → Prop} (hh : A.handled = none) (Z : Fm h₀ L s₀ [(c, oc)] m s) (ho : oc.data = .cell v₀) (hT : s.heap.IsTuple T #[v1, v2])
    (h : ∀ oc' s', oc'.data = .cell (some v2) → Fm h₀ L s₀ [(c, oc')] (upd m a v1) s' → Q () s') (hL : env.locals = L := by rfl) (hk : env.scope.kind = .function := by rfl) (ha : env.kindOf a = some .local := by rfl) (hb : env.kindOf b = some .cell := by rfl) (hc : env.cells.lookup b = some c := by rfl) :
    wpAny (MM w) A (assign (.Tuple [.Name a p1, .Name b p2] k tp) env (.ref T)) Q E s := by
  refine wpAny_assign_Tuple hh hT rfl rfl fun h₁ he₁ => ?_
  have Z₁ := Z.grew (tk := s.toks) (h' := h₁) fun c o e => he₁ c o (Nat.ne_of_lt (Heap.lt_size e)) e
  show wpAny _ _ (assignInOrder [assign (.Name a p1) env, assign (.Name b p2) env] [v1, v2]) _ _ _
  refine assignInOrder_cons (wpAny_assign_Name (Z₁.store (fun s₂ Z₂ => ?_) hL hk ha))
  refine assignInOrder_cons (wpAny_assign_Name (wpAny_storeName_cell hk hb hc ⟨oc, (Z₂.nw _ (.head _)).1, ho⟩ fun h' hv hs => assignInOrder_nil ?_))
  obtain ⟨o', ho', hd'⟩ := hv
  exact h o' _ hd' (Z₂.chg (tk := s₂.toks) hs ho' fun _ => not_nil)

/-- «sum(x)» of a list of ints -/
theorem e_sum {l : Addr} {vs : List Value} {ns : List Int} {Q : Value → Shared → Prop} (G : Gd w h₀) (hh : A.handled = none) (Z : Fm h₀ L s₀ news m s) (a : EvV w A env s.heap e (.ref l)) (hl : h₀.IsList l vs.toArray) (hi : IntsAre vs ns)
    (h : ∀ t s', Fm h₀ L s₀ news m s' → Sub s.heap s'.heap → Q (.int ns.sum t) s') (hg : env.globals = mainGlobals := by rfl) (hb : env.builtins = builtinsNs := by rfl) (hk : env.scope.kind = .function := by rfl) (hx : env.kindOf "sum" = some .globalImplicit := by rfl)
    (he : starEach [e] env = [(false, eval e env)] := by rfl) :
    wpAny (MM w) A (eval (.Call (.Name "sum" np) [e] [] pos) env) Q E s := by
  refine callP1 (f := .builtin "sum") (EvV.bltN G Z.keep (by k_is) (by decide +kernel) (by decide) hg hb hk hx) .blt a (fun v s₁ hv h₁ r₁ => ?_) he
  subst hv
  have Z₁ := Z.touch h₁ r₁
  obtain ⟨xs, hxs⟩ := hi.allInts.items
  have hl' : s₁.heap.IsList l (intItems xs) := by rw [← hxs]; obtain ⟨o, q1, q2⟩ := hl; exact ⟨o, Z₁.keep _ _ q1, q2⟩
  refine sum_intListG hh hl' fun h' tk t' hkp => ?_
  have e1 : ns = xs.toList.map (·.1) := by
    rw [← nums_intItems, ← hxs]
    exact (show numsOf vs.toArray.toList = ns from hi.numsOf).symm
  have e2 : preSum (numAt xs) xs.size = ns.sum := by
    rw [preSum_eq, List.take_of_length_le (by simp), e1]
  rw [e2]
  exact h t' _ (Z₁.grew (tk := tk) hkp) fun b o e => hkp b o (by rw [h₁]; exact e)

/-- «list(d)» of a dict -/
theorem e_listD {d : Addr} {kvs : List (Str × Value)} {Q : Value → Shared → Prop} (G : Gd w h₀) (hh : A.handled = none) (Z : Fm h₀ L s₀ news m s) (a : EvV w A env s.heap e (.ref d)) (hd : Dct w h₀ d kvs) (h9 : kvs.length ≤ 99)
    (h : ∀ R vs ep s', Fm h₀ L s₀ news m s' → Sub s.heap s'.heap → s'.heap.get? R = some (listOf vs.toArray ep) → All2 (fun v k => ∃ t, v = .str k t) vs (kvs.map (·.1)) → Q (.ref R) s') (hg : env.globals = mainGlobals := by rfl) (hb : env.builtins = builtinsNs := by rfl) (hk : env.scope.kind = .function := by rfl) (hx : env.kindOf "list" = some .globalImplicit := by rfl)
    (he : starEach [e] env = [(false, eval e env)] := by rfl) :
    wpAny (MM w) A (eval (.Call (.Name "list" np) [e] [] pos) env) Q E s := by
  refine callP1 (f := .type "list") (EvV.bltN G Z.keep (by k_is) (by decide +kernel) (by decide) hg hb hk hx) .type a (fun v s₁ hv h₁ r₁ => ?_) he
  subst hv
  have Z₁ := Z.touch h₁ r₁
  obtain ⟨lo, hD0⟩ := hd
  obtain ⟨ep, hat⟩ := hD0.dictAt
  refine kdl_call (kdl_dict (kvs := kvs) (knd := SK w) (ep := ep) lo) hh (hat.at' fun o e => Z₁.keep d o e) (by rw [sizeLine_eq]; omega) fun h' tk acc c' hkp hS hacc => ?_
  refine h _ acc.toList c' _ (Z₁.grew (tk := tk) hkp) (fun b o e => hkp b o (by rw [h₁]; exact e)) (by simpa using hS) ?_
  obtain ⟨hz, hP⟩ := hacc
  have : ∀ (n : Nat), n ≤ kvs.length → All2 (fun v k => ∃ t, v = .str k t) (acc.toList.take n) ((kvs.map (·.1)).take n) := by
    intro n
    induction n with
    | zero => intro _; exact .nil
    | succ n ih =>
      intro hn
      have hna : n < acc.toList.length := by simp [hz]; omega
      rw [List.take_succ_eq_append_getElem hna, List.take_succ_eq_append_getElem (by simp; omega)]
      refine (ih (by omega)).snoc ?_
      obtain ⟨k, x, hkx, hkv⟩ := hP n acc[n] (by simp at hna; simp [hna])
      obtain ⟨t, ht⟩ := Value.isStrOf_shape hkv
      have hkk : (kvs.map (·.1))[n]'(by simp; omega) = k := by
        obtain ⟨_, q⟩ := List.getElem?_eq_some_iff.mp hkx
        simp [q]
      rw [hkk]
      exact ⟨t, by simpa using ht⟩
  have := this kvs.length (Nat.le_refl _)
  rwa [List.take_of_length_le (by simp [hz]), List.take_of_length_le (by simp)] at this
end
end Mine

end
section
open PySem PySem.W PySem.Calls PyProof.Rows PySem.SeqAt
namespace Mine

theorem perm_of_mem {α : Type} [DecidableEq α] {l l' : List α} (h1 : l.Nodup) (h2 : l'.Nodup) (h : ∀ a, a ∈ l ↔ a ∈ l') : l.Perm l' := by
  rw [List.perm_iff_count]
  intro a
  by_cases ha : a ∈ l
  · rw [h1.count, h2.count, if_pos ha, if_pos ((h a).mp ha)]
  · rw [List.count_eq_zero.mpr ha, List.count_eq_zero.mpr fun q => ha ((h a).mpr q)]

theorem sl_irr (p : Str) : ¬ p.cps.toList < p.cps.toList := List.lt_irrefl _
theorem sl_asy {p q : Str} (h : p.cps.toList < q.cps.toList) : ¬ q.cps.toList < p.cps.toList := fun h' => List.lt_irrefl _ (List.lt_trans h h')
theorem sl_tot {p q : Str} (h : p ≠ q) : p.cps.toList < q.cps.toList ∨ q.cps.toList < p.cps.toList := by
  by_cases h1 : p.cps.toList < q.cps.toList
  · exact .inl h1
  · by_cases h2 : q.cps.toList < p.cps.toList
    · exact .inr h2
    · refine absurd ?_ h
      have := List.le_antisymm (List.not_lt.mp h2) (List.not_lt.mp h1)
      cases p; cases q
      simp at this
      rw [this]

theorem klt_irr : ∀ (a : List Int) (p : Str), klt a p a p = false
  | [], p => by simp [klt]
  | x :: a, p => by simp [klt, klt_irr a p]
theorem klt_asy : ∀ {a b : List Int} {p q : Str}, a.length = b.length → klt a p b q = true → klt b q a p = false
  | [], [], p, q, _, h => by
    simp only [klt, decide_eq_true_eq] at h
    simp only [klt, decide_eq_false_iff_not]
    exact sl_asy h
  | x :: a, y :: b, p, q, hl, h => by
    simp only [klt] at h ⊢
    by_cases e : x = y
    · rw [if_pos e] at h
      rw [if_pos e.symm]
      exact klt_asy (by simpa using hl) h
    · rw [if_neg e] at h
      rw [if_neg (Ne.symm e)]
      simp at h ⊢
      omega
theorem klt_tot : ∀ {a b : List Int} {p q : Str}, a.length = b.length → p ≠ q → klt a p b q = true ∨ klt b q a p = true
  | [], [], p, q, _, h => by simpa [klt] using sl_tot h
  | x :: a, y :: b, p, q, hl, h => by
    simp only [klt]
    by_cases e : x = y
    · rw [if_pos e, if_pos e.symm]
      exact klt_tot (by simpa using hl) h
    · rw [if_neg e, if_neg (Ne.symm e)]
      simp
      omega
theorem klt_tra : ∀ {a b c : List Int} {p q r : Str}, a.length = b.length → b.length = c.length → klt a p b q = true → klt b q c r = true → klt a p c r = true
  | [], [], [], p, q, r, _, _, h, h' => by
    simp only [klt, decide_eq_true_eq] at h h' ⊢
    exact List.lt_trans h h'
  | x :: a, y :: b, z :: c, p, q, r, hl, hl', h, h' => by
    simp only [klt] at h h' ⊢
    by_cases e : x = y
    · subst e
      rw [if_pos rfl] at h
      by_cases e' : x = z
      · rw [if_pos e'] at h' ⊢
        exact klt_tra (by simpa using hl) (by simpa using hl') h h'
      · rw [if_neg e'] at h' ⊢
        exact h'
    · rw [if_neg e] at h
      have h := of_decide_eq_true h
      by_cases e' : y = z
      · subst e'
        rw [if_neg e]
        exact decide_eq_true h
      · rw [if_neg e'] at h'
        have h' := of_decide_eq_true h'
        rw [if_neg (by omega)]
        exact decide_eq_true (by omega)
theorem keq_eq : ∀ {a b : List Int} {p q : Str}, keq a p b q = true → p = q
  | [], [], p, q, h => by
    simp only [keq, beq_iff_eq] at h
    cases p; cases q
    simp at h
    rw [h]
  | x :: a, y :: b, p, q, h => by
    simp only [keq, Bool.and_eq_true] at h
    exact keq_eq h.2
  | [], _ :: _, p, q, h => by simp [keq] at h
  | _ :: _, [], p, q, h => by simp [keq] at h

section
variable {α : Type} (k : α → List Int) (q : α → Str)
/-- laid in by the key -/
def ins (x : α) : List α → List α
  | [] => [x]
  | y :: l => if klt (k x) (q x) (k y) (q y) = true then x :: y :: l else y :: ins x l
def srt : List α → List α
  | [] => []
  | x :: l => ins k q x (srt l)
theorem ins_perm (x : α) : ∀ l, (ins k q x l).Perm (x :: l)
  | [] => .refl _
  | y :: l => by
    unfold ins
    split
    · exact .refl _
    · exact ((ins_perm x l).cons y).trans (.swap ..)
theorem srt_perm : ∀ l, (srt k q l).Perm l
  | [] => .refl _
  | x :: l => (ins_perm k q x _).trans ((srt_perm l).cons x)
theorem ins_srt {n : Nat} (hl : ∀ a, (k a).length = n) (x : α) : ∀ l, (∀ y ∈ l, q x ≠ q y) → l.Pairwise (fun a b => klt (k a) (q a) (k b) (q b) = true) → (ins k q x l).Pairwise (fun a b => klt (k a) (q a) (k b) (q b) = true)
  | [], _, _ => by simp [ins]
  | y :: l, hne, hp => by
    have hp' := List.pairwise_cons.mp hp
    unfold ins
    split
    · rename_i h
      refine List.pairwise_cons.mpr ⟨fun z hz => ?_, hp⟩
      rcases List.mem_cons.mp hz with rfl | hz
      · exact h
      · exact klt_tra (by rw [hl, hl]) (by rw [hl, hl]) h (hp'.1 z hz)
    · rename_i h
      refine List.pairwise_cons.mpr ⟨fun z hz => ?_, ins_srt hl x l (fun z hz => hne z (.tail _ hz)) hp'.2⟩
      rcases List.mem_cons.mp ((ins_perm k q x l).mem_iff.mp hz) with rfl | hz
      · exact (klt_tot (by rw [hl, hl]) (hne y (.head _))).resolve_left h
      · exact hp'.1 z hz
theorem srt_srt {n : Nat} (hl : ∀ a, (k a).length = n) : ∀ l, (l.map q).Nodup → (srt k q l).Pairwise (fun a b => klt (k a) (q a) (k b) (q b) = true)
  | [], _ => by simp [srt]
  | x :: l, h => by
    have h' := List.nodup_cons.mp h
    refine ins_srt k q hl x _ (fun y hy e => ?_) (srt_srt hl l h'.2)
    exact h'.1 (e ▸ List.mem_map_of_mem ((srt_perm k q l).mem_iff.mp hy))
theorem keys_of {n : Nat} (hl : ∀ a, (k a).length = n) {S : List α} (d : α) (hd : (S.map q).Nodup) (hp : S.Pairwise (fun a b => klt (k a) (q a) (k b) (q b) = true)) : Keys S.length (fun r => k (S.getD r d)) (fun r => q (S.getD r d)) := by
  have hg : ∀ i (h : i < S.length), S.getD i d = S[i] := fun i h => by simp [h]
  have hpp := List.pairwise_iff_getElem.mp hp
  refine ⟨fun i j hi hj => ?_, fun i j hi hj hne => ?_, fun i j hi hj => by rw [hl, hl]⟩
  · rw [hg i hi, hg j hj]
    rcases Nat.lt_trichotomy i j with h | h | h
    · rw [hpp i j hi hj h]; simp [ltN, h]
    · subst h; rw [klt_irr]; simp [ltN]
    · rw [klt_asy (by rw [hl, hl]) (hpp j i hj hi h)]
      simp [ltN]; omega
  · rw [hg i hi, hg j hj]
    cases e : keq (k S[i]) (q S[i]) (k S[j]) (q S[j]) with
    | false => rfl
    | true =>
      have := keq_eq e
      have hdd := List.pairwise_iff_getElem.mp hd
      rcases Nat.lt_or_gt_of_ne hne with h | h
      · exact absurd (by rw [List.getElem_map, List.getElem_map]; exact this) (hdd i j (by simpa using hi) (by simpa using hj) h)
      · exact absurd (by rw [List.getElem_map, List.getElem_map]; exact this.symm) (hdd j i (by simpa using hj) (by simpa using hi) h)
theorem rank_of [DecidableEq α] {S l : List α} (d : α) (hd : S.Nodup) (hp : l.Perm S) : (l.map fun x => S.idxOf x).Perm (List.range S.length) ∧ l = (l.map fun x => S.idxOf x).map fun r => S.getD r d := by
  constructor
  · refine (hp.map _).trans ?_
    have : (S.map fun x => S.idxOf x) = List.range S.length := by
      apply List.ext_getElem
      · simp
      · intro i h1 h2
        simp at h1
        simp [hd.idxOf_getElem i h1]
    rw [this]
  · rw [List.map_map]
    apply List.ext_getElem
    · simp
    · intro i h1 h2
      have hm : l[i] ∈ S := hp.mem_iff.mp (List.getElem_mem h1)
      have hlt := List.idxOf_lt_length_of_mem hm
      simp [hlt]
end
end Mine

end
section
open PySem PySem.W PySem.Calls PyProof.Rows PySem.SeqAt
namespace Mine

theorem nd_of_map {α β : Type} {f : α → β} : ∀ {l : List α}, (l.map f).Nodup → l.Nodup
  | [], _ => List.nodup_nil
  | x :: l, h => by
    have h' := List.nodup_cons.mp h
    exact List.nodup_cons.mpr ⟨fun q => h'.1 (List.mem_map_of_mem q), nd_of_map h'.2⟩
abbrev keysT (T : Tab) : List Str := T.map (·.1)
theorem keys_put {T : Tab} {k : Str} {v : Int × Int} : keysT (putT T k v) = if k ∈ keysT T then keysT T else keysT T ++ [k] := by
  unfold putT
  by_cases h : T.any (fun kv => kv.1 = k)
  · have hm : k ∈ keysT T := by
      rw [List.any_eq_true] at h
      obtain ⟨x, hx, e⟩ := h
      have e : x.1 = k := by simpa using e
      exact e ▸ List.mem_map_of_mem hx
    rw [if_pos h, if_pos hm]
    show (T.map _).map _ = _
    rw [List.map_map]
    refine List.map_congr_left fun x hx => ?_
    simp only [Function.comp]
    split <;> rfl
  · have hm : k ∉ keysT T := fun q => by
      obtain ⟨x, hx, e⟩ := List.mem_map.mp q
      exact h (List.any_eq_true.mpr ⟨x, hx, by simpa using e⟩)
    rw [if_neg h, if_neg hm]
    show (T ++ _).map _ = _
    rw [List.map_append]; rfl
structure TabOk (T : Tab) : Prop where
  nd : (keysT T).Nodup
  sub : ∀ k ∈ keysT T, k ∈ P5
theorem TabOk.put {T : Tab} {k : Str} {v : Int × Int} (a : TabOk T) (hk : k ∈ P5) : TabOk (putT T k v) := by
  by_cases h : k ∈ keysT T
  · have e : keysT (putT T k v) = keysT T := by rw [keys_put, if_pos h]
    exact ⟨e ▸ a.nd, e ▸ a.sub⟩
  · have e : keysT (putT T k v) = keysT T ++ [k] := by rw [keys_put, if_neg h]
    refine ⟨?_, fun j hj => ?_⟩
    · rw [e, List.nodup_append]
      exact ⟨a.nd, by simp, fun x hx y hy => by rw [List.mem_singleton.mp hy]; rintro rfl; exact h hx⟩
    · rw [e] at hj
      rcases List.mem_append.mp hj with hj | hj
      · exact a.sub j hj
      · rw [List.mem_singleton.mp hj]; exact hk
theorem put_mem {T : Tab} {j k : Str} {v : Int × Int} (h : j ∈ keysT T) : j ∈ keysT (putT T k v) := by
  rw [keys_put]
  split
  · exact h
  · exact List.mem_append_left _ h
theorem cellP_mem (c : Int) : cellP c ∈ P5 := by
  unfold cellP
  have h1 : 0 ≤ c.fmod 5 := Int.fmod_nonneg_of_pos c (by decide)
  have h2 : c.fmod 5 < 5 := Int.fmod_lt_of_pos c (by decide)
  generalize c.fmod 5 = x at *
  have : x.toNat < 5 := by omega
  generalize x.toNat = n at this
  match n, this with
  | 0, _ => simp [P5]
  | 1, _ => simp [P5]
  | 2, _ => simp [P5]
  | 3, _ => simp [P5]
  | 4, _ => simp [P5]
theorem stepO_ok {T : Tab} {c : Int} (a : TabOk T) : TabOk (stepO T c) := by
  unfold stepO; split
  · exact a.put (cellP_mem c)
  · exact a
theorem stepN_ok {T : Tab} {c : Int} (a : TabOk T) : TabOk (stepN T c) := by
  unfold stepN; split
  · exact a.put (cellP_mem c)
  · split
    · exact a.put (cellP_mem c)
    · exact a
theorem stepO_mem {T : Tab} {c : Int} {j : Str} (h : j ∈ keysT T) : j ∈ keysT (stepO T c) := by
  unfold stepO; split
  · exact put_mem h
  · exact h
theorem stepN_mem {T : Tab} {c : Int} {j : Str} (h : j ∈ keysT T) : j ∈ keysT (stepN T c) := by
  unfold stepN; split
  · exact put_mem h
  · split
    · exact put_mem h
    · exact h
theorem fold_ok {f : Tab → Int → Tab} (hf : ∀ T c, TabOk T → TabOk (f T c)) : ∀ (cs : List Int) (T : Tab), TabOk T → TabOk (cs.foldl f T)
  | [], _, h => h
  | c :: cs, T, h => fold_ok hf cs _ (hf T c h)
theorem fold_mem {f : Tab → Int → Tab} {j : Str} (hf : ∀ T c, j ∈ keysT T → j ∈ keysT (f T c)) : ∀ (cs : List Int) (T : Tab), j ∈ keysT T → j ∈ keysT (cs.foldl f T)
  | [], _, h => h
  | c :: cs, T, h => fold_mem hf cs _ (hf T c h)
theorem nil_ok : TabOk [] := ⟨by simp, by simp⟩
theorem tabO_ok (ns : List Int) : TabOk (tabO ns) := fold_ok (fun _ _ => stepO_ok) _ _ nil_ok
theorem tabN_ok (ns : List Int) : TabOk (tabN ns) := fold_ok (fun _ _ => stepN_ok) _ _ nil_ok
theorem headO : plc 0 ∈ keysT ([214285, 1866, 662].foldl stepO []) := by decide +kernel
theorem headN0 : plc 0 ∈ keysT ([214285, 1866, 662].foldl stepN []) := by decide +kernel
theorem headN1 : plc 1 ∈ keysT ([214285, 1866, 662].foldl stepN []) := by decide +kernel
theorem inO (ns : List Int) : plc 0 ∈ keysT (tabO ns) := by
  unfold tabO cellsOf; rw [List.foldl_append]; exact fold_mem (fun _ _ => stepO_mem) _ _ headO
theorem inN0 (ns : List Int) : plc 0 ∈ keysT (tabN ns) := by
  unfold tabN cellsOf; rw [List.foldl_append]; exact fold_mem (fun _ _ => stepN_mem) _ _ headN0
theorem inN1 (ns : List Int) : plc 1 ∈ keysT (tabN ns) := by
  unfold tabN cellsOf; rw [List.foldl_append]; exact fold_mem (fun _ _ => stepN_mem) _ _ headN1
theorem getT_some {T : Tab} {k : Str} : (getT T k).isSome = true ↔ k ∈ keysT T := by
  unfold getT
  rw [Option.isSome_map, List.find?_isSome]
  constructor
  · rintro ⟨x, hx, e⟩
    have e : x.1 = k := by simpa using e
    exact e ▸ List.mem_map_of_mem hx
  · intro h
    obtain ⟨x, hx, e⟩ := List.mem_map.mp h
    exact ⟨x, hx, by simpa using e⟩
theorem P5_nd : P5.Nodup := by decide
theorem P5_filter {p : Str → Bool} : (P5.filter p).length ≤ 5 := List.length_filter_le _ _
theorem two_le {l : List Str} (h0 : plc 0 ∈ l) (h1 : plc 1 ∈ l) : 2 ≤ l.length := by
  match l, h0, h1 with
  | [x], h0, h1 =>
    have := (List.mem_singleton.mp h0).trans (List.mem_singleton.mp h1).symm
    exact absurd this (by decide)
  | _ :: _ :: _, _, _ => simp
theorem TabOk.perm {T : Tab} (a : TabOk T) : (keysT T).Perm (P5.filter fun k => decide (k ∈ keysT T)) := by
  refine perm_of_mem a.nd (P5_nd.filter _) fun k => ?_
  rw [List.mem_filter]
  exact ⟨fun h => ⟨a.sub k h, by simpa using h⟩, fun h => by simpa using h.2⟩
theorem TabOk.len {T : Tab} (a : TabOk T) : T.length ≤ 5 := by
  have := a.perm.length_eq
  rw [List.length_map] at this
  rw [this]; exact P5_filter

theorem told_perm {TO TN : Tab} (a : TabOk TO) (b : TabOk TN) : (keysT TN ++ keysT (delAll TO TN)).Perm (P5.filter (isIn TO TN)) := by
  have hd : keysT (delAll TO TN) = (keysT TO).filter fun k => decide (k ∉ keysT TN) := by
    rw [delAll_eq, List.filter_map]; rfl
  rw [hd]
  refine perm_of_mem ?_ (P5_nd.filter _) fun k => ?_
  · rw [List.nodup_append]
    refine ⟨b.nd, a.nd.filter _, fun x hx y hy e => ?_⟩
    subst e
    have := (List.mem_filter.mp hy).2
    simp only [decide_eq_true_eq] at this
    exact this hx
  · rw [List.mem_append, List.mem_filter, List.mem_filter]
    simp only [isIn, Bool.or_eq_true, getT_some, decide_eq_true_eq]
    constructor
    · rintro (h | h)
      · exact ⟨b.sub k h, .inr h⟩
      · exact ⟨a.sub k h.1, .inl h.1⟩
    · rintro ⟨h, h' | h'⟩
      · by_cases q : k ∈ keysT TN
        · exact .inl q
        · exact .inr ⟨h', q⟩
      · exact .inl h'

theorem rows_p {TO TN : Tab} (l : List Str) : (l.map (rowOf TO TN)).map Row.p = l := by
  rw [List.map_map]
  have : (Row.p ∘ rowOf TO TN) = id := by funext p; rfl
  rw [this, List.map_id]

/-- all that the law needs to know of its tables -/
structure Facts (TO TN : Tab) (S : List Row) (σ ρ : List Nat) (S2 : List Ent) (σ2 : List Nat) : Prop where
  due : Ranks (dueRows TO TN) S σ
  told : Ranks ((TN.map (·.1) ++ (delAll TO TN).map (·.1)).map (rowOf TO TN)) S ρ
  h2 : 2 ≤ S.length
  h5 : S.length ≤ 5
  sums : RankT TN S2 σ2
  g2 : 2 ≤ S2.length
  g5 : S2.length ≤ 5
  nd : (TO.map (·.1)).Nodup
  ne : TO ≠ []
  lo : TO.length ≤ 5
  ln : TN.length ≤ 5

theorem facts (ns : List Int) : ∃ S σ ρ S2 σ2, Facts (tabO ns) (tabN ns) S σ ρ S2 σ2 := by
  classical
  have a := tabO_ok ns
  have b := tabN_ok ns
  have tp := told_perm a b
  have hn0 := inN0 ns
  have hn1 := inN1 ns
  have ho := inO ns
  generalize tabO ns = TO at *
  generalize tabN ns = TN at *
  have hdn : ((dueRows TO TN).map Row.p).Nodup := by unfold dueRows; rw [rows_p]; exact P5_nd.filter _
  have sp := srt_perm keyI Row.p (dueRows TO TN)
  have ss := srt_srt keyI Row.p (n := 4) (fun _ => rfl) (dueRows TO TN) hdn
  have sdn : ((srt keyI Row.p (dueRows TO TN)).map Row.p).Nodup := ((sp.map _).nodup_iff).mpr hdn
  generalize srt keyI Row.p (dueRows TO TN) = S at sp ss sdn
  have sn : S.Nodup := nd_of_map sdn
  have kk := keys_of keyI Row.p (n := 4) (fun _ => rfl) (⟨⟨#[]⟩, 0, 0, 0, 0⟩ : Row) sdn ss
  obtain ⟨r1, r2⟩ := rank_of (⟨⟨#[]⟩, 0, 0, 0, 0⟩ : Row) sn sp.symm
  have tperm : ((TN.map (·.1) ++ (delAll TO TN).map (·.1)).map (rowOf TO TN)).Perm S := (tp.map (rowOf TO TN)).trans sp.symm
  obtain ⟨q1, q2⟩ := rank_of (⟨⟨#[]⟩, 0, 0, 0, 0⟩ : Row) sn tperm
  have hlS : S.length = (P5.filter (isIn TO TN)).length := by
    rw [sp.length_eq]; unfold dueRows; rw [List.length_map]
  have hTd : (TN.map (fun e : Ent => e.1)).Nodup := b.nd
  have tp2 := srt_perm (fun e : Ent => [e.2.1, e.2.2]) (fun e : Ent => e.1) TN
  have ts := srt_srt (fun e : Ent => [e.2.1, e.2.2]) (fun e : Ent => e.1) (n := 2) (fun _ => rfl) TN hTd
  have tdn : ((srt (fun e : Ent => [e.2.1, e.2.2]) (fun e : Ent => e.1) TN).map (fun e : Ent => e.1)).Nodup := ((tp2.map _).nodup_iff).mpr hTd
  generalize srt (fun e : Ent => [e.2.1, e.2.2]) (fun e : Ent => e.1) TN = S2 at tp2 ts tdn
  have kk2 := keys_of (fun e : Ent => [e.2.1, e.2.2]) (fun e : Ent => e.1) (n := 2) (fun _ => rfl) noE tdn ts
  obtain ⟨u1, u2⟩ := rank_of noE (nd_of_map tdn) tp2.symm
  have hl2 : S2.length = TN.length := tp2.length_eq
  have hTN2 : 2 ≤ TN.length := by
    have := two_le hn0 hn1
    simpa using this
  refine ⟨S, _, _, S2, _, ⟨r1, r2, kk⟩, ⟨q1, q2, kk⟩, ?_, by rw [hlS]; exact P5_filter, ⟨u1, u2, kk2⟩, by omega, by have := b.len; omega, a.nd, ?_, a.len, b.len⟩
  · rw [hlS]
    refine two_le ?_ ?_
    · exact tp.mem_iff.mp (List.mem_append_left _ hn0)
    · exact tp.mem_iff.mp (List.mem_append_left _ hn1)
  · rintro rfl
    simp at ho
end Mine

end
section
open PySem PySem.W PySem.Calls PyProof.Rows PySem.SeqAt
namespace Mine

abbrev eLw (L fa : Addr) (cd : Value) : Env := envOfC (Str.ofString "law") (scp (st 25)) L fa cd

theorem Rest.keeps {s s' : Shared} (r : Rest s s') (h : s'.heap = s.heap) : Keeps s s' := by
  obtain ⟨hp, g, d, t, o⟩ := s
  obtain ⟨hp', g', d', t', o'⟩ := s'
  obtain ⟨r1, r2, r3⟩ := r
  dsimp only at *
  subst r1 r2 r3 h
  exact ⟨_, _, rfl, fun _ _ e => e⟩

section
variable {w : World} {A : Around} {E : Value → Shared → Prop} {env : Env} {h h₀ : Heap} {L : Addr} {s₀ s : Shared} {news : List (Addr × Obj)} {m : Str → Option Value} {e e₁ e₂ : Expr} {pos p1 p2 tp np : Pos} {rest : List Stmt}

/-- «a, b = x, y»: two locals, stored from the last one on -/
theorem s_swap2 {a b : Str} {k : Nat} {Q : Flow → Shared → Prop} (hh : A.handled = none)
    (h : wpAny (MM w) A (eval e env) (fun v s₁ => ∃ T v1 v2 h₁ news' m', v = .ref T ∧ s₁.heap.get? T = some (tupOf [v1, v2]) ∧ Fm h₁ L s₀ news' m' s₁ ∧ ∀ s', Fm h₁ L s₀ news' (upd (upd m' b v2) a v1) s' → wpAny (MM w) A (execs rest env) Q E s') E s)
    (hs : swapsWithSole [.Tuple [.Name a p1, .Name b p2] k tp] e pos.line env = pure false := by rfl) (hw : swappedStores [.Tuple [.Name a p1, .Name b p2] k tp] e env = pure (some [a, b]) := by rfl)
    (hL : env.locals = L := by rfl) (hk : env.scope.kind = .function := by rfl) (ha : env.kindOf a = some .local := by rfl) (hb : env.kindOf b = some .local := by rfl) :
    wpAny (MM w) A (execs (.Assign [.Tuple [.Name a p1, .Name b p2] k tp] e pos :: rest) env) Q E s := by
  refine xs_cons (Assign_Tuple_swapped (names := [a, b]) (wpAny_mono h (fun v s₁ h₁ => ?_) fun _ _ e => e) hs hw)
  obtain ⟨T, v1, v2, hb', news', m', rfl, hT, Z, q⟩ := h₁
  refine unpackItems_tuple (items := #[v1, v2]) hh ⟨_, hT, rfl, 0, rfl⟩ fun h' he => ?_
  have Z₁ := Z.grew (tk := s₁.toks) (h' := h') fun c o e => he c o (Nat.ne_of_lt (Heap.lt_size e)) e
  show wpAny _ _ (assignInOrder [bindName env b, bindName env a] [v2, v1]) _ _ _
  refine assignInOrder_cons (wpAny_bindName (Z₁.store (fun s₂ Z₂ => ?_) hL hk hb))
  exact assignInOrder_cons (wpAny_bindName (Z₂.store (fun s₃ Z₃ => assignInOrder_nil (q _ Z₃)) hL hk ha))

theorem Tst.notInD {k : Str} {t : Tok} {D : Addr} {kvs : List (Str × Value)} (a : EvV w A env h e₁ (.str k t)) (b : EvV w A env h e₂ (.ref D)) (hd : Dct w h D kvs) (hm : behindInMarks .NotIn e₂ = false := by with_unfolding_all rfl) : Tst w A env h (.Compare e₁ [.NotIn] [e₂] pos) (!(valueAt kvs k).isSome) :=
  Tst.cmp a b (fun _ _ hx hy s Q E hs q => by
    subst hx hy
    exact wpAny_notIn_of (is_str w k t) hd.1 (hs ▸ hd.2.mapOf) (q _ hs .heap)) hm

theorem paired_eq {l l' : List Value} (h : Paired (fun v y => y = v) l l') : l' = l := by
  induction h with
  | nil => rfl
  | cons e _ ih => rw [e, ih]

variable {scope : Scope} {p0 p3 p4 p5 : Pos} {dO dN : Addr} {kO kN : List (Str × Value)}
/-- whether a key is lacking in a dict -/
def lacks (kN : List (Str × Value)) : Value → Bool
  | .str k _ => !(valueAt kN k).isSome
  | _ => false
/-- «[place for place in old if place not in new]» -/
theorem e_notIn {Q : Value → Shared → Prop} (G : Gd w h₀) (hh : A.handled = none) (Z : Fm h₀ L s₀ news m s) (mo : m "old" = some (.ref dO)) (hc : h₀.IsCell (L + 1) (some (.ref dN))) (hdO : Dct w h₀ dO kO) (hdN : Dct w h₀ dN kN) (h9 : kO.length ≤ 99)
    (h : ∀ R vs ep s', Fm h₀ L s₀ news m s' → Sub s.heap s'.heap → s'.heap.get? R = some (listOf vs.toArray ep) → All2 (fun v k => ∃ t, v = .str k t) vs ((kO.map (·.1)).filter fun k => !(valueAt kN k).isSome) → Q (.ref R) s')
    (hL : env.locals = L := by rfl) (hke : env.scope.kind = .function := by rfl) (hlo : env.kindOf "old" = some .local := by rfl)
    (hclos : closureFor scope env = pure [(Str.ofString "new", L + 1)] := by rfl) (hkind : scope.kind = .function := by rfl) (hnames : ∀ y ∈ scope.names, y.2 = .local → scope.names.lookup y.1 = some .local := by decide) (hcell : ∀ y ∈ scope.names, y.2 ≠ .cell := by decide)
    (l1 : scope.names.lookup (Str.ofString "place") = some .local := by rfl) (l2 : (relabel scope env).names.lookup (Str.ofString "new") = some .cell := by rfl) :
    wpAny (MM w) A (eval (.ListComp (.Name "place" p0) [⟨.Name "place" p1, .Name "old" p2, [.Compare (.Name "place" p3) [.NotIn] [.Name "new" p4] p5], 0⟩] scope pos) env) Q E s := by
  refine wpAny_ListComp_free (lacks kN) (fun v y => y = v) hclos hcell hkind hnames l1 (EvV.go (EvV.name Z.ns mo hL hke hlo) fun s₁ h₁ r₁ => ?_)
  have Z₁ := Z.touch h₁ r₁
  have hnd := hdO.nodup
  obtain ⟨lo, hD0⟩ := id hdO
  obtain ⟨ep, hat⟩ := hD0.dictAt
  have hat1 : s₁.heap.DictAt (SK w) dO kO ep := hat.at' fun o e => Z₁.keep dO o e
  refine wpAny_pyIter_dict lo hat1 ?_
  have hlt : dO < s₁.heap.objs.size := hat1.lt_size
  have W := Walks.dictKeys (prog := PR) (w := w) (knd := SK w) (A := A) hh s₁.heap.objs.size dO (Nat.ne_of_lt hlt) kO ep
  have hnI : ∀ b o, s₁.heap.get? b = some o → b ∉ [s₁.heap.objs.size] := fun b o e q => by rw [List.mem_singleton.mp q] at e; exact Nat.lt_irrefl _ (Heap.lt_size e)
  have sub3 : ∀ {g : Heap}, (∀ b o, b ∉ [s₁.heap.objs.size] → (s₁.heap.push { cls := .type "dict_keyiterator", data := .fields #[.ref dO, .int 0 0, .int kO.length 0, .int ep 0] }).get? b = some o → g.get? b = some o) → Sub s₁.heap g := fun hg b o e => hg b o (hnI b o e) (Heap.get?_push_of_some _ e)
  refine ⟨_, _, _, _, _, _, rfl, W, by rw [sizeLine_eq]; omega, ⟨⟨_, Heap.get?_push_size _ rfl, rfl, rfl⟩, hat1.push _⟩, ?_, ⟨?_, ?_⟩, ?_⟩
  · intro b hb
    simp only [List.mem_cons, List.not_mem_nil, or_false] at hb
    rcases hb with rfl | rfl
    · rw [Heap.size_push]; exact Nat.lt_succ_self _
    · rw [Heap.size_push]; exact Nat.lt_succ_of_lt hlt
  · rintro C i v s₃ m₃ E' hC ⟨k, x, hkx, hkv⟩ hns hm hk htk
    obtain ⟨t, rfl⟩ := Value.isStrOf_shape hkv
    have h03 : Sub h₀ s₃.heap := fun b o e => sub3 hk b o (Z₁.keep b o e)
    have hc3 : s₃.heap.IsCell (L + 1) (some (.ref dN)) := by
      obtain ⟨oc, e1, e2⟩ := hc
      exact ⟨oc, h03 _ _ e1, e2⟩
    have T1 : EvV w A (compEnvC scope [(Str.ofString "new", L + 1)] C env) s₃.heap (.Name "place" p3) (.str k t) := EvV.name hns hm rfl hkind (lookup_relabel_local l1)
    have T2 : EvV w A (compEnvC scope [(Str.ofString "new", L + 1)] C env) s₃.heap (.Name "new" p4) (.ref dN) := EvV.cell hc3 rfl hkind l2
    exact wpAny_tests_one (Tst.notInD (kvs := kN) T1 T2 (hdN.keeps h03) rfl s₃ _ _ rfl fun s₄ h₄ r₄ => ⟨rfl, r₄.keeps h₄⟩)
  · rintro C i v s₃ m₃ E' hC hP hp hns hm hk htk
    have T1 : EvV w A (compEnvC scope [(Str.ofString "new", L + 1)] C env) s₃.heap (.Name "place" p0) v := EvV.name hns hm rfl hkind (lookup_relabel_local l1)
    exact EvV.go T1 fun s₄ h₄ r₄ => ⟨rfl, r₄.keeps h₄⟩
  · intro D h' tk ys vs hD hl hpl hlen hP hF hk
    have hys := paired_eq hF
    have h1' : Sub s₁.heap h' := sub3 hk
    obtain ⟨epD, hpl⟩ := hpl
    refine h D ys.toList epD _ ⟨Z₁.ns.at' (fun o e => h1' _ _ e), fun b o e => h1' _ _ (Z₁.keep b o e), Z₁.off, fun p hp => ⟨h1' _ _ (Z₁.nw p hp).1, (Z₁.nw p hp).2⟩, Z₁.rest.trans .heap⟩ (fun b o e => h1' b o (by rw [h₁]; exact e)) (by simpa using hpl) ?_
    rw [hys]
    have key : ∀ (vs : List Value) (ks : List Str), All2 (fun v k => ∃ t, v = .str k t) vs ks → All2 (fun v k => ∃ t, v = .str k t) (vs.filter (lacks kN)) (ks.filter fun k => !(valueAt kN k).isSome) := by
      intro vs ks a
      induction a with
      | nil => exact .nil
      | @cons v k _ _ r _ ih =>
        obtain ⟨t, rfl⟩ := r
        rw [List.filter_cons, List.filter_cons]
        show All2 _ (if (!(valueAt kN k).isSome) = true then _ else _) _
        split
        · exact .cons ⟨t, rfl⟩ ih
        · exact ih
    refine key vs _ ?_
    have step : ∀ n, n ≤ kO.length → All2 (fun v k => ∃ t, v = .str k t) (vs.take n) ((kO.map (·.1)).take n) := by
      intro n
      induction n with
      | zero => intro _; exact .nil
      | succ n ih =>
        intro hn
        rw [List.take_succ_eq_append_getElem (by omega), List.take_succ_eq_append_getElem (by simp; omega)]
        refine (ih (by omega)).snoc ?_
        obtain ⟨k, x, hkx, hkv⟩ := hP n vs[n] (by simp)
        obtain ⟨t, ht⟩ := Value.isStrOf_shape hkv
        have hkk : (kO.map (·.1))[n]'(by simp; omega) = k := by
          obtain ⟨_, q⟩ := List.getElem?_eq_some_iff.mp hkx
          simp [q]
        rw [hkk]
        exact ⟨t, ht⟩
    have := step kO.length (Nat.le_refl _)
    rwa [List.take_of_length_le (by omega), List.take_of_length_le (by simp)] at this

variable {fa a : Addr} {cd : Value} {vs : List Value} {ns : List Int} {Q : Flow → Shared → Prop}
set_option maxHeartbeats 4000000 in
theorem law_wish (G : Gd w h₀) (hh : A.handled = none) (Z : Fm h₀ L s₀ [] m s) (ms : m "script" = some (.ref a)) (hl : h₀.IsList a vs.toArray) (hi : IntsAre vs ns)
    (cont : ∀ N t s', N ∈ wishes → Fm h₀ L s₀ [] (upd m "wish" (.int N t)) s' → wpAny (MM w) A (execs ((txt (st 25)).drop 2) (eLw L fa cd)) Q E s') :
    wpAny (MM w) A (execs ((txt (st 25)).drop 1) (eLw L fa cd)) Q E s := by
  refine s_asgW (s₀ := s₀) (Subscript_ (e_tuple Z (.cons (EvI.neg EvI.const) (.cons EvI.const (.cons EvI.const (.cons EvI.const (.cons EvI.const (.cons EvI.const (.cons EvI.const .nil))))))) (by decide) ?_ ?_))
  · rintro _ ⟨_, _, rfl, _, _, _, rfl, _, _, _, rfl, _, _, _, rfl, _, _, _, rfl, _, _, _, rfl, _, _, _, rfl, _, rfl⟩; rfl
  rintro _ T s₁ ⟨_, _, rfl, ⟨u0, rfl⟩, _, _, rfl, ⟨u1, rfl⟩, _, _, rfl, ⟨u2, rfl⟩, _, _, rfl, ⟨u3, rfl⟩, _, _, rfl, ⟨u4, rfl⟩, _, _, rfl, ⟨u5, rfl⟩, _, _, rfl, ⟨u6, rfl⟩, rfl⟩ Z₁ n1 nt
  refine wpAny_BinOp (wpAny_BinOp (e_sum G hh Z₁ (EvV.name Z₁.ns ms) hl hi fun t₁ s₂ Z₂ u₂ => Evs.go EvI.const fun v s₃ hv h₃ r₃ => ?_))
  obtain ⟨t₃, rfl⟩ := hv
  have Z₃ := Z₂.touch h₃ r₃
  refine wpAny_add_int ?_
  refine Evs.go EvI.const fun v s₅ hv h₅ r₅ => ?_
  obtain ⟨t₅, rfl⟩ := hv
  have Z₅ := (Z₃.touch (s' := { s₃ with toks := s₃.toks + 1 }) rfl .heap).touch h₅ r₅
  refine mod_int' (by decide) ?_
  have h1 : 0 ≤ (ns.sum + 3).fmod 7 := Int.fmod_nonneg_of_pos _ (by decide)
  have h2 : (ns.sum + 3).fmod 7 < 7 := Int.fmod_lt_of_pos _ (by decide)
  generalize (ns.sum + 3).fmod 7 = j at h1 h2
  have hj : j = 0 ∨ j = 1 ∨ j = 2 ∨ j = 3 ∨ j = 4 ∨ j = 5 ∨ j = 6 := by omega
  have Z₆ := Z₅.touch (s' := { s₅ with toks := s₅.toks + 1 }) rfl .heap
  have zT := (Z₆.nw _ (.head _)).1
  have hTT : ({ s₅ with toks := s₅.toks + 1 } : Shared).TypeIs (.ref T) "tuple" := ⟨_, zT, rfl⟩
  obtain ⟨n, N, u, hN, hn, hg, hx⟩ : ∃ (n : Nat) (N : Int) (u : Tok), N ∈ wishes ∧ n < 7 ∧ ([.int (-1) u0, .int 0 u1, .int 1 u2, .int 2 u3, .int 3 u4, .int 5 u5, .int 8 u6] : List Value)[n]? = some (.int N u) ∧ j = (n : Int) := by
    rcases hj with rfl | rfl | rfl | rfl | rfl | rfl | rfl
    · exact ⟨0, _, _, by decide, by decide, rfl, rfl⟩
    · exact ⟨1, _, _, by decide, by decide, rfl, rfl⟩
    · exact ⟨2, _, _, by decide, by decide, rfl, rfl⟩
    · exact ⟨3, _, _, by decide, by decide, rfl, rfl⟩
    · exact ⟨4, _, _, by decide, by decide, rfl, rfl⟩
    · exact ⟨5, _, _, by decide, by decide, rfl, rfl⟩
    · exact ⟨6, _, _, by decide, by decide, rfl, rfl⟩
  subst hx
  refine tail_any hTT (by first | exact tuple_getitem_lookup | exact slot_tuple_getitem.lookup) (getItem_tuple (items := ([.int (-1) u0, .int 0 u1, .int 1 u2, .int 2 u3, .int 3 u4, .int 5 u5, .int 8 u6] : List Value).toArray) (j := n) (x := .int N u) ⟨_, zT, rfl, 0, rfl⟩ (by omega) (by omega) ?_ (by simpa using hg) ?_) (by intros; with_unfolding_all rfl)
  · have hneg : ¬ ((n : Int) < 0) := by omega
    simp only [seqIndex?, List.size_toArray, if_neg hneg]
    rw [if_pos (by simp; omega)]
    simp
  · exact ⟨_, _, _, Z₆.sub (news' := []) (fun _ h => nomatch h), fun s₇ Z₇ => cont N u s₇ hN Z₇⟩
end
end Mine

end
section
open PySem PySem.W PySem.Calls PyProof.Rows PySem.SeqAt
namespace Mine

theorem strs_el {h : Heap} {v v' : Value} {k : Str} (a : ∃ t, v = .str k t) (b : ∃ t, v' = .str k t) : ElEq h v v' := by
  obtain ⟨t, rfl⟩ := a
  obtain ⟨u, rfl⟩ := b
  exact .val (.str _ _ _)
theorem list_ns {h : Heap} {L R : Addr} {m : Str → Option Value} {its : Array Value} {ep : Nat} (hn : h.Ns L m) (hR : h.get? R = some (listOf its ep)) : R ≠ L := by
  rintro rfl
  obtain ⟨o, es, ep', ho, hd, _⟩ := hn
  rw [hR] at ho
  cases ho
  cases hd
theorem fresh_ns {h : Heap} {L d : Addr} {m : Str → Option Value} (hn : h.Ns L m) (hd : h.get? d = none) : d ≠ L := by
  rintro rfl
  obtain ⟨o, es, ep', ho, _⟩ := hn
  rw [hd] at ho; cases ho
theorem Dct.ext {w : World} {h h' : Heap} {d : Addr} {kvs : List (Str × Value)} {S : List Addr} (a : Dct w h d kvs) (x : Ext S h h') (hn : d ∉ S) : Dct w h' d kvs := by
  obtain ⟨lo, hd⟩ := a
  obtain ⟨o, ho, r⟩ := Heap.dictOf_iff.mp hd
  exact ⟨lo, Heap.dictOf_iff.mpr ⟨o, x d o hn ho, r⟩⟩

section
variable {w : World} {A : Around} {E : Value → Shared → Prop} {h₀ : Heap} {L fa a : Addr} {cd : Value} {s₀ s : Shared} {m : Str → Option Value} {vs : List Value} {ns : List Int} {Q : Flow → Shared → Prop} {TO TN : Tab} {S : List Row} {σ ρ : List Nat} {S2 : List Ent} {σ2 : List Nat}
  {dO dN dL dS RT RD : Addr} {kO kN kL kS : List (Str × Value)} {N : Int} {t : Tok}

set_option maxHeartbeats 8000000 in
/-- the law's last two statements -/
theorem law_last (F : Facts TO TN S σ ρ S2 σ2) (G : Gd w h₀) (hh : A.handled = none) (hfr : A.frames = some [eLw L fa cd]) (hroom : A.depth + 50 < recursionLimit) (hu : A.units + 600 < cLine)
    (Z : Fm h₀ L s₀ [] m s) {tv uv : List Value} {eT eU : Nat} (hT : h₀.get? RT = some (listOf tv.toArray eT)) (hDV : All2 (DV h₀) tv ((TN.map (·.1) ++ (delAll TO TN).map (·.1)).map (rowOf TO TN)))
    (hU : h₀.get? RD = some (listOf uv.toArray eU)) (hFT : All2 (FT h₀) uv S) (hN : N ∈ wishes) (hc : h₀.IsCell (L + 1) (some (.ref dN))) (hdO : Dct w h₀ dO kO) (hdN : Dct w h₀ dN kN) (hdS : Dct w h₀ dS kS) (hdL : Dct w h₀ dL kL)
    (rO : Rel (TV h₀) kO TO) (rN : Rel (TV h₀) kN TN) (rS : Rel (SV h₀) kS TN) (rL : Rel (SV h₀) kL (delAll TO TN))
    (m1 : m "old" = some (.ref dO)) (m2 : m "wish" = some (.int N t)) (m3 : m "left" = some (.ref dL)) (m4 : m "sums" = some (.ref dS)) (m5 : m "told" = some (.ref RT)) (m6 : m "due" = some (.ref RD))
    (ret : ∀ s', Rest s₀ s' → Sub h₀ s'.heap → Q (.ret (.bool true)) s') : wpAny (MM w) A (execs ((txt (st 25)).drop 5) (eLw L fa cd)) Q E s := by
  have rk := F.told
  have hby := byRank rk.nodup (show tv.length = ρ.length by rw [hDV.len, congrArg List.length rk.rows, List.length_map])
  have hit : ∀ r, r < S.length → DV h₀ ((fun r => tv.getD (ρ.idxOf r) .none) r) (S.getD r noRow) := rk.item hDV
  generalize (fun r => tv.getD (ρ.idxOf r) .none) = ev at hby hit
  have W : Few w h₀ ev S ρ uv RT RD eT eU N := by
    refine ⟨⟨rk.keys, fun r hr => ?_, by k_is, fun r hr => by simp [keyI], fun r hr => ?_⟩, hit, by rw [← hby]; exact hT, hU, hFT, rk.perm, F.h2, F.h5, hN⟩
    · obtain ⟨a, t1, t2, t3, t4, t5, ea, Ia⟩ := hit r hr
      rw [ea]
      exact diffKey G Ia
    · obtain ⟨a, t1, t2, t3, t4, t5, ea, dx, od, i1, i2, i3⟩ := hit r hr
      exact ⟨a, _, ea, i1, by intro q; cases q⟩
  have hFl : ([eLw L fa cd] : List Env).filterMap (·.frame) = [L] := rfl
  have out : ∀ {s' : Shared}, Fm h₀ L s₀ [] m s' → OutF s'.heap [eLw L fa cd] := fun {s'} Z' => by
    obtain ⟨oL, es, ep, hL, hd, _⟩ := Z'.ns
    exact ⟨(by intro q; cases q), ⟨L, oL, rfl, hL, fun vs q => by rw [hd] at q; cases q⟩, trivial⟩
  have hF0 : ∀ b ∈ ([eLw L fa cd] : List Env).filterMap (·.frame), h₀.get? b = none := fun b hb => by rw [hFl] at hb; rw [List.mem_singleton.mp hb]; exact Z.off
  have onF : ∀ {s' s'' : Shared}, Fm h₀ L s₀ [] m s' → Rest s' s'' → ExtF (([eLw L fa cd] : List Env).filterMap (·.frame)) s'.heap s''.heap → Fm h₀ L s₀ [] m s'' := fun Z' r x => Z'.extF r x hF0 fun _ h => nomatch h
  have cellK : ∀ {g : Heap}, Sub h₀ g → g.IsCell (L + 1) (some (.ref dN)) := fun hs => by
    obtain ⟨oc, e1, e2⟩ := hc
    exact ⟨oc, hs _ _ e1, e2⟩
  refine xs_cons (wpAny_If (wpAny_isTrue_BoolOp (wpAny_allTrue_Or_cons (wpAny_isTrue_Not (wpAny_isTrue_value (callP3 (EvV.glob G Z.keep (by k_is)) (.K G Z.keep (by k_is)) (EvV.name Z.ns m5) (EvV.name Z.ns m2) (EvV.name Z.ns m6) ?_ rfl rfl rfl) rfl)))))
  rintro _ _ _ s₁ rfl rfl rfl h₁ r₁
  have Z₁ := Z.touch h₁ r₁
  refine few_spec W G Z₁.keep hh (by omega) (by omega) hfr (out Z₁) hF0 fun s₂ r₂ x₂ => wpAny_truthy_bool ?_
  have Z₂ := onF Z₁ r₂ x₂
  show wpAny (MM w) A (allTrue .Or _ _) _ _ _
  refine wpAny_allTrue_Or_cons (wpAny_isTrue_Not (wpAny_isTrue_value (callP2 (EvV.glob G Z₂.keep (by k_is)) (.K G Z₂.keep (by k_is)) (EvV.name Z₂.ns m5) (EvV.name Z₂.ns m6) ?_ rfl rfl) rfl))
  rintro _ _ s₃ rfl rfl h₃ r₃
  have Z₃ := Z₂.touch h₃ r₃
  refine heap_spec W G Z₃.keep hh (by omega) (by omega) fun s₄ r₄ x₄ => wpAny_truthy_bool ?_
  have Z₄ := Z₃.ext0 r₄ x₄
  show wpAny (MM w) A (allTrue .Or _ _) _ _ _
  refine wpAny_allTrue_Or_cons (wpAny_isTrue_Not (wpAny_isTrue_value (callP3 (EvV.glob G Z₄.keep (by k_is)) (.K G Z₄.keep (by k_is)) (EvV.name Z₄.ns m4) (EvV.cell (cellK Z₄.keep)) (EvV.name Z₄.ns m2) ?_ rfl rfl rfl) rfl))
  rintro _ _ _ s₅ rfl rfl rfl h₅ r₅
  have Z₅ := Z₄.touch h₅ r₅
  refine sums_spec G Z₅.keep hdS rS hdN rN F.sums F.g2 F.g5 hN hh (by omega) (by omega) hfr (out Z₅) hF0 fun s₆ r₆ x₆ => wpAny_truthy_bool ?_
  have Z₆ := onF Z₅ r₆ x₆
  show wpAny (MM w) A (allTrue .Or _ _) _ _ _
  refine wpAny_allTrue_Or_nil ?_
  show wpAny (MM w) A (execs [] _) _ _ _
  refine xs_nil ?_
  show wpAny (MM w) A (execs _ _) _ _ _
  have lo := F.lo
  have ln := F.ln
  have lkO := rO.len
  have lkN := rN.len
  have lkS := rS.len
  have lkL := rL.len
  have hdl : (delAll TO TN).length ≤ TO.length := by rw [delAll_eq]; exact List.length_filter_le _ _
  refine s_ret (BoolOp_and (wpAny_Compare1 (e_listD G hh Z₆ (EvV.name Z₆.ns m4) hdS (by omega) fun R1 v1 ep1 s₇ Z₇ u₇ hR1 hv1 => e_listD G hh Z₇ (EvV.cell (cellK Z₇.keep)) hdN (by omega) fun R2 v2 ep2 s₈ Z₈ u₈ hR2 hv2 => ?_)))
  rw [rS.keys] at hv1
  rw [rN.keys] at hv2
  obtain ⟨hz, hel⟩ := All2.els (h := s₈.heap) hv1 hv2 fun _ _ _ a b => strs_el a b
  refine lists_eq (u₈ _ _ hR1) hR2 hz hel (by omega) (wpAny_truthy_bool ?_)
  show wpAny (MM w) A (eval (.BoolOp .And [_] _) _) _ _ _
  refine BoolOp_one (wpAny_Compare1 (e_listD G hh Z₈ (EvV.name Z₈.ns m3) hdL (by omega) fun R3 v3 ep3 s₉ Z₉ u₉ hR3 hv3 => e_notIn G hh Z₉ m1 hc hdO hdN (by omega) fun R4 v4 ep4 s₁₀ Z₁₀ u₁₀ hR4 hv4 => ?_))
  rw [rL.keys] at hv3
  rw [rO.keys] at hv4
  have hkk : (TO.map (·.1)).filter (fun k => !(valueAt kN k).isSome) = (delAll TO TN).map (·.1) := by
    rw [delAll_eq, List.filter_map]
    congr 1
    refine List.filter_congr fun kv _ => ?_
    simp only [Function.comp]
    rw [rN.some]
    cases q : (getT TN kv.1).isSome with
    | true => have := getT_some.mp q; simp only [keysT] at this; simp [this]
    | false =>
      have : kv.1 ∉ TN.map (·.1) := fun hm => by rw [getT_some.mpr hm] at q; cases q
      simp [this]
  rw [hkk] at hv4
  obtain ⟨hz', hel'⟩ := All2.els (h := s₁₀.heap) hv3 hv4 fun _ _ _ a b => strs_el a b
  exact lists_eq (u₁₀ _ _ hR3) hR4 hz' hel' (by omega) (ret _ Z₁₀.rest Z₁₀.keep)
end
end Mine

end
section
open PySem PySem.W PySem.Calls PyProof.Rows PySem.SeqAt
namespace Mine

section
variable {w : World} {A : Around} {E : Value → Shared → Prop} {h₀ : Heap} {L fa a : Addr} {cd : Value} {s₀ s : Shared} {m : Str → Option Value} {vs : List Value} {ns : List Int} {Q : Flow → Shared → Prop} {TO TN : Tab} {S : List Row} {σ ρ : List Nat} {S2 : List Ent} {σ2 : List Nat}
  {dO dN : Addr} {kO kN : List (Str × Value)} {N : Int} {t : Tok}

set_option maxHeartbeats 8000000 in
/-- from the law's third statement on -/
theorem law_mid (F : Facts TO TN S σ ρ S2 σ2) (G : Gd w h₀) (hh : A.handled = none) (hfr : A.frames = some [eLw L fa cd]) (hroom : A.depth + 50 < recursionLimit) (hu : A.units + 600 < cLine)
    (Z : Fm h₀ L s₀ [] m s) (hN : N ∈ wishes) (hc : h₀.IsCell (L + 1) (some (.ref dN))) (hdO : Dct w h₀ dO kO) (hdN : Dct w h₀ dN kN) (rO : Rel (TV h₀) kO TO) (rN : Rel (TV h₀) kN TN) {sv : Value} (m0 : m "script" = some sv)
    (m1 : m "old" = some (.ref dO)) (m2 : m "wish" = some (.int N t)) (ret : ∀ s', Rest s₀ s' → Sub h₀ s'.heap → Q (.ret (.bool true)) s') : wpAny (MM w) A (execs ((txt (st 25)).drop 2) (eLw L fa cd)) Q E s := by
  have lo := F.lo
  have ln := F.ln
  have lkO := rO.len
  have lkN := rN.len
  have cellK : ∀ {g : Heap}, Sub h₀ g → g.IsCell (L + 1) (some (.ref dN)) := fun hs => by
    obtain ⟨oc, e1, e2⟩ := hc
    exact ⟨oc, hs _ _ e1, e2⟩
  -- left, sums
  refine s_swap2 (L := L) (s₀ := s₀) hh (wpAny_Tuple (wpAny_items_cons (callP1 (EvV.glob G Z.keep (by k_is)) (.K G Z.keep (by k_is)) (EvV.name Z.ns m1) ?_ rfl) rfl))
  rintro _ s₁ rfl h₁ r₁
  have Z₁ := Z.touch h₁ r₁
  refine stats_spec G Z₁.keep hdO rO (by omega) hh (by omega) fun dL kL s₂ r₂ x₂ hdL rL fL => ?_
  have nL := fresh_ns Z₁.ns fL
  obtain ⟨h₂, st₂, sp₂, e₂, Z₂⟩ := (Z₁.ext0 r₂ x₂).rebaseP m0 (fun _ h => nomatch h)
  have hdL₂ : Dct w h₂ dL kL := hdL.ext e₂ (by simpa using nL)
  have rL₂ : Rel (SV h₂) kL TO := rL.mono fun _ _ _ r => r.keepsP sp₂
  have fL₀ : h₀.get? dL = none := none_of Z₁.keep fL
  have G₂ := G.keeps st₂
  refine wpAny_items_cons (callP1 (EvV.glob G₂ Z₂.keep (by k_is)) (.K G₂ Z₂.keep (by k_is)) (EvV.cell (cellK fun b o e => Z₂.keep b o (st₂ b o e))) ?_ rfl) rfl
  rintro _ s₃ rfl h₃ r₃
  have Z₃ := Z₂.touch h₃ r₃
  refine stats_spec G₂ Z₃.keep (hdN.keeps st₂) (rN.mono fun _ _ _ r => r.keeps st₂) (by omega) hh (by omega) fun dS kS s₄ r₄ x₄ hdS rS fS => ?_
  have nS := fresh_ns Z₃.ns fS
  have nSL : dS ≠ dL := by
    rintro rfl
    obtain ⟨o, ho, _⟩ := Heap.dictOf_iff.mp hdL₂.2
    rw [Z₃.keep _ _ ho] at fS; cases fS
  obtain ⟨h₄, st₄, sp₄, e₄, Z₄⟩ := (Z₃.ext0 r₄ x₄).rebaseP m0 (fun _ h => nomatch h)
  have hdS₄ : Dct w h₄ dS kS := hdS.ext e₄ (by simpa using nS)
  have rS₄ : Rel (SV h₄) kS TN := rS.mono fun _ _ _ r => r.keepsP sp₄
  have hdL₄ := hdL₂.keeps st₄
  have rL₄ : Rel (SV h₄) kL TO := rL₂.mono fun _ _ _ r => r.keeps st₄
  have s04 : Sub h₀ h₄ := fun b o e => st₄ b o (st₂ b o e)
  refine wpAny_items_nil ⟨by rw [sizeLine_eq]; simp, ?_⟩
  obtain ⟨Z₅, n5⟩ := Z₄.new (ob := tupOf [.ref dL, .ref dS]) (tk := s₄.toks)
  refine ⟨_, .ref dL, .ref dS, h₄, _, _, rfl, (Z₅.nw _ (.head _)).1, Z₅, fun s₆ Z₆' => ?_⟩
  have Z₆ := Z₆'.sub (news' := []) fun _ h => nomatch h
  -- told
  have lkL := rL.len
  have lkS := rS.len
  obtain ⟨oL, hoL, hdo⟩ := Heap.dictOf_iff.mp hdL₄.2
  have hkne : kL ≠ [] := fun q => by
    have := F.ne
    rw [q] at lkL
    exact this (List.eq_nil_of_length_eq_zero lkL.symm)
  have hq5 : Sub (hideAll h₄ [dL]) h₄ := fun b o e => of_hideAll _ e
  have s05 : Sub h₀ (hideAll h₄ [dL]) := fun b o e => hideAll_get _ (s04 b o e) (fun h => by rw [List.mem_singleton.mp h, fL₀] at e; cases e)
  have sp5 : SubP h₄ (hideAll h₄ [dL]) := fun b o hp e => hideAll_get _ e (fun h => by
    rw [List.mem_singleton.mp h, hoL] at e
    cases e
    exact notPl_dict hdo hkne hp)
  have hdS5 : Dct w (hideAll h₄ [dL]) dS kS := by
    obtain ⟨o, ho, r⟩ := Heap.dictOf_iff.mp hdS₄.2
    exact ⟨hdS₄.1, Heap.dictOf_iff.mpr ⟨o, hideAll_get _ ho (by simpa using nSL), r⟩⟩
  have off5 : (hideAll h₄ [dL]).get? dL = none := hideAll_none _ (by simp)
  generalize hideAll h₄ [dL] = h₅ at *
  have G₅ := G.keeps s05
  have Zm : Fm h₅ L s₀ [(dL, oL)] (upd (upd m "sums" (.ref dS)) "left" (.ref dL)) s₆ := by
    refine ⟨Z₆.ns, fun b o e => Z₆.keep b o (hq5 b o e), ?_, fun p hp => ?_, Z₆.rest⟩
    · cases q : h₅.get? L with
      | none => rfl
      | some o => have := Z₆.off; rw [hq5 _ _ q] at this; cases this
    · rw [List.mem_singleton.mp hp]
      exact ⟨Z₆.keep _ _ hoL, nL, off5⟩
  refine s_asgW (s₀ := s₀) (callP2 (EvV.glob G₅ Zm.keep (by k_is)) (.K G₅ Zm.keep (by k_is)) (EvV.name Zm.ns (by walk_at "lk")) (EvV.name Zm.ns (by walk_at "lk")) ?_ rfl rfl)
  rintro _ _ s₇ rfl rfl h₇ r₇
  have Z₇ := Zm.touch h₇ r₇
  refine compare_spec G₅ Z₇.keep (Z₇.nw _ (.head _)).1 off5 hdo hdL₄.1 (rL₄.mono fun _ _ _ r => r.keepsP sp5) F.nd hdS5 (rS₄.mono fun _ _ _ r => r.keepsP sp5) (by omega) (by omega) hh (by omega) fun RT tv eT oL' kL' s₈ r₈ x₈ hRT hDV hoL' hdo' rL' fR => ?_
  have Z₈ := Z₇.ext r₈ x₈ hoL' fun _ => not_nil
  obtain ⟨h₈, st₈, sp₈, e₈, Z₉⟩ := (Z₈.sub (news' := []) fun _ h => nomatch h).rebaseP (x := "script") (v := sv) (by walk_at "lk") (fun _ h => nomatch h)
  have hRT₈ : h₈.get? RT = some (listOf tv.toArray eT) := e₈ _ _ (by simpa using list_ns Z₈.ns hRT) hRT
  have hDV₈ := hDV.mono fun _ _ r => DV.keepsP r sp₈
  have hdL₈ : Dct w h₈ dL kL' := .of hdL₄.1 (e₈ _ _ (by simpa using nL) hoL') hdo'
  have rL₈ : Rel (SV h₈) kL' (delAll TO TN) := rL'.mono fun _ _ _ r => r.keepsP sp₈
  have s08 : Sub h₀ h₈ := fun b o e => st₈ b o (s05 b o e)
  refine ⟨h₈, [], _, Z₉, fun s₉ Z₁₀ => ?_⟩
  -- due
  have G₈ := G.keeps s08
  obtain ⟨⟨g1, g2⟩, -⟩ := good_of F.h2 F.h5 F.due.perm
  refine s_asgW (s₀ := s₀) (callP2 (EvV.glob G₈ Z₁₀.keep (by k_is)) (.K G₈ Z₁₀.keep (by k_is)) (EvV.name Z₁₀.ns (by walk_at "lk")) (EvV.cell (cellK fun b o e => Z₁₀.keep b o (s08 b o e))) ?_ rfl rfl)
  rintro _ _ s₁₀ rfl rfl h₁₀ r₁₀
  have Z₁₁ := Z₁₀.touch h₁₀ r₁₀
  refine due_spec G₈ Z₁₁.keep (hdO.keeps s08) (hdN.keeps s08) (rO.mono fun _ _ _ r => r.keeps s08) (rN.mono fun _ _ _ r => r.keeps s08) hh (by omega) F.due g1 g2 F.h2 (by have := F.h5; omega) fun RD uv eU s₁₁ r₁₁ x₁₁ hRD hFT => ?_
  have Z₁₂ := Z₁₁.ext0 r₁₁ x₁₁
  obtain ⟨hE, stE, spE, eE, Z₁₃⟩ := Z₁₂.rebaseP (x := "script") (v := sv) (by walk_at "lk") (fun _ h => nomatch h)
  refine ⟨hE, [], _, Z₁₃, fun s₁₂ Z₁₄ => ?_⟩
  have s0E : Sub h₀ hE := fun b o e => stE b o (s08 b o e)
  have s5E : Sub h₅ hE := fun b o e => stE b o (st₈ b o e)
  exact law_last F (G.keeps s0E) hh hfr hroom hu Z₁₄ (stE _ _ hRT₈) (hDV₈.mono fun _ _ r => r.keeps stE) (eE _ _ (by simpa using list_ns Z₁₂.ns hRD) hRD) (hFT.mono fun _ _ r => r.keepsP spE) hN (cellK s0E) (hdO.keeps s0E) (hdN.keeps s0E) (hdS5.keeps s5E) (hdL₈.keeps stE)
    (rO.mono fun _ _ _ r => r.keeps s0E) (rN.mono fun _ _ _ r => r.keeps s0E) (rS₄.mono fun _ _ _ r => (r.keepsP sp5).keeps s5E) (rL₈.mono fun _ _ _ r => r.keeps stE)
    (by walk_at "lk") (by walk_at "lk") (by walk_at "lk") (by walk_at "lk") (by walk_at "lk") (by walk_at "lk") fun s' r' k' => ret s' r' fun b o e => k' b o (s0E b o e)

set_option maxHeartbeats 8000000 in
/-- the law -/
theorem law_body {oc : Obj} (G : Gd w h₀) (hh : A.handled = none) (hfr : A.frames = some [eLw L fa cd]) (hroom : A.depth + 50 < recursionLimit) (hu : A.units + 600 < cLine)
    (Z : Fm h₀ L s₀ [(L + 1, oc)] m s) (ho : oc.data = .cell none) (ms : m "script" = some (.ref a)) (hl : h₀.IsList a vs.toArray) (hi : IntsAre vs ns) (h63 : vs.length ≤ 63)
    (ret : ∀ s', Rest s₀ s' → Sub h₀ s'.heap → Q (.ret (.bool true)) s') : wpAny (MM w) A (execs (txt (st 25)) (eLw L fa cd)) Q E s := by
  obtain ⟨S, σ, ρ, S2, σ2, F⟩ := facts ns
  refine s_unpack2 (callP1 (EvV.glob G Z.keep (by k_is)) (.K G Z.keep (by k_is)) (EvV.name Z.ns ms) ?_ rfl)
  rintro _ s₁ rfl h₁ r₁
  have Z₁ := Z.touch h₁ r₁
  refine tables_spec G Z₁.keep hl hi h63 hh (by omega) fun T dO dN kO kN s₂ r₂ x₂ hT hdO hdN rO rN hne fO fN => ?_
  have Z₂ := Z₁.ext0 r₂ x₂
  have zc := Z₁.nw _ (.head _)
  have nc : ∀ d, s₁.heap.get? d = none → d ∉ L :: [(L + 1, oc)].map (·.1) := fun d e hm => by
    simp only [List.map_cons, List.map_nil, List.mem_cons, List.not_mem_nil, or_false] at hm
    rcases hm with rfl | rfl
    · exact fresh_ns Z₁.ns e rfl
    · rw [zc.1] at e; cases e
  obtain ⟨h₂, st₂, sp₂, e₂, Z₃⟩ := Z₂.rebaseP ms (fun p hp => by rw [List.mem_singleton.mp hp]; exact notPl_cell ho)
  have hT₂ : h₂.get? T = some (tupOf [.ref dO, .ref dN]) := sp₂ _ _ (.tup _) hT
  refine a_unpack2c (c := L + 1) hh Z₃ ho ⟨_, Z₃.keep _ _ hT₂, rfl, 0, rfl⟩ fun oc' s₃ hoc Z₄ => ?_
  have zc' := Z₄.nw _ (.head _)
  obtain ⟨h₃, st₃, e₃, Z₅⟩ := (Z₄.sub (news' := []) fun _ h => nomatch h).rebase
  have hc3 : h₃.IsCell (L + 1) (some (.ref dN)) := ⟨oc', e₃ _ _ (by simp) zc'.1, hoc⟩
  have s03 : Sub h₀ h₃ := fun b o e => st₃ b o (st₂ b o e)
  have hl3 : h₃.IsList a vs.toArray := by obtain ⟨o, q1, q2⟩ := hl; exact ⟨o, s03 _ _ q1, q2⟩
  refine law_wish (G.keeps s03) hh Z₅ (by walk_at "lk") hl3 hi fun N t s₄ hN Z₆ => ?_
  exact law_mid F (G.keeps s03) hh hfr hroom hu Z₆ hN hc3 ((hdO.ext e₂ (nc _ fO)).keeps st₃) ((hdN.ext e₂ (nc _ fN)).keeps st₃) (rO.mono fun _ _ _ r => (r.keepsP sp₂).keeps st₃) (rN.mono fun _ _ _ r => (r.keepsP sp₂).keeps st₃) (sv := .ref a)
    (by walk_at "lk") (by walk_at "lk") (by walk_at "lk") fun s' r' k' => ret s' r' fun b o e => k' b o (s03 b o e)
end
end Mine

end
section
open PySem PySem.W PySem.Calls PyProof.Rows PySem.SeqAt
namespace Mine

/-- the law's body, as the head of an open law leaves it -/
theorem law_end {w : World} {s₁ : Shared} {mg mb : Str → Option Value} {n : Nat} {defs : List DefItem} {consts : List (Str × PyData)} {objs : List (Str × (Obj → Prop))} {names : List Str} {h₁ : Heap} {tk : Nat} {m : Str → Option Value} {oc : Obj} {fa a : Addr} {cd : Value} {vs : List Value} {ns : List Int} {Q : Flow → Shared → Prop} {E : Value → Shared → Prop}
    (KX : (K w.params).In s₁.heap) (GL : Glob n mg mb defs consts objs names s₁.heap) (F : Fr s₁.heap s₁.heap.objs.size h₁ m) (N : News s₁.heap s₁.heap.objs.size h₁ [(s₁.heap.objs.size + 1, oc)]) (ho : oc.data = .cell none) (ms : m "script" = some (.ref a))
    (hl : s₁.heap.IsList a vs.toArray) (hi : IntsAre vs ns) (h63 : vs.length ≤ 63)
    (ret : ∀ s', (∀ b o, s₁.heap.get? b = some o → s'.heap.get? b = some o) → s'.os = s₁.os → s'.gens = s₁.gens → Q (.ret (.bool true)) s') :
    wpAny (MM w) (callerA.deeper (eLw s₁.heap.objs.size fa cd)) (execs (txt (st 25)) (eLw s₁.heap.objs.size fa cd)) Q E { s₁ with heap := h₁, toks := tk } := by
  have G : Gd w s₁.heap := ⟨KX, ⟨mg, GL.g⟩, ⟨mb, GL.b, GL.builtins⟩, GL.nolimit⟩
  exact law_body G rfl rfl (show callerA.depth + 1 + 50 < recursionLimit by decide) (show callerA.units + 3 + 600 < cLine by decide +kernel) (s₀ := s₁) ⟨F.ns, F.keep, Heap.get?_none_of_le (Nat.le_refl _), fun p hp => N p hp, .heap⟩ ho ms hl hi h63 fun s' r k => ret s' k r.2.2 r.1
theorem good_end {c : ClaimW} {cl : Str → Option Addr} {mean : ExcName → Option Value} {args : List WData} {s₁ s' : Shared} (hr : ∀ cls, c.raises args cls = false) (hp : c.post args (.bool true) args = true) (hk : ∀ b o, s₁.heap.get? b = some o → s'.heap.get? b = some o) (ho : s'.os = s₁.os) (hg : s'.gens = #[]) :
    GoodW c cl mean args s₁ (.ok (.ret (.bool true))) s' :=
  ⟨.inl ⟨_, _, [], rfl, hr, ReadsW.bool true, hp, fun _ => ⟨List.nodup_nil, fun _ hm => (nomatch hm)⟩⟩, hk, ho, hg⟩
end Mine

end
section
open PySem PySem.W PySem.Calls PyProof.Rows
namespace Mine
def view : Program := { PySem.Challenge.pw_mg0065_01 with main := { PySem.Challenge.pw_mg0065_01.main with body := [st 25] } }
def loose : List PySem.Str := ["_format_size", "Statistic", "StatisticDiff", "_compare_grouped_stats", "heappop", "heapreplace", "heapify", "_heapreplace_max", "_heapify_max", "_siftdown", "_siftup", "_siftdown_max", "_siftup_max", "nsmallest", "nlargest", "_law_tables", "_law_stats", "_law_due", "_law_fields", "_law_few", "_law_heap", "_law_sums"]
noncomputable abbrev HK : Hook := kHook K Kas (fun _ => by kernel_rfl)
abbrev rr : RowW := OpenRow.toRowW PySem.Challenge.rw_mg0065_01.row
abbrev Xt : Shared → Bool := fun s => xlAt view [] s && recOk (RowW.records rr) s
set_option maxHeartbeats 0 in
theorem left : LeftO PySem.Challenge.rw_mg0065_01.row.prog view loose Xt (Hook.obs HK) (Hook.val HK) 3216 := by
  intro w
  kernel_rfl
end Mine

end
section
open PySem PySem.W PySem.Calls PyProof.Rows
local macro_rules | `(tactic| k_qdec) => `(tactic| decide +kernel)
set_option maxHeartbeats 0 in
theorem PySem.Challenge.cw_mg0065_01_holds : PySem.Challenge.rw_mg0065_01.Holds := by
  w_on
  refine holds_law (by decide +kernel) fun said => ?_
  refine holds_open (q := Mine.view) (loose := Mine.loose) (Xt := Mine.Xt) (XP := XL Mine.view []) (Yf := Hook.obs Mine.HK) (Ya := Hook.val Mine.HK) (YP := Hook.says Mine.HK) (N := 3216) Mine.left (Hook.of Mine.HK) (Hook.keeps Mine.HK) (fun s e => xl_of s (Bool.and_eq_true_iff.mp e).1) XL.keeps (by rfl) (by rfl) (by rfl) (fun s e => recFacts_of (Bool.and_eq_true_iff.mp e).2) (by rfl) (by first | assumption | decide +kernel) (by decide +kernel) ⟨rfl, rfl, rfl, rfl, rfl, by decide +kernel⟩ ?hw ?hc
  case hw => w_witness2
  w_strict (k_go0; (all_goals try k_fold); (refine Mine.law_end (by assumption) (by assumption) (by assumption) (by assumption) (by assumption) rfl (by assumption) (by assumption) ?_ ?_))
  · have hlen := IntsAre.length ‹IntsAre _ _›
    omega
  · intro s' k ho hg
    show GoodW _ _ _ _ _ (.ok (.ret (.bool true))) _
    exact Mine.good_end (fun _ => rfl) (by first | rfl | wrow_post) k ho (hg.trans (by assumption))

end
