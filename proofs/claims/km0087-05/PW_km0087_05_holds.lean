import PyProof.Rows.All
import Wide.All
import OpenK.AllK
import Wide.FinOn
import Lean
import PySem.Challenge.RW_km0087_05
open PySem PySem.W PyProof.Rows
set_option Elab.async false
set_option maxRecDepth 100000
local macro_rules | `(tactic| walk_at $s:str) => `(tactic| k_extra $s)
section
namespace Mine
noncomputable abbrev progL : Program := Challenge.rw_km0087_05.row.prog
def pick (l : List Stmt) (is : List Nat) : List Stmt := is.filterMap (l[·]?)
noncomputable def viewK0 : Program := { progL with main := { progL.main with body := pick progL.main.body [1, 2, 3, 4, 8, 9, 10, 11, 12, 13, 14, 15, 16, 17, 18, 19, 21, 22, 23, 24, 25, 26] } }
noncomputable def viewK : Program := by
  refine' (?f : (x : Program) → x = viewK0 → Program) _ ?h
  case f => exact fun x _ => x
  case h =>
    unfold viewK0
    dsimp only [progL, OpenLaw.row, OpenLaw.prog, Challenge.rw_km0087_05, Challenge.pw_km0087_05, pick, List.filterMap, List.getElem?_cons_succ, List.getElem?_cons_zero]
    exact rfl
noncomputable def fnL (i : Nat) : Arguments × List Stmt × Scope := match progL.main.body[i]? with
  | some (.FunctionDef _ p b _ _ _ s _ _ _) => (p, b, s)
  | _ => default
set_option maxHeartbeats 0 in
noncomputable def heapK : Params → Frag := fun P => List.cons (nat_lit 2, ({ cls := PySem.Value.none, data := PySem.Data.dict #[] } : Obj)) <|
  List.cons (nat_lit 3, ({ cls := PySem.Value.type "dict", data := PySem.Data.dict #[{ hash := PySem.PyData.keyHash P (PySem.Str.ofString "__name__"), key := PySem.Value.str (PySem.Str.ofString "__name__") 165, val := PySem.Value.str (PySem.Str.ofString "law_km0087_05") 396 }, { hash := PySem.PyData.keyHash P (PySem.Str.ofString "__doc__"), key := PySem.Value.str (PySem.Str.ofString "__doc__") 166, val := PySem.Value.none }, { hash := PySem.PyData.keyHash P (PySem.Str.ofString "__package__"), key := PySem.Value.str (PySem.Str.ofString "__package__") 167, val := PySem.Value.none }, { hash := PySem.PyData.keyHash P (PySem.Str.ofString "__loader__"), key := PySem.Value.str (PySem.Str.ofString "__loader__") 168, val := PySem.Value.builtin "__main__.__loader__#opaque" }, { hash := PySem.PyData.keyHash P (PySem.Str.ofString "__spec__"), key := PySem.Value.str (PySem.Str.ofString "__spec__") 169, val := PySem.Value.none }, { hash := PySem.PyData.keyHash P (PySem.Str.ofString "__annotations__"), key := PySem.Value.str (PySem.Str.ofString "__annotations__") 170, val := PySem.Value.ref 6 }, { hash := PySem.PyData.keyHash P (PySem.Str.ofString "__builtins__"), key := PySem.Value.str (PySem.Str.ofString "__builtins__") 171, val := PySem.Value.ref 4 }, { hash := PySem.PyData.keyHash P (PySem.Str.ofString "__file__"), key := PySem.Value.str (PySem.Str.ofString "__file__") 173, val := PySem.Value.str (PySem.Str.ofString "/claim/cut.py") 172 }, { hash := PySem.PyData.keyHash P (PySem.Str.ofString "__cached__"), key := PySem.Value.str (PySem.Str.ofString "__cached__") 174, val := PySem.Value.none }, { hash := PySem.PyData.keyHash P (PySem.Str.ofString "MINYEAR"), key := PySem.Value.str (PySem.Str.ofString "MINYEAR") 190, val := PySem.Value.int 1 189 }, { hash := PySem.PyData.keyHash P (PySem.Str.ofString "MAXYEAR"), key := PySem.Value.str (PySem.Str.ofString "MAXYEAR") 192, val := PySem.Value.int 9999 191 }, { hash := PySem.PyData.keyHash P (PySem.Str.ofString "_DAYS_IN_MONTH"), key := PySem.Value.str (PySem.Str.ofString "_DAYS_IN_MONTH") 207, val := PySem.Value.ref 15 }, { hash := PySem.PyData.keyHash P (PySem.Str.ofString "_DAYS_BEFORE_MONTH"), key := PySem.Value.str (PySem.Str.ofString "_DAYS_BEFORE_MONTH") 210, val := PySem.Value.ref 16 }, { hash := PySem.PyData.keyHash P (PySem.Str.ofString "_is_leap"), key := PySem.Value.str (PySem.Str.ofString "_is_leap") 256, val := PySem.Value.ref 28 }, { hash := PySem.PyData.keyHash P (PySem.Str.ofString "_days_before_year"), key := PySem.Value.str (PySem.Str.ofString "_days_before_year") 264, val := PySem.Value.ref 35 }, { hash := PySem.PyData.keyHash P (PySem.Str.ofString "_days_in_month"), key := PySem.Value.str (PySem.Str.ofString "_days_in_month") 272, val := PySem.Value.ref 42 }, { hash := PySem.PyData.keyHash P (PySem.Str.ofString "_days_before_month"), key := PySem.Value.str (PySem.Str.ofString "_days_before_month") 280, val := PySem.Value.ref 49 }, { hash := PySem.PyData.keyHash P (PySem.Str.ofString "_ymd2ord"), key := PySem.Value.str (PySem.Str.ofString "_ymd2ord") 290, val := PySem.Value.ref 56 }, { hash := PySem.PyData.keyHash P (PySem.Str.ofString "_DI400Y"), key := PySem.Value.str (PySem.Str.ofString "_DI400Y") 307, val := PySem.Value.int 146097 306 }, { hash := PySem.PyData.keyHash P (PySem.Str.ofString "_DI100Y"), key := PySem.Value.str (PySem.Str.ofString "_DI100Y") 324, val := PySem.Value.int 36524 323 }, { hash := PySem.PyData.keyHash P (PySem.Str.ofString "_DI4Y"), key := PySem.Value.str (PySem.Str.ofString "_DI4Y") 341, val := PySem.Value.int 1461 340 }, { hash := PySem.PyData.keyHash P (PySem.Str.ofString "_ord2ymd"), key := PySem.Value.str (PySem.Str.ofString "_ord2ymd") 356, val := PySem.Value.ref 66 }, { hash := PySem.PyData.keyHash P (PySem.Str.ofString "_parse_isoformat_date"), key := PySem.Value.str (PySem.Str.ofString "_parse_isoformat_date") 370, val := PySem.Value.ref 73 }, { hash := PySem.PyData.keyHash P (PySem.Str.ofString "_isoweek_to_gregorian"), key := PySem.Value.str (PySem.Str.ofString "_isoweek_to_gregorian") 384, val := PySem.Value.ref 80 }, { hash := PySem.PyData.keyHash P (PySem.Str.ofString "_isoweek1monday"), key := PySem.Value.str (PySem.Str.ofString "_isoweek1monday") 395, val := PySem.Value.ref 87 }, { hash := PySem.PyData.keyHash P (PySem.Str.ofString "_law_read"), key := PySem.Value.str (PySem.Str.ofString "_law_read") 405, val := PySem.Value.ref 94 }, { hash := PySem.PyData.keyHash P (PySem.Str.ofString "_law_length"), key := PySem.Value.str (PySem.Str.ofString "_law_length") 413, val := PySem.Value.ref 101 }, { hash := PySem.PyData.keyHash P (PySem.Str.ofString "_law_day"), key := PySem.Value.str (PySem.Str.ofString "_law_day") 424, val := PySem.Value.ref 108 }, { hash := PySem.PyData.keyHash P (PySem.Str.ofString "_law_name"), key := PySem.Value.str (PySem.Str.ofString "_law_name") 430, val := PySem.Value.ref 113 }, { hash := PySem.PyData.keyHash P (PySem.Str.ofString "_law_looked_up"), key := PySem.Value.str (PySem.Str.ofString "_law_looked_up") 436, val := PySem.Value.ref 118 }, { hash := PySem.PyData.keyHash P (PySem.Str.ofString "law"), key := PySem.Value.str (PySem.Str.ofString "law") 442, val := PySem.Value.ref 123 }] 35 } : Obj)) <|
  List.cons (nat_lit 6, ({ cls := PySem.Value.type "dict", data := PySem.Data.dict #[] } : Obj)) <|
  List.cons (nat_lit 15, ({ cls := PySem.Value.type "list", data := PySem.Data.seq #[PySem.Value.int (-1) 194, PySem.Value.int 31 195, PySem.Value.int 28 196, PySem.Value.int 31 197, PySem.Value.int 30 198, PySem.Value.int 31 199, PySem.Value.int 30 200, PySem.Value.int 31 201, PySem.Value.int 31 202, PySem.Value.int 30 203, PySem.Value.int 31 204, PySem.Value.int 30 205, PySem.Value.int 31 206] } : Obj)) <|
  List.cons (nat_lit 16, ({ cls := PySem.Value.type "list", data := PySem.Data.seq #[PySem.Value.int (-1) 209, PySem.Value.int 0 211, PySem.Value.int 31 215, PySem.Value.int 59 218, PySem.Value.int 90 221, PySem.Value.int 120 224, PySem.Value.int 151 227, PySem.Value.int 181 230, PySem.Value.int 212 233, PySem.Value.int 243 236, PySem.Value.int 273 239, PySem.Value.int 304 242, PySem.Value.int 334 245] 12 } : Obj)) <|
  List.cons (nat_lit 22, ({ cls := PySem.Value.type "tuple", data := PySem.Data.seq #[] } : Obj)) <|
  List.cons (nat_lit 24, ({ cls := PySem.Value.type "tuple", data := PySem.Data.seq #[PySem.Value.str (PySem.Str.ofString "year") 253] } : Obj)) <|
  List.cons (nat_lit 25, ({ cls := PySem.Value.type "tuple", data := PySem.Data.seq #[] } : Obj)) <|
  List.cons (nat_lit 27, ({ cls := PySem.Value.type "code", data := PySem.Data.fields #[PySem.Value.str (PySem.Str.ofString "_is_leap") 250, PySem.Value.str (PySem.Str.ofString "_is_leap") 251, PySem.Value.str (PySem.Str.ofString "/claim/cut.py") 252, PySem.Value.int 11 0, PySem.Value.int 1 0, PySem.Value.int 0 0, PySem.Value.int 0 0, PySem.Value.int 3 0, PySem.Value.ref 22, PySem.Value.bool true, PySem.Value.int 181 0, PySem.Value.ref 23, PySem.Value.none, PySem.Value.ref 24, PySem.Value.ref 25, PySem.Value.ref 26, PySem.Value.int 254 0, PySem.Value.int 11 0, PySem.Value.str (PySem.Str.ofString "/claim/cut.py") 255] } : Obj)) <|
  List.cons (nat_lit 28, ((by refine' (?f : (x : Obj) → x = ({ cls := PySem.Value.type "function", data := PySem.Data.func { name := PySem.Str.ofString "_is_leap", qualname := PySem.Str.ofString "_is_leap", params := (fnL 8).1, body := PySem.FuncBody.stmts (fnL 8).2.1, scope := (fnL 8).2.2, globals := 3, closure := [], defaults := PySem.Value.none, kwdefaults := PySem.Value.none, pyModule := PySem.Value.str (PySem.Str.ofString "cpy313._pydatetime") 187, code := PySem.Value.ref 27 } } : Obj) → Obj) _ ?h; (case f => exact fun x _ => x); (case h => (dsimp only [fnL, progL, OpenLaw.row, OpenLaw.prog, Challenge.rw_km0087_05, Challenge.pw_km0087_05, List.getElem?_cons_succ, List.getElem?_cons_zero]; exact rfl))) : Obj)) <|
  List.cons (nat_lit 29, ({ cls := PySem.Value.type "tuple", data := PySem.Data.seq #[] } : Obj)) <|
  List.cons (nat_lit 31, ({ cls := PySem.Value.type "tuple", data := PySem.Data.seq #[PySem.Value.str (PySem.Str.ofString "year") 260, PySem.Value.str (PySem.Str.ofString "y") 261] } : Obj)) <|
  List.cons (nat_lit 32, ({ cls := PySem.Value.type "tuple", data := PySem.Data.seq #[] } : Obj)) <|
  List.cons (nat_lit 34, ({ cls := PySem.Value.type "code", data := PySem.Data.fields #[PySem.Value.str (PySem.Str.ofString "_days_before_year") 257, PySem.Value.str (PySem.Str.ofString "_days_before_year") 258, PySem.Value.str (PySem.Str.ofString "/claim/cut.py") 259, PySem.Value.int 13 0, PySem.Value.int 1 0, PySem.Value.int 0 0, PySem.Value.int 0 0, PySem.Value.int 3 0, PySem.Value.ref 29, PySem.Value.bool true, PySem.Value.int 181 0, PySem.Value.ref 30, PySem.Value.none, PySem.Value.ref 31, PySem.Value.ref 32, PySem.Value.ref 33, PySem.Value.int 262 0, PySem.Value.int 13 0, PySem.Value.str (PySem.Str.ofString "/claim/cut.py") 263] } : Obj)) <|
  List.cons (nat_lit 35, ((by refine' (?f : (x : Obj) → x = ({ cls := PySem.Value.type "function", data := PySem.Data.func { name := PySem.Str.ofString "_days_before_year", qualname := PySem.Str.ofString "_days_before_year", params := (fnL 9).1, body := PySem.FuncBody.stmts (fnL 9).2.1, scope := (fnL 9).2.2, globals := 3, closure := [], defaults := PySem.Value.none, kwdefaults := PySem.Value.none, pyModule := PySem.Value.str (PySem.Str.ofString "cpy313._pydatetime") 187, code := PySem.Value.ref 34 } } : Obj) → Obj) _ ?h; (case f => exact fun x _ => x); (case h => (dsimp only [fnL, progL, OpenLaw.row, OpenLaw.prog, Challenge.rw_km0087_05, Challenge.pw_km0087_05, List.getElem?_cons_succ, List.getElem?_cons_zero]; exact rfl))) : Obj)) <|
  List.cons (nat_lit 36, ({ cls := PySem.Value.type "tuple", data := PySem.Data.seq #[] } : Obj)) <|
  List.cons (nat_lit 38, ({ cls := PySem.Value.type "tuple", data := PySem.Data.seq #[PySem.Value.str (PySem.Str.ofString "year") 268, PySem.Value.str (PySem.Str.ofString "month") 269] } : Obj)) <|
  List.cons (nat_lit 39, ({ cls := PySem.Value.type "tuple", data := PySem.Data.seq #[] } : Obj)) <|
  List.cons (nat_lit 41, ({ cls := PySem.Value.type "code", data := PySem.Data.fields #[PySem.Value.str (PySem.Str.ofString "_days_in_month") 265, PySem.Value.str (PySem.Str.ofString "_days_in_month") 266, PySem.Value.str (PySem.Str.ofString "/claim/cut.py") 267, PySem.Value.int 16 0, PySem.Value.int 2 0, PySem.Value.int 0 0, PySem.Value.int 0 0, PySem.Value.int 3 0, PySem.Value.ref 36, PySem.Value.bool true, PySem.Value.int 181 0, PySem.Value.ref 37, PySem.Value.none, PySem.Value.ref 38, PySem.Value.ref 39, PySem.Value.ref 40, PySem.Value.int 270 0, PySem.Value.int 16 0, PySem.Value.str (PySem.Str.ofString "/claim/cut.py") 271] } : Obj)) <|
  List.cons (nat_lit 42, ((by refine' (?f : (x : Obj) → x = ({ cls := PySem.Value.type "function", data := PySem.Data.func { name := PySem.Str.ofString "_days_in_month", qualname := PySem.Str.ofString "_days_in_month", params := (fnL 10).1, body := PySem.FuncBody.stmts (fnL 10).2.1, scope := (fnL 10).2.2, globals := 3, closure := [], defaults := PySem.Value.none, kwdefaults := PySem.Value.none, pyModule := PySem.Value.str (PySem.Str.ofString "cpy313._pydatetime") 187, code := PySem.Value.ref 41 } } : Obj) → Obj) _ ?h; (case f => exact fun x _ => x); (case h => (dsimp only [fnL, progL, OpenLaw.row, OpenLaw.prog, Challenge.rw_km0087_05, Challenge.pw_km0087_05, List.getElem?_cons_succ, List.getElem?_cons_zero]; exact rfl))) : Obj)) <|
  List.cons (nat_lit 43, ({ cls := PySem.Value.type "tuple", data := PySem.Data.seq #[] } : Obj)) <|
  List.cons (nat_lit 45, ({ cls := PySem.Value.type "tuple", data := PySem.Data.seq #[PySem.Value.str (PySem.Str.ofString "year") 276, PySem.Value.str (PySem.Str.ofString "month") 277] } : Obj)) <|
  List.cons (nat_lit 46, ({ cls := PySem.Value.type "tuple", data := PySem.Data.seq #[] } : Obj)) <|
  List.cons (nat_lit 48, ({ cls := PySem.Value.type "code", data := PySem.Data.fields #[PySem.Value.str (PySem.Str.ofString "_days_before_month") 273, PySem.Value.str (PySem.Str.ofString "_days_before_month") 274, PySem.Value.str (PySem.Str.ofString "/claim/cut.py") 275, PySem.Value.int 21 0, PySem.Value.int 2 0, PySem.Value.int 0 0, PySem.Value.int 0 0, PySem.Value.int 3 0, PySem.Value.ref 43, PySem.Value.bool true, PySem.Value.int 181 0, PySem.Value.ref 44, PySem.Value.none, PySem.Value.ref 45, PySem.Value.ref 46, PySem.Value.ref 47, PySem.Value.int 278 0, PySem.Value.int 21 0, PySem.Value.str (PySem.Str.ofString "/claim/cut.py") 279] } : Obj)) <|
  List.cons (nat_lit 49, ((by refine' (?f : (x : Obj) → x = ({ cls := PySem.Value.type "function", data := PySem.Data.func { name := PySem.Str.ofString "_days_before_month", qualname := PySem.Str.ofString "_days_before_month", params := (fnL 11).1, body := PySem.FuncBody.stmts (fnL 11).2.1, scope := (fnL 11).2.2, globals := 3, closure := [], defaults := PySem.Value.none, kwdefaults := PySem.Value.none, pyModule := PySem.Value.str (PySem.Str.ofString "cpy313._pydatetime") 187, code := PySem.Value.ref 48 } } : Obj) → Obj) _ ?h; (case f => exact fun x _ => x); (case h => (dsimp only [fnL, progL, OpenLaw.row, OpenLaw.prog, Challenge.rw_km0087_05, Challenge.pw_km0087_05, List.getElem?_cons_succ, List.getElem?_cons_zero]; exact rfl))) : Obj)) <|
  List.cons (nat_lit 50, ({ cls := PySem.Value.type "tuple", data := PySem.Data.seq #[] } : Obj)) <|
  List.cons (nat_lit 52, ({ cls := PySem.Value.type "tuple", data := PySem.Data.seq #[PySem.Value.str (PySem.Str.ofString "year") 284, PySem.Value.str (PySem.Str.ofString "month") 285, PySem.Value.str (PySem.Str.ofString "day") 286, PySem.Value.str (PySem.Str.ofString "dim") 287] } : Obj)) <|
  List.cons (nat_lit 53, ({ cls := PySem.Value.type "tuple", data := PySem.Data.seq #[] } : Obj)) <|
  List.cons (nat_lit 55, ({ cls := PySem.Value.type "code", data := PySem.Data.fields #[PySem.Value.str (PySem.Str.ofString "_ymd2ord") 281, PySem.Value.str (PySem.Str.ofString "_ymd2ord") 282, PySem.Value.str (PySem.Str.ofString "/claim/cut.py") 283, PySem.Value.int 24 0, PySem.Value.int 3 0, PySem.Value.int 0 0, PySem.Value.int 0 0, PySem.Value.int 3 0, PySem.Value.ref 50, PySem.Value.bool true, PySem.Value.int 181 0, PySem.Value.ref 51, PySem.Value.none, PySem.Value.ref 52, PySem.Value.ref 53, PySem.Value.ref 54, PySem.Value.int 288 0, PySem.Value.int 24 0, PySem.Value.str (PySem.Str.ofString "/claim/cut.py") 289] } : Obj)) <|
  List.cons (nat_lit 56, ((by refine' (?f : (x : Obj) → x = ({ cls := PySem.Value.type "function", data := PySem.Data.func { name := PySem.Str.ofString "_ymd2ord", qualname := PySem.Str.ofString "_ymd2ord", params := (fnL 12).1, body := PySem.FuncBody.stmts (fnL 12).2.1, scope := (fnL 12).2.2, globals := 3, closure := [], defaults := PySem.Value.none, kwdefaults := PySem.Value.none, pyModule := PySem.Value.str (PySem.Str.ofString "cpy313._pydatetime") 187, code := PySem.Value.ref 55 } } : Obj) → Obj) _ ?h; (case f => exact fun x _ => x); (case h => (dsimp only [fnL, progL, OpenLaw.row, OpenLaw.prog, Challenge.rw_km0087_05, Challenge.pw_km0087_05, List.getElem?_cons_succ, List.getElem?_cons_zero]; exact rfl))) : Obj)) <|
  List.cons (nat_lit 60, ({ cls := PySem.Value.type "tuple", data := PySem.Data.seq #[] } : Obj)) <|
  List.cons (nat_lit 62, ({ cls := PySem.Value.type "tuple", data := PySem.Data.seq #[PySem.Value.str (PySem.Str.ofString "n") 345, PySem.Value.str (PySem.Str.ofString "n400") 346, PySem.Value.str (PySem.Str.ofString "year") 347, PySem.Value.str (PySem.Str.ofString "n100") 348, PySem.Value.str (PySem.Str.ofString "n4") 349, PySem.Value.str (PySem.Str.ofString "n1") 350, PySem.Value.str (PySem.Str.ofString "leapyear") 351, PySem.Value.str (PySem.Str.ofString "month") 352, PySem.Value.str (PySem.Str.ofString "preceding") 353] } : Obj)) <|
  List.cons (nat_lit 63, ({ cls := PySem.Value.type "tuple", data := PySem.Data.seq #[] } : Obj)) <|
  List.cons (nat_lit 65, ({ cls := PySem.Value.type "code", data := PySem.Data.fields #[PySem.Value.str (PySem.Str.ofString "_ord2ymd") 342, PySem.Value.str (PySem.Str.ofString "_ord2ymd") 343, PySem.Value.str (PySem.Str.ofString "/claim/cut.py") 344, PySem.Value.int 32 0, PySem.Value.int 1 0, PySem.Value.int 0 0, PySem.Value.int 0 0, PySem.Value.int 3 0, PySem.Value.ref 60, PySem.Value.bool true, PySem.Value.int 181 0, PySem.Value.ref 61, PySem.Value.none, PySem.Value.ref 62, PySem.Value.ref 63, PySem.Value.ref 64, PySem.Value.int 354 0, PySem.Value.int 32 0, PySem.Value.str (PySem.Str.ofString "/claim/cut.py") 355] } : Obj)) <|
  List.cons (nat_lit 66, ((by refine' (?f : (x : Obj) → x = ({ cls := PySem.Value.type "function", data := PySem.Data.func { name := PySem.Str.ofString "_ord2ymd", qualname := PySem.Str.ofString "_ord2ymd", params := (fnL 16).1, body := PySem.FuncBody.stmts (fnL 16).2.1, scope := (fnL 16).2.2, globals := 3, closure := [], defaults := PySem.Value.none, kwdefaults := PySem.Value.none, pyModule := PySem.Value.str (PySem.Str.ofString "cpy313._pydatetime") 187, code := PySem.Value.ref 65 } } : Obj) → Obj) _ ?h; (case f => exact fun x _ => x); (case h => (dsimp only [fnL, progL, OpenLaw.row, OpenLaw.prog, Challenge.rw_km0087_05, Challenge.pw_km0087_05, List.getElem?_cons_succ, List.getElem?_cons_zero]; exact rfl))) : Obj)) <|
  List.cons (nat_lit 67, ({ cls := PySem.Value.type "tuple", data := PySem.Data.seq #[] } : Obj)) <|
  List.cons (nat_lit 69, ({ cls := PySem.Value.type "tuple", data := PySem.Data.seq #[PySem.Value.str (PySem.Str.ofString "dtstr") 360, PySem.Value.str (PySem.Str.ofString "year") 361, PySem.Value.str (PySem.Str.ofString "has_sep") 362, PySem.Value.str (PySem.Str.ofString "pos") 363, PySem.Value.str (PySem.Str.ofString "weekno") 364, PySem.Value.str (PySem.Str.ofString "dayno") 365, PySem.Value.str (PySem.Str.ofString "month") 366, PySem.Value.str (PySem.Str.ofString "day") 367] } : Obj)) <|
  List.cons (nat_lit 70, ({ cls := PySem.Value.type "tuple", data := PySem.Data.seq #[] } : Obj)) <|
  List.cons (nat_lit 72, ({ cls := PySem.Value.type "code", data := PySem.Data.fields #[PySem.Value.str (PySem.Str.ofString "_parse_isoformat_date") 357, PySem.Value.str (PySem.Str.ofString "_parse_isoformat_date") 358, PySem.Value.str (PySem.Str.ofString "/claim/cut.py") 359, PySem.Value.int 53 0, PySem.Value.int 1 0, PySem.Value.int 0 0, PySem.Value.int 0 0, PySem.Value.int 3 0, PySem.Value.ref 67, PySem.Value.bool true, PySem.Value.int 181 0, PySem.Value.ref 68, PySem.Value.none, PySem.Value.ref 69, PySem.Value.ref 70, PySem.Value.ref 71, PySem.Value.int 368 0, PySem.Value.int 53 0, PySem.Value.str (PySem.Str.ofString "/claim/cut.py") 369] } : Obj)) <|
  List.cons (nat_lit 73, ((by refine' (?f : (x : Obj) → x = ({ cls := PySem.Value.type "function", data := PySem.Data.func { name := PySem.Str.ofString "_parse_isoformat_date", qualname := PySem.Str.ofString "_parse_isoformat_date", params := (fnL 17).1, body := PySem.FuncBody.stmts (fnL 17).2.1, scope := (fnL 17).2.2, globals := 3, closure := [], defaults := PySem.Value.none, kwdefaults := PySem.Value.none, pyModule := PySem.Value.str (PySem.Str.ofString "cpy313._pydatetime") 187, code := PySem.Value.ref 72 } } : Obj) → Obj) _ ?h; (case f => exact fun x _ => x); (case h => (dsimp only [fnL, progL, OpenLaw.row, OpenLaw.prog, Challenge.rw_km0087_05, Challenge.pw_km0087_05, List.getElem?_cons_succ, List.getElem?_cons_zero]; exact rfl))) : Obj)) <|
  List.cons (nat_lit 74, ({ cls := PySem.Value.type "tuple", data := PySem.Data.seq #[] } : Obj)) <|
  List.cons (nat_lit 76, ({ cls := PySem.Value.type "tuple", data := PySem.Data.seq #[PySem.Value.str (PySem.Str.ofString "year") 374, PySem.Value.str (PySem.Str.ofString "week") 375, PySem.Value.str (PySem.Str.ofString "day") 376, PySem.Value.str (PySem.Str.ofString "out_of_range") 377, PySem.Value.str (PySem.Str.ofString "first_weekday") 378, PySem.Value.str (PySem.Str.ofString "day_offset") 379, PySem.Value.str (PySem.Str.ofString "day_1") 380, PySem.Value.str (PySem.Str.ofString "ord_day") 381] } : Obj)) <|
  List.cons (nat_lit 77, ({ cls := PySem.Value.type "tuple", data := PySem.Data.seq #[] } : Obj)) <|
  List.cons (nat_lit 79, ({ cls := PySem.Value.type "code", data := PySem.Data.fields #[PySem.Value.str (PySem.Str.ofString "_isoweek_to_gregorian") 371, PySem.Value.str (PySem.Str.ofString "_isoweek_to_gregorian") 372, PySem.Value.str (PySem.Str.ofString "/claim/cut.py") 373, PySem.Value.int 78 0, PySem.Value.int 3 0, PySem.Value.int 0 0, PySem.Value.int 0 0, PySem.Value.int 3 0, PySem.Value.ref 74, PySem.Value.bool true, PySem.Value.int 181 0, PySem.Value.ref 75, PySem.Value.none, PySem.Value.ref 76, PySem.Value.ref 77, PySem.Value.ref 78, PySem.Value.int 382 0, PySem.Value.int 78 0, PySem.Value.str (PySem.Str.ofString "/claim/cut.py") 383] } : Obj)) <|
  List.cons (nat_lit 80, ((by refine' (?f : (x : Obj) → x = ({ cls := PySem.Value.type "function", data := PySem.Data.func { name := PySem.Str.ofString "_isoweek_to_gregorian", qualname := PySem.Str.ofString "_isoweek_to_gregorian", params := (fnL 18).1, body := PySem.FuncBody.stmts (fnL 18).2.1, scope := (fnL 18).2.2, globals := 3, closure := [], defaults := PySem.Value.none, kwdefaults := PySem.Value.none, pyModule := PySem.Value.str (PySem.Str.ofString "cpy313._pydatetime") 187, code := PySem.Value.ref 79 } } : Obj) → Obj) _ ?h; (case f => exact fun x _ => x); (case h => (dsimp only [fnL, progL, OpenLaw.row, OpenLaw.prog, Challenge.rw_km0087_05, Challenge.pw_km0087_05, List.getElem?_cons_succ, List.getElem?_cons_zero]; exact rfl))) : Obj)) <|
  List.cons (nat_lit 81, ({ cls := PySem.Value.type "tuple", data := PySem.Data.seq #[] } : Obj)) <|
  List.cons (nat_lit 83, ({ cls := PySem.Value.type "tuple", data := PySem.Data.seq #[PySem.Value.str (PySem.Str.ofString "year") 388, PySem.Value.str (PySem.Str.ofString "THURSDAY") 389, PySem.Value.str (PySem.Str.ofString "firstday") 390, PySem.Value.str (PySem.Str.ofString "firstweekday") 391, PySem.Value.str (PySem.Str.ofString "week1monday") 392] } : Obj)) <|
  List.cons (nat_lit 84, ({ cls := PySem.Value.type "tuple", data := PySem.Data.seq #[] } : Obj)) <|
  List.cons (nat_lit 86, ({ cls := PySem.Value.type "code", data := PySem.Data.fields #[PySem.Value.str (PySem.Str.ofString "_isoweek1monday") 385, PySem.Value.str (PySem.Str.ofString "_isoweek1monday") 386, PySem.Value.str (PySem.Str.ofString "/claim/cut.py") 387, PySem.Value.int 95 0, PySem.Value.int 1 0, PySem.Value.int 0 0, PySem.Value.int 0 0, PySem.Value.int 3 0, PySem.Value.ref 81, PySem.Value.bool true, PySem.Value.int 181 0, PySem.Value.ref 82, PySem.Value.none, PySem.Value.ref 83, PySem.Value.ref 84, PySem.Value.ref 85, PySem.Value.int 393 0, PySem.Value.int 95 0, PySem.Value.str (PySem.Str.ofString "/claim/cut.py") 394] } : Obj)) <|
  List.cons (nat_lit 87, ((by refine' (?f : (x : Obj) → x = ({ cls := PySem.Value.type "function", data := PySem.Data.func { name := PySem.Str.ofString "_isoweek1monday", qualname := PySem.Str.ofString "_isoweek1monday", params := (fnL 19).1, body := PySem.FuncBody.stmts (fnL 19).2.1, scope := (fnL 19).2.2, globals := 3, closure := [], defaults := PySem.Value.none, kwdefaults := PySem.Value.none, pyModule := PySem.Value.str (PySem.Str.ofString "cpy313._pydatetime") 187, code := PySem.Value.ref 86 } } : Obj) → Obj) _ ?h; (case f => exact fun x _ => x); (case h => (dsimp only [fnL, progL, OpenLaw.row, OpenLaw.prog, Challenge.rw_km0087_05, Challenge.pw_km0087_05, List.getElem?_cons_succ, List.getElem?_cons_zero]; exact rfl))) : Obj)) <|
  List.cons (nat_lit 88, ({ cls := PySem.Value.type "tuple", data := PySem.Data.seq #[] } : Obj)) <|
  List.cons (nat_lit 90, ({ cls := PySem.Value.type "tuple", data := PySem.Data.seq #[PySem.Value.str (PySem.Str.ofString "text") 401, PySem.Value.str (PySem.Str.ofString "fault") 402] } : Obj)) <|
  List.cons (nat_lit 91, ({ cls := PySem.Value.type "tuple", data := PySem.Data.seq #[] } : Obj)) <|
  List.cons (nat_lit 93, ({ cls := PySem.Value.type "code", data := PySem.Data.fields #[PySem.Value.str (PySem.Str.ofString "_law_read") 398, PySem.Value.str (PySem.Str.ofString "_law_read") 399, PySem.Value.str (PySem.Str.ofString "/claim/cut.py") 400, PySem.Value.int 104 0, PySem.Value.int 1 0, PySem.Value.int 0 0, PySem.Value.int 0 0, PySem.Value.int 3 0, PySem.Value.ref 88, PySem.Value.bool true, PySem.Value.int 181 0, PySem.Value.ref 89, PySem.Value.none, PySem.Value.ref 90, PySem.Value.ref 91, PySem.Value.ref 92, PySem.Value.int 403 0, PySem.Value.int 104 0, PySem.Value.str (PySem.Str.ofString "/claim/cut.py") 404] } : Obj)) <|
  List.cons (nat_lit 94, ((by refine' (?f : (x : Obj) → x = ({ cls := PySem.Value.type "function", data := PySem.Data.func { name := PySem.Str.ofString "_law_read", qualname := PySem.Str.ofString "_law_read", params := (fnL 21).1, body := PySem.FuncBody.stmts (fnL 21).2.1, scope := (fnL 21).2.2, globals := 3, closure := [], defaults := PySem.Value.none, kwdefaults := PySem.Value.none, pyModule := PySem.Value.str (PySem.Str.ofString "law_km0087_05") 396, code := PySem.Value.ref 93 } } : Obj) → Obj) _ ?h; (case f => exact fun x _ => x); (case h => (dsimp only [fnL, progL, OpenLaw.row, OpenLaw.prog, Challenge.rw_km0087_05, Challenge.pw_km0087_05, List.getElem?_cons_succ, List.getElem?_cons_zero]; exact rfl))) : Obj)) <|
  List.cons (nat_lit 95, ({ cls := PySem.Value.type "tuple", data := PySem.Data.seq #[] } : Obj)) <|
  List.cons (nat_lit 97, ({ cls := PySem.Value.type "tuple", data := PySem.Data.seq #[PySem.Value.str (PySem.Str.ofString "year") 409, PySem.Value.str (PySem.Str.ofString "month") 410] } : Obj)) <|
  List.cons (nat_lit 98, ({ cls := PySem.Value.type "tuple", data := PySem.Data.seq #[] } : Obj)) <|
  List.cons (nat_lit 100, ({ cls := PySem.Value.type "code", data := PySem.Data.fields #[PySem.Value.str (PySem.Str.ofString "_law_length") 406, PySem.Value.str (PySem.Str.ofString "_law_length") 407, PySem.Value.str (PySem.Str.ofString "/claim/cut.py") 408, PySem.Value.int 109 0, PySem.Value.int 2 0, PySem.Value.int 0 0, PySem.Value.int 0 0, PySem.Value.int 3 0, PySem.Value.ref 95, PySem.Value.bool true, PySem.Value.int 181 0, PySem.Value.ref 96, PySem.Value.none, PySem.Value.ref 97, PySem.Value.ref 98, PySem.Value.ref 99, PySem.Value.int 411 0, PySem.Value.int 109 0, PySem.Value.str (PySem.Str.ofString "/claim/cut.py") 412] } : Obj)) <|
  List.cons (nat_lit 101, ((by refine' (?f : (x : Obj) → x = ({ cls := PySem.Value.type "function", data := PySem.Data.func { name := PySem.Str.ofString "_law_length", qualname := PySem.Str.ofString "_law_length", params := (fnL 22).1, body := PySem.FuncBody.stmts (fnL 22).2.1, scope := (fnL 22).2.2, globals := 3, closure := [], defaults := PySem.Value.none, kwdefaults := PySem.Value.none, pyModule := PySem.Value.str (PySem.Str.ofString "law_km0087_05") 396, code := PySem.Value.ref 100 } } : Obj) → Obj) _ ?h; (case f => exact fun x _ => x); (case h => (dsimp only [fnL, progL, OpenLaw.row, OpenLaw.prog, Challenge.rw_km0087_05, Challenge.pw_km0087_05, List.getElem?_cons_succ, List.getElem?_cons_zero]; exact rfl))) : Obj)) <|
  List.cons (nat_lit 102, ({ cls := PySem.Value.type "tuple", data := PySem.Data.seq #[] } : Obj)) <|
  List.cons (nat_lit 104, ({ cls := PySem.Value.type "tuple", data := PySem.Data.seq #[PySem.Value.str (PySem.Str.ofString "number") 417, PySem.Value.str (PySem.Str.ofString "code") 418, PySem.Value.str (PySem.Str.ofString "low") 419, PySem.Value.str (PySem.Str.ofString "year") 420, PySem.Value.str (PySem.Str.ofString "month") 421] } : Obj)) <|
  List.cons (nat_lit 105, ({ cls := PySem.Value.type "tuple", data := PySem.Data.seq #[] } : Obj)) <|
  List.cons (nat_lit 107, ({ cls := PySem.Value.type "code", data := PySem.Data.fields #[PySem.Value.str (PySem.Str.ofString "_law_day") 414, PySem.Value.str (PySem.Str.ofString "_law_day") 415, PySem.Value.str (PySem.Str.ofString "/claim/cut.py") 416, PySem.Value.int 113 0, PySem.Value.int 1 0, PySem.Value.int 0 0, PySem.Value.int 0 0, PySem.Value.int 3 0, PySem.Value.ref 102, PySem.Value.bool true, PySem.Value.int 181 0, PySem.Value.ref 103, PySem.Value.none, PySem.Value.ref 104, PySem.Value.ref 105, PySem.Value.ref 106, PySem.Value.int 422 0, PySem.Value.int 113 0, PySem.Value.str (PySem.Str.ofString "/claim/cut.py") 423] } : Obj)) <|
  List.cons (nat_lit 108, ((by refine' (?f : (x : Obj) → x = ({ cls := PySem.Value.type "function", data := PySem.Data.func { name := PySem.Str.ofString "_law_day", qualname := PySem.Str.ofString "_law_day", params := (fnL 23).1, body := PySem.FuncBody.stmts (fnL 23).2.1, scope := (fnL 23).2.2, globals := 3, closure := [], defaults := PySem.Value.none, kwdefaults := PySem.Value.none, pyModule := PySem.Value.str (PySem.Str.ofString "law_km0087_05") 396, code := PySem.Value.ref 107 } } : Obj) → Obj) _ ?h; (case f => exact fun x _ => x); (case h => (dsimp only [fnL, progL, OpenLaw.row, OpenLaw.prog, Challenge.rw_km0087_05, Challenge.pw_km0087_05, List.getElem?_cons_succ, List.getElem?_cons_zero]; exact rfl))) : Obj)) <|
  List.cons (nat_lit 109, ({ cls := PySem.Value.type "tuple", data := PySem.Data.seq #[] } : Obj)) <|
  List.cons (nat_lit 112, ({ cls := PySem.Value.type "code", data := PySem.Data.fields #[PySem.Value.str (PySem.Str.ofString "_law_name") 425, PySem.Value.str (PySem.Str.ofString "_law_name") 426, PySem.Value.str (PySem.Str.ofString "/claim/cut.py") 427, PySem.Value.int 120 0, PySem.Value.int 3 0, PySem.Value.int 0 0, PySem.Value.int 0 0, PySem.Value.int 3 0, PySem.Value.ref 109, PySem.Value.bool true, PySem.Value.int 181 0, PySem.Value.ref 110, PySem.Value.none, PySem.Value.none, PySem.Value.none, PySem.Value.ref 111, PySem.Value.int 428 0, PySem.Value.int 120 0, PySem.Value.str (PySem.Str.ofString "/claim/cut.py") 429] } : Obj)) <|
  List.cons (nat_lit 113, ((by refine' (?f : (x : Obj) → x = ({ cls := PySem.Value.type "function", data := PySem.Data.func { name := PySem.Str.ofString "_law_name", qualname := PySem.Str.ofString "_law_name", params := (fnL 24).1, body := PySem.FuncBody.stmts (fnL 24).2.1, scope := (fnL 24).2.2, globals := 3, closure := [], defaults := PySem.Value.none, kwdefaults := PySem.Value.none, pyModule := PySem.Value.str (PySem.Str.ofString "law_km0087_05") 396, code := PySem.Value.ref 112 } } : Obj) → Obj) _ ?h; (case f => exact fun x _ => x); (case h => (dsimp only [fnL, progL, OpenLaw.row, OpenLaw.prog, Challenge.rw_km0087_05, Challenge.pw_km0087_05, List.getElem?_cons_succ, List.getElem?_cons_zero]; exact rfl))) : Obj)) <|
  List.cons (nat_lit 114, ({ cls := PySem.Value.type "tuple", data := PySem.Data.seq #[] } : Obj)) <|
  List.cons (nat_lit 117, ({ cls := PySem.Value.type "code", data := PySem.Data.fields #[PySem.Value.str (PySem.Str.ofString "_law_looked_up") 431, PySem.Value.str (PySem.Str.ofString "_law_looked_up") 432, PySem.Value.str (PySem.Str.ofString "/claim/cut.py") 433, PySem.Value.int 132 0, PySem.Value.int 1 0, PySem.Value.int 0 0, PySem.Value.int 0 0, PySem.Value.int 3 0, PySem.Value.ref 114, PySem.Value.bool true, PySem.Value.int 181 0, PySem.Value.ref 115, PySem.Value.none, PySem.Value.none, PySem.Value.none, PySem.Value.ref 116, PySem.Value.int 434 0, PySem.Value.int 132 0, PySem.Value.str (PySem.Str.ofString "/claim/cut.py") 435] } : Obj)) <|
  List.cons (nat_lit 118, ((by refine' (?f : (x : Obj) → x = ({ cls := PySem.Value.type "function", data := PySem.Data.func { name := PySem.Str.ofString "_law_looked_up", qualname := PySem.Str.ofString "_law_looked_up", params := (fnL 25).1, body := PySem.FuncBody.stmts (fnL 25).2.1, scope := (fnL 25).2.2, globals := 3, closure := [], defaults := PySem.Value.none, kwdefaults := PySem.Value.none, pyModule := PySem.Value.str (PySem.Str.ofString "law_km0087_05") 396, code := PySem.Value.ref 117 } } : Obj) → Obj) _ ?h; (case f => exact fun x _ => x); (case h => (dsimp only [fnL, progL, OpenLaw.row, OpenLaw.prog, Challenge.rw_km0087_05, Challenge.pw_km0087_05, List.getElem?_cons_succ, List.getElem?_cons_zero]; exact rfl))) : Obj)) <|
  List.cons (nat_lit 119, ({ cls := PySem.Value.type "tuple", data := PySem.Data.seq #[] } : Obj)) <|
  List.cons (nat_lit 122, ({ cls := PySem.Value.type "code", data := PySem.Data.fields #[PySem.Value.str (PySem.Str.ofString "law") 437, PySem.Value.str (PySem.Str.ofString "law") 438, PySem.Value.str (PySem.Str.ofString "/claim/cut.py") 439, PySem.Value.int 147 0, PySem.Value.int 1 0, PySem.Value.int 0 0, PySem.Value.int 0 0, PySem.Value.int 3 0, PySem.Value.ref 119, PySem.Value.bool true, PySem.Value.int 181 0, PySem.Value.ref 120, PySem.Value.none, PySem.Value.none, PySem.Value.none, PySem.Value.ref 121, PySem.Value.int 440 0, PySem.Value.int 147 0, PySem.Value.str (PySem.Str.ofString "/claim/cut.py") 441] } : Obj)) <|
  List.cons (nat_lit 123, ((by refine' (?f : (x : Obj) → x = ({ cls := PySem.Value.type "function", data := PySem.Data.func { name := PySem.Str.ofString "law", qualname := PySem.Str.ofString "law", params := (fnL 26).1, body := PySem.FuncBody.stmts (fnL 26).2.1, scope := (fnL 26).2.2, globals := 3, closure := [], defaults := PySem.Value.none, kwdefaults := PySem.Value.none, pyModule := PySem.Value.str (PySem.Str.ofString "law_km0087_05") 396, code := PySem.Value.ref 122 } } : Obj) → Obj) _ ?h; (case f => exact fun x _ => x); (case h => (dsimp only [fnL, progL, OpenLaw.row, OpenLaw.prog, Challenge.rw_km0087_05, Challenge.pw_km0087_05, List.getElem?_cons_succ, List.getElem?_cons_zero]; exact rfl))) : Obj)) <| List.nil
abbrev looseL : List Str := [Str.ofString "_DAYS_IN_MONTH", Str.ofString "_DAYS_BEFORE_MONTH", Str.ofString "_DI400Y", Str.ofString "_DI100Y", Str.ofString "_DI4Y"]
abbrev lvL : List (Str × WData) := [(Str.ofString "_DI400Y", WData.int 146097), (Str.ofString "_DI100Y", WData.int 36524), (Str.ofString "_DI4Y", WData.int 1461)]
abbrev asL : List Addr := [2, 3, 6, 15, 16, 22, 24, 25, 27, 28, 29, 31, 32, 34, 35, 36, 38, 39, 41, 42, 43, 45, 46, 48, 49, 50, 52, 53, 55, 56, 60, 62, 63, 65, 66, 67, 69, 70, 72, 73, 74, 76, 77, 79, 80, 81, 83, 84, 86, 87, 88, 90, 91, 93, 94, 95, 97, 98, 100, 101, 102, 104, 105, 107, 108, 109, 112, 113, 114, 117, 118, 119, 122, 123]
noncomputable abbrev hookL : Hook := kHook heapK asL (fun _ => by kernel_rfl)
set_option maxHeartbeats 0 in
theorem leftL : LeftO Challenge.rw_km0087_05.row.prog viewK looseL (fun s => xlAt viewK lvL s && recOk Challenge.rw_km0087_05.row.records s) (Hook.obs hookL) (Hook.val hookL) 3220 :=
  LeftO.of_split "special-get-raises" (fun w => by kernel_rfl)
end Mine
end
section
namespace Mine

abbrev Cont := (base h₀ : Heap) → (L : Addr) → (m : Str → Option Value) → (news : List (Addr × Obj)) → (fr : List Env) → (s : Shared) → (Q E : Value → Shared → Prop) → Prop

/-- a contract of a def: what a call of it does, from any def's frame -/
abbrev Ctr (prog : Program) (w : World) (K : Frag) (p : Program) (loose : List Str) (mean : ExcName → Option Value) (mg mb : Str → Option Value) (f : Addr) (d u : Nat) (vs : List Value) (C : Cont) : Prop :=
  ∀ (dp un : Nat) (gd : Option (List Code)) (cn : Str) (cs : Scope) (a : Addr) (ccd : Value) (cl : List (Str × Addr)) (outer : List Env) (A₀ : Around) (base h₀ : Heap) (L : Addr) (m : Str → Option Value) (news : List (Addr × Obj)) (s : Shared) (Q E : Value → Shared → Prop),
    Below A₀ base outer h₀ → Fr h₀ L s.heap m → K.In h₀ → News h₀ L s.heap news → Top p loose mean mg mb h₀ → cs.kind = .function →
    dp + d < recursionLimit → un + u < cLine → C base h₀ L m news (envX cn cs L a ccd cl :: outer) s Q E →
    wpAny (model prog w) (ktrTop dp un gd cn cs L a ccd cl outer) (call (.ref f) vs) Q E s

abbrev rVal (v : Tok → Value) : Cont := fun _ h₀ L m news _ s Q _ => ∀ (t : Tok) (h' : Heap) (tk' : Nat), Fr h₀ L h' m → News h₀ L h' news → Q (v t) { s with heap := h', toks := tk' }
abbrev cInt (x : Int) : Cont := rVal fun t => .int x t
abbrev cBool (x : Bool) : Cont := rVal fun _ => .bool x
abbrev cStr (x : Str) : Cont := rVal fun t => .str x t
/-- one new object comes back -/
abbrev cNew (P : Obj → Prop) : Cont := fun _ h₀ L m news _ s Q _ => ∀ (l : Addr) (o : Obj) (h' : Heap) (tk' : Nat), P o → Fr h₀ L h' m → News h₀ L h' ((l, o) :: news) → (∀ p ∈ news, p.1 < l) → Q (.ref l) { s with heap := h', toks := tk' }
/-- a ValueError flies -/
abbrev cBad (vs : Tok → List Value) : Cont := fun base h₀ L m news fr s _ E => ∀ (e t : Addr) (k : Tok) (h' G : Heap) (tk' : Nat), RaisedS base G fr e (.type "ValueError") t (vs k) news h' → Fr h₀ L G m → G.UpToSlots h' → E (.ref e) { s with heap := h', toks := tk' }
/-- one or the other -/
abbrev cIf (c : Prop) (A B : Cont) : Cont := fun base h₀ L m news fr s Q E => (c → A base h₀ L m news fr s Q E) ∧ (¬ c → B base h₀ L m news fr s Q E)

theorem RaisedS.drop {base G : Heap} {l : List Env} {e t : Addr} {cls : Value} {vs : List Value} {news news' : List (Addr × Obj)} {h : Heap} (R : RaisedS base G l e cls t vs news' h) (hs : ∀ p ∈ news, p ∈ news') : RaisedS base G l e cls t vs news h := by
  obtain ⟨⟨B, hB, hBG, hl, hfl, hnew⟩, htup⟩ := R
  exact ⟨⟨B, hB, hBG, fun q hq => hl q (hs q hq), hfl, hnew⟩, htup⟩

section
variable {prog : Program} {w : World} {K : Frag} {p : Program} {loose : List Str} {mean : ExcName → Option Value} {mg mb : Str → Option Value} {f : Addr} {d u : Nat} {vs : List Value}
   {dp un : Nat} {gd : Option (List Code)} {cn : Str} {cs : Scope} {a : Addr} {ccd : Value} {cl : List (Str × Addr)} {outer : List Env} {A₀ : Around} {base h₀ : Heap} {L : Addr} {m : Str → Option Value} {news : List (Addr × Obj)} {s : Shared} {Q E : Value → Shared → Prop}
theorem use {C : Cont} (h : Ctr prog w K p loose mean mg mb f d u vs C)
    (B : Below A₀ base outer h₀) (F : Fr h₀ L s.heap m) (X : K.In h₀) (N : News h₀ L s.heap news) (T : Top p loose mean mg mb h₀) (hk : cs.kind = .function)
    (hd : dp + d < recursionLimit) (hu : un + u < cLine) (h1 : C base h₀ L m news (envX cn cs L a ccd cl :: outer) s Q E) :
    wpAny (model prog w) (ktrTop dp un gd cn cs L a ccd cl outer) (call (.ref f) vs) Q E s :=
  h dp un gd cn cs a ccd cl outer A₀ base h₀ L m news s Q E B F X N T hk hd hu h1
end
section
variable {base h₀ h' G : Heap} {L : Addr} {m : Str → Option Value} {news news' : List (Addr × Obj)} {fr : List Env} {s : Shared} {Q E : Value → Shared → Prop} {t : Tok} {tk' : Nat}
theorem endI {x y : Int} (hret : cInt x base h₀ L m news fr s Q E) (e : y = x) (F : Fr h₀ L h' m) (N : News h₀ L h' news') (hs : ∀ p ∈ news, p ∈ news') : Q (.int y t) { s with heap := h', toks := tk' } := by
  subst e; exact hret t h' tk' F (cb_drop N hs)
theorem endB {x y : Bool} (hret : cBool x base h₀ L m news fr s Q E) (e : y = x) (F : Fr h₀ L h' m) (N : News h₀ L h' news') (hs : ∀ p ∈ news, p ∈ news') : Q (.bool y) { s with heap := h', toks := tk' } := by
  subst e; exact hret 0 h' tk' F (cb_drop N hs)
theorem endS {x y : Str} (hret : cStr x base h₀ L m news fr s Q E) (e : y = x) (F : Fr h₀ L h' m) (N : News h₀ L h' news') (hs : ∀ p ∈ news, p ∈ news') : Q (.str y t) { s with heap := h', toks := tk' } := by
  subst e; exact hret t h' tk' F (cb_drop N hs)
theorem endN {P : Obj → Prop} {l : Addr} {o : Obj} (hret : cNew P base h₀ L m news fr s Q E) (e : P o) (F : Fr h₀ L h' m) (N : News h₀ L h' news') (hs : ∀ p ∈ (l, o) :: news, p ∈ news') (hl : ∀ p ∈ news, p.1 < l) : Q (.ref l) { s with heap := h', toks := tk' } :=
  hret l o h' tk' e F (cb_drop N hs) hl
theorem endX {vs : Tok → List Value} {vs' : List Value} {e t : Addr} {k : Tok} (hret : cBad vs base h₀ L m news fr s Q E) (ev : vs' = vs k) (R : RaisedS base G fr e (.type "ValueError") t vs' news' h') (F : Fr h₀ L G m) (U : G.UpToSlots h') (hs : ∀ p ∈ news, p ∈ news') : E (.ref e) { s with heap := h', toks := tk' } := by
  subst ev; exact hret e t k h' G tk' (RaisedS.drop R hs) F U
end
section
open PySem.Calls
variable {prog : Program} {w : World} {A : Around} {E : Value → Shared → Prop} {s : Shared} {h₀ : Heap} {L a : Addr} {m : Str → Option Value} {K : Frag} {n : Nat} {news : List (Addr × Obj)}
theorem list_item {value slice : PySem.Expr} {l : List Value} {ns : List Int} {k : Int} {u : Tok} {Q : Value → Shared → Prop} (hL : s.heap.IsList a l.toArray) (hi : IntsAre l ns)
    (h0 : 0 ≤ k) (h1 : k.toNat < ns.length) (h2 : ns.length ≤ 2 ^ 62) (h : ∀ t, Q (.int (ns.getD k.toNat 0) t) s)
    (hs : subscripted slice false (.ref a) (.int k u) = operate [.ref a, .int k u] (getItem (.ref a) (.int k u)) := by with_unfolding_all rfl) :
    wpAny (model prog w) A (subscriptTail value slice (.ref a) (.int k u)) Q E s := by
  obtain ⟨t, ht⟩ := hi.get k.toNat ns[k.toNat] (by simp [h1])
  have e : ns.getD k.toNat 0 = ns[k.toNat] := by simp [List.getD_eq_getElem?_getD, h1]
  rw [e] at h
  exact tail_any hL.typeIs slot_list_getitem.lookup (wpAny_getItem_list hL h0 (by omega) (by simpa using ht) (h t)) hs
theorem top_item {value slice : PySem.Expr} {l : List Value} {ns : List Int} {dd : Option Addr} {sl : Array (Option Value)} {k : Int} {u : Tok} {Q : Value → Shared → Prop} (F : Fr h₀ L s.heap m) (X₀ : K.In h₀) (hl : K.lookup a = some ⟨.type "list", dd, .seq l.toArray n, sl⟩) (hi : IntsAre l ns)
    (h0 : 0 ≤ k) (h1 : k.toNat < ns.length) (h2 : ns.length ≤ 2 ^ 62) (h : ∀ t, Q (.int (ns.getD k.toNat 0) t) s)
    (hs : subscripted slice false (.ref a) (.int k u) = operate [.ref a, .int k u] (getItem (.ref a) (.int k u)) := by with_unfolding_all rfl) :
    wpAny (model prog w) A (subscriptTail value slice (.ref a) (.int k u)) Q E s := list_item (lstK (X₀.keeps F.keep) hl) hi h0 h1 h2 h hs
theorem ints13 {a b c d e f g h i j k l o : Int} {t1 t2 t3 t4 t5 t6 t7 t8 t9 t10 t11 t12 t13 : Tok} : IntsAre [.int a t1, .int b t2, .int c t3, .int d t4, .int e t5, .int f t6, .int g t7, .int h t8, .int i t9, .int j t10, .int k t11, .int l t12, .int o t13] [a, b, c, d, e, f, g, h, i, j, k, l, o] := by
  repeat (first | exact IntsAre.nil | refine IntsAre.cons _ _ ?_)
end
end Mine
namespace Mine
section
open PySem.Calls
variable {prog : Program} {w : World} {A : Around} {E : Value → Shared → Prop} {s : Shared} {h₀ : Heap} {L : Addr} {m : Str → Option Value} {news : List (Addr × Obj)}
theorem divmod_G {a b : Int} {t u : Tok} {Q : Value → Shared → Prop} (F : Fr h₀ L s.heap m) (N : News h₀ L s.heap news) (hb : 0 < b)
    (h : ∀ (h' : Heap) (D : Addr) (q r : Int) (t1 t2 : Tok) (tk : Nat), Fr h₀ L h' m → News h₀ L h' ((D, { cls := .type "tuple", data := .seq #[.int q t1, .int r t2] }) :: news) → (∀ p ∈ news, p.1 < D) → a = b * q + r → 0 ≤ r → r < b → Q (.ref D) { s with toks := tk, heap := h' })
    (hp : Builtin.divisionGoesByPylong a b = false ∨ PySem.PylongRoom (model prog w) A s := by first | exact Or.inl (PyProof.noPylong_of_log2 (by decide +kernel)) | exact Or.inl (PyProof.noPylong_small (by omega)) | exact Or.inr (PySem.PylongRoom.of (by first | assumption | (refine PySem.Heap.NoLimit.keeps ?_ (PyProof.Rows.Fr.keep (by assumption)); first | assumption | exact PyProof.Rows.Glob.nolimit (by assumption) | exact PyProof.Rows.Top.nolimit (by assumption)) | exact PyProof.Rows.Glob.nolimit (by assumption) | exact PyProof.Rows.Top.nolimit (by assumption)) (of_decide_eq_true (by with_unfolding_all rfl))) | assumption) :
    wpAny (model prog w) A (call (.builtin "divmod") [.int a t, .int b u]) Q E s :=
  divmod_N F N (by omega) (fun h' F' N' => h h' _ (a.fdiv b) (a.fmod b) _ _ _ F' N' (fun p hp => Heap.lt_size (N p hp).1) (by have := Int.mul_fdiv_add_fmod a b; omega) (Int.fmod_nonneg_of_pos _ hb) (Int.fmod_lt_of_pos _ hb)) hp
/-- the ways of a test meet: a bool that is true where P holds -/
def JB (P : Prop) (h₀ : Heap) (L : Addr) (m : Str → Option Value) (news : List (Addr × Obj)) (s : Shared) (v : Value) (s₂ : Shared) : Prop :=
  ∃ (h : Heap) (tk : Nat) (b : Bool), v = .bool b ∧ (b = true ↔ P) ∧ s₂ = { s with heap := h, toks := tk } ∧ Fr h₀ L h m ∧ News h₀ L h news
/-- a mark: a join is under way -/
def JMark : Prop := True
theorem JB.intro {P : Prop} {h : Heap} {tk : Nat} {b : Bool} {news' : List (Addr × Obj)} (e : b = true ↔ P) (F : Fr h₀ L h m) (N : News h₀ L h news') (hs : ∀ p ∈ news, p ∈ news') : JB P h₀ L m news s (.bool b) { s with heap := h, toks := tk } :=
  ⟨h, tk, b, rfl, e, rfl, F, cb_drop N hs⟩
theorem jb1 {c : Prop} {lp : Bool} (h : c) : lp = true ↔ c ∧ lp = true := ⟨fun x => ⟨h, x⟩, fun x => x.2⟩
theorem jb2 {c : Prop} [Decidable c] {lp : Bool} (h : ¬ c) : decide c = true ↔ c ∧ lp = true := ⟨fun x => absurd (of_decide_eq_true x) h, fun x => absurd x.1 h⟩
theorem jb3 {k : Int} {lp : Bool} (h : k ≠ 2) : (k == 2) = true ↔ k = 2 ∧ lp = true := ⟨fun x => absurd (eq_of_beq x) h, fun x => absurd x.1 h⟩
theorem jb4 {x y z : Int} (h1 : x = 3) (h2 : y ≠ 24) : (y != 24) = true ↔ x = 3 ∧ (y ≠ 24 ∨ z = 3) := by simp [h1, h2]
theorem jb5 {x y z : Int} (h1 : x = 3) (h2 : y = 24) : (z == 3) = true ↔ x = 3 ∧ (y ≠ 24 ∨ z = 3) := by simp [h1, h2]
theorem jb6 {x y z : Int} (h1 : x ≠ 3) : (x == 3) = true ↔ x = 3 ∧ (y ≠ 24 ∨ z = 3) := by simp [h1]
theorem joinP {M : Model} {c : Sem Value} {Q : Value → Shared → Prop} (P : Prop) [Decidable P] (_F : Fr h₀ L s.heap m) (_N : News h₀ L s.heap news)
    (hc : JMark → wpAny M A c (fun v s₂ => JB P h₀ L m news s v s₂) E s)
    (hk : ∀ (h : Heap) (tk : Nat), Fr h₀ L h m → News h₀ L h news → Q (.bool (decide P)) { s with heap := h, toks := tk }) : wpAny M A c Q E s := by
  refine wpAny_mono (hc True.intro) (fun v s₂ hq => ?_) fun _ _ h => h
  obtain ⟨h, tk, b, rfl, hb, rfl, F, N⟩ := hq
  have e : b = decide P := by rw [Bool.eq_iff_iff, hb, decide_eq_true_eq]
  rw [e]
  exact hk h tk F N
theorem joinA {M : Model} {c : Sem Value} {Q : Value → Shared → Prop} {x y z : Int} {t1 t2 t3 : Tok} (_h1 : m (Str.ofString "n1") = some (.int x t1)) (_h2 : m (Str.ofString "n4") = some (.int y t2)) (_h3 : m (Str.ofString "n100") = some (.int z t3)) (F : Fr h₀ L s.heap m) (N : News h₀ L s.heap news)
    (hc : JMark → wpAny M A c (fun v s₂ => JB (x = 3 ∧ (y ≠ 24 ∨ z = 3)) h₀ L m news s v s₂) E s)
    (hk : ∀ (h : Heap) (tk : Nat), Fr h₀ L h m → News h₀ L h news → Q (.bool (decide (x = 3 ∧ (y ≠ 24 ∨ z = 3)))) { s with heap := h, toks := tk }) : wpAny M A c Q E s := joinP _ F N hc hk
theorem joinB {M : Model} {c : Sem Value} {Q : Value → Shared → Prop} {k : Int} {lp : Bool} {t1 : Tok} (_h1 : m (Str.ofString "month") = some (.int k t1)) (_h2 : m (Str.ofString "leapyear") = some (.bool lp)) (F : Fr h₀ L s.heap m) (N : News h₀ L s.heap news)
    (hc : JMark → wpAny M A c (fun v s₂ => JB (2 < k ∧ lp = true) h₀ L m news s v s₂) E s)
    (hk : ∀ (h : Heap) (tk : Nat), Fr h₀ L h m → News h₀ L h news → Q (.bool (decide (2 < k ∧ lp = true))) { s with heap := h, toks := tk }) : wpAny M A c Q E s := joinP _ F N hc hk
theorem joinC {M : Model} {c : Sem Value} {Q : Value → Shared → Prop} {k : Int} {lp : Bool} {t1 : Tok} (_h1 : m (Str.ofString "month") = some (.int k t1)) (_h2 : m (Str.ofString "leapyear") = some (.bool lp)) (F : Fr h₀ L s.heap m) (N : News h₀ L s.heap news)
    (hc : JMark → wpAny M A c (fun v s₂ => JB (k = 2 ∧ lp = true) h₀ L m news s v s₂) E s)
    (hk : ∀ (h : Heap) (tk : Nat), Fr h₀ L h m → News h₀ L h news → Q (.bool (decide (k = 2 ∧ lp = true))) { s with heap := h, toks := tk }) : wpAny M A c Q E s := joinP _ F N hc hk
theorem lt0 {d : Addr} {l : List (Addr × Obj)} (h : AllLt d l) : ∀ p ∈ l, p.1 < d := by
  induction l with
  | nil => intro p hp; cases hp
  | cons q r ih =>
    intro p hp
    have h' : @LT.lt Nat _ q.1 d ∧ AllLt d r := h
    rcases List.mem_cons.mp hp with e | hp
    · rw [e]; exact h'.1
    · exact ih h'.2 p hp
theorem lt1 {d : Addr} {l : List (Addr × Obj)} {A : Prop} (h : A ∧ AllLt d l) : ∀ p ∈ l, p.1 < d := lt0 h.2
theorem lt2 {d : Addr} {l : List (Addr × Obj)} {A B : Prop} (h : A ∧ B ∧ AllLt d l) : ∀ p ∈ l, p.1 < d := lt0 h.2.2
theorem lt3 {d : Addr} {l : List (Addr × Obj)} {A B C : Prop} (h : A ∧ B ∧ C ∧ AllLt d l) : ∀ p ∈ l, p.1 < d := lt0 h.2.2.2
theorem lt4 {d : Addr} {l : List (Addr × Obj)} {A B C D : Prop} (h : A ∧ B ∧ C ∧ D ∧ AllLt d l) : ∀ p ∈ l, p.1 < d := lt0 h.2.2.2.2
theorem lt5 {d : Addr} {l : List (Addr × Obj)} {A B C D E : Prop} (h : A ∧ B ∧ C ∧ D ∧ E ∧ AllLt d l) : ∀ p ∈ l, p.1 < d := lt0 h.2.2.2.2.2
theorem lt6 {d : Addr} {l : List (Addr × Obj)} {A B C D E F : Prop} (h : A ∧ B ∧ C ∧ D ∧ E ∧ F ∧ AllLt d l) : ∀ p ∈ l, p.1 < d := lt0 h.2.2.2.2.2.2
theorem sh5 (x : Int) : x.fdiv (2 ^ Int.toNat 5) = x / 32 := Int.fdiv_eq_ediv_of_nonneg _ (by decide)
end
end Mine
end
section
namespace Mine
theorem fm (a : Int) : a.fmod 4 = a % 4 ∧ a.fmod 100 = a % 100 ∧ a.fmod 400 = a % 400 ∧ a.fdiv 4 = a / 4 ∧ a.fdiv 100 = a / 100 ∧ a.fdiv 400 = a / 400 ∧ a.fmod 7 = a % 7 := ⟨Int.fmod_eq_emod_of_nonneg _ (by decide), Int.fmod_eq_emod_of_nonneg _ (by decide), Int.fmod_eq_emod_of_nonneg _ (by decide), Int.fdiv_eq_ediv_of_nonneg _ (by decide), Int.fdiv_eq_ediv_of_nonneg _ (by decide), Int.fdiv_eq_ediv_of_nonneg _ (by decide), Int.fmod_eq_emod_of_nonneg _ (by decide)⟩
def leapB (y : Int) : Bool := y % 4 == 0 && (y % 100 != 0 || y % 400 == 0)
def dbyI (y : Int) : Int := (y - 1) * 365 + (y - 1) / 4 - (y - 1) / 100 + (y - 1) / 400
def dimI (y m : Int) : Int := if m = 2 ∧ leapB y = true then 29 else [-1, 31, 28, 31, 30, 31, 30, 31, 31, 30, 31, 30, 31].getD m.toNat 0
def dbmI (y m : Int) : Int := [-1, 0, 31, 59, 90, 120, 151, 181, 212, 243, 273, 304, 334].getD m.toNat 0 + if 2 < m ∧ leapB y = true then 1 else 0
/-- the ordinal of the Monday of week 1 -/
def monI (y : Int) : Int := let f := dbyI y + 1; let k := (f + 6) % 7; if 3 < k then f - k + 7 else f - k
theorem dim1 (y : Int) : dimI y 1 = 31 := by simp [dimI]
theorem dbm1 (y : Int) : dbmI y 1 = 0 := by simp [dbmI]
theorem leap_iff (y : Int) : leapB y = true ↔ y % 4 = 0 ∧ (y % 100 ≠ 0 ∨ y % 400 = 0) := by simp [leapB]
/-- a tuple that is the date of the ordinal n -/
def IsYmd (n : Int) (o : Obj) : Prop := ∃ (y m d : Int) (ty tm td : Tok), o = { cls := .type "tuple", data := .seq #[.int y ty, .int m tm, .int d td] } ∧ 1 ≤ m ∧ m ≤ 12 ∧ 1 ≤ d ∧ d ≤ dimI y m ∧ dbyI y + dbmI y m + d = n

section
variable {n q r0 a r1 b r2 c r : Int}
theorem ord_leap (h2 : r0 = 36524 * a + r1) (h3 : r1 = 1461 * b + r2) (h4 : r2 = 365 * c + r) (b0 : 0 ≤ r0) (b1 : r0 < 146097) (b2 : 0 ≤ r1) (b3 : r1 < 36524) (b4 : 0 ≤ r2) (b5 : r2 < 1461) (b6 : 0 ≤ r) (b7 : r < 365) :
    leapB (q * 400 + 1 + (a * 100 + b * 4 + c)) = decide (c = 3 ∧ (b ≠ 24 ∨ a = 3)) := by
  rw [Bool.eq_iff_iff, leap_iff, decide_eq_true_eq]
  omega
theorem bad0 (hb : (decide (c = 3 ∧ (b ≠ 24 ∨ a = 3)) == leapB (q * 400 + 1 + (a * 100 + b * 4 + c))) = false) (h2 : r0 = 36524 * a + r1) (h3 : r1 = 1461 * b + r2) (h4 : r2 = 365 * c + r) (b0 : 0 ≤ r0) (b1 : r0 < 146097) (b2 : 0 ≤ r1) (b3 : r1 < 36524) (b4 : 0 ≤ r2) (b5 : r2 < 1461) (b6 : 0 ≤ r) (b7 : r < 365) : False := by
  rw [ord_leap h2 h3 h4 b0 b1 b2 b3 b4 b5 b6 b7, beq_self_eq_true] at hb
  cases hb
theorem ord_n (h1 : n - 1 = 146097 * q + r0) (h2 : r0 = 36524 * a + r1) (h3 : r1 = 1461 * b + r2) (h4 : r2 = 365 * c + r) (b0 : 0 ≤ r0) (b1 : r0 < 146097) (b2 : 0 ≤ r1) (b3 : r1 < 36524) (b4 : 0 ≤ r2) (b5 : r2 < 1461) (b6 : 0 ≤ r) (b7 : r < 365) (hc : c ≠ 4) (ha : a ≠ 4) :
    dbyI (q * 400 + 1 + (a * 100 + b * 4 + c)) + r + 1 = n := by
  simp only [dbyI]
  have a1 : 0 ≤ c ∧ c ≤ 3 := by omega
  have a2 : 0 ≤ a ∧ a ≤ 3 := by omega
  have a3 : 0 ≤ b ∧ b ≤ 24 := by omega
  have e1 : (q * 400 + 1 + (a * 100 + b * 4 + c) - 1) / 4 = 100 * q + 25 * a + b := by omega
  have e2 : (q * 400 + 1 + (a * 100 + b * 4 + c) - 1) / 100 = 4 * q + a := by omega
  have e3 : (q * 400 + 1 + (a * 100 + b * 4 + c) - 1) / 400 = q := by omega
  rw [e1, e2, e3]; omega
theorem ord_last (h1 : n - 1 = 146097 * q + r0) (h2 : r0 = 36524 * a + r1) (h3 : r1 = 1461 * b + r2) (h4 : r2 = 365 * c + r) (b0 : 0 ≤ r0) (b1 : r0 < 146097) (b2 : 0 ≤ r1) (b3 : r1 < 36524) (b4 : 0 ≤ r2) (b5 : r2 < 1461) (b6 : 0 ≤ r) (b7 : r < 365) (hc : c = 4 ∨ a = 4) (k2 t : Tok) (t2 : Tok) :
    r = 0 ∧ IsYmd n { cls := .type "tuple", data := .seq #[.int (q * 400 + 1 + (a * 100 + b * 4 + c) - 1) t, .int 12 t2, .int 31 k2] } := by
  refine ⟨by omega, _, _, _, _, _, _, rfl, by omega, by omega, by omega, by simp [dimI], ?_⟩
  have a1 : 0 ≤ c ∧ c ≤ 4 := by omega
  have a2 : 0 ≤ a ∧ a ≤ 4 := by omega
  have a3 : 0 ≤ b ∧ b ≤ 24 := by omega
  have hl : leapB (q * 400 + 1 + (a * 100 + b * 4 + c) - 1) = true := by rw [leap_iff]; omega
  have hm : dbmI (q * 400 + 1 + (a * 100 + b * 4 + c) - 1) 12 = 335 := by simp [dbmI, hl]
  rw [hm]
  simp only [dbyI]
  rcases hc with hc | hc
  · subst hc
    have e1 : (q * 400 + 1 + (a * 100 + b * 4 + 4) - 1 - 1) / 4 = 100 * q + 25 * a + b := by omega
    have e2 : (q * 400 + 1 + (a * 100 + b * 4 + 4) - 1 - 1) / 100 = 4 * q + a := by omega
    have e3 : (q * 400 + 1 + (a * 100 + b * 4 + 4) - 1 - 1) / 400 = q := by omega
    rw [e1, e2, e3]; omega
  · subst hc
    have z : b = 0 ∧ c = 0 ∧ r = 0 := by omega
    obtain ⟨rfl, rfl, rfl⟩ := z
    have e1 : (q * 400 + 1 + (4 * 100 + 0 * 4 + 0) - 1 - 1) / 4 = 100 * q + 99 := by omega
    have e2 : (q * 400 + 1 + (4 * 100 + 0 * 4 + 0) - 1 - 1) / 100 = 4 * q + 3 := by omega
    have e3 : (q * 400 + 1 + (4 * 100 + 0 * 4 + 0) - 1 - 1) / 400 = q := by omega
    rw [e1, e2, e3]; omega
end
set_option maxRecDepth 100000 in
theorem tabs : ∀ x : Fin 365, ∀ lp : Bool,
    let r : Int := (x.val : Nat); let k : Int := (r + 50) / 32
    let P : Int := [-1, 0, 31, 59, 90, 120, 151, 181, 212, 243, 273, 304, 334].getD k.toNat 0 + if 2 < k ∧ lp = true then 1 else 0
    let D : Int := [-1, 31, 28, 31, 30, 31, 30, 31, 31, 30, 31, 30, 31].getD (k - 1).toNat 0 + if k - 1 = 2 ∧ lp = true then 1 else 0
    let D' : Int := [-1, 31, 28, 31, 30, 31, 30, 31, 31, 30, 31, 30, 31].getD k.toNat 0 + if k = 2 ∧ lp = true then 1 else 0
    1 ≤ k ∧ k ≤ 12 ∧ (¬ r < P → r - P < D') ∧ (r < P → 2 ≤ k ∧ 0 ≤ r - (P - D) ∧ r - (P - D) < D ∧ P - D = [-1, 0, 31, 59, 90, 120, 151, 181, 212, 243, 273, 304, 334].getD (k - 1).toNat 0 + if 2 < k - 1 ∧ lp = true then 1 else 0) := by decide +kernel
section
variable {r k Y : Int} {lp : Bool}
theorem tab (hk : k = (r + 50).fdiv (2 ^ Int.toNat 5)) (h0 : 0 ≤ r) (h1 : r < 365) :
    let P : Int := [-1, 0, 31, 59, 90, 120, 151, 181, 212, 243, 273, 304, 334].getD k.toNat 0 + if 2 < k ∧ lp = true then 1 else 0
    let D : Int := [-1, 31, 28, 31, 30, 31, 30, 31, 31, 30, 31, 30, 31].getD (k - 1).toNat 0 + if k - 1 = 2 ∧ lp = true then 1 else 0
    let D' : Int := [-1, 31, 28, 31, 30, 31, 30, 31, 31, 30, 31, 30, 31].getD k.toNat 0 + if k = 2 ∧ lp = true then 1 else 0
    1 ≤ k ∧ k ≤ 12 ∧ (¬ r < P → r - P < D') ∧ (r < P → 2 ≤ k ∧ 0 ≤ r - (P - D) ∧ r - (P - D) < D ∧ P - D = [-1, 0, 31, 59, 90, 120, 151, 181, 212, 243, 273, 304, 334].getD (k - 1).toNat 0 + if 2 < k - 1 ∧ lp = true then 1 else 0) := by
  rw [sh5] at hk
  have := tabs ⟨r.toNat, by omega⟩ lp
  have e : ((r.toNat : Nat) : Int) = r := by omega
  simp only [e] at this
  subst hk
  exact this
theorem dim_alt (y m : Int) : dimI y m = [-1, 31, 28, 31, 30, 31, 30, 31, 31, 30, 31, 30, 31].getD m.toNat 0 + if m = 2 ∧ leapB y = true then 1 else 0 := by
  unfold dimI
  split
  · rename_i h; obtain ⟨rfl, _⟩ := h; rfl
  · omega
theorem ifA {c : Prop} [Decidable c] : (if decide c = true then (1 : Int) else 0) = if c then 1 else 0 := by
  by_cases h : c <;> simp [h]
/-- the month before the estimate is a month -/
theorem pre1 (h : r < [-1, 0, 31, 59, 90, 120, 151, 181, 212, 243, 273, 304, 334].getD k.toNat 0 + if decide (2 < k ∧ lp = true) = true then 1 else 0) (hk : k = (r + 50).fdiv (2 ^ Int.toNat 5)) (h0 : 0 ≤ r) (h1 : r < 365) : 1 ≤ k - 1 := by
  simp only [ifA] at h
  have := (tab (lp := lp) hk h0 h1).2.2.2 h
  omega
theorem bad1 (h : r < [-1, 0, 31, 59, 90, 120, 151, 181, 212, 243, 273, 304, 334].getD k.toNat 0 + if decide (2 < k ∧ lp = true) = true then 1 else 0)
    (hb : ¬0 ≤ r - (([-1, 0, 31, 59, 90, 120, 151, 181, 212, 243, 273, 304, 334].getD k.toNat 0 + if decide (2 < k ∧ lp = true) = true then 1 else 0) - ([-1, 31, 28, 31, 30, 31, 30, 31, 31, 30, 31, 30, 31].getD (k - 1).toNat 0 + if decide (k - 1 = 2 ∧ lp = true) = true then 1 else 0)))
    (hk : k = (r + 50).fdiv (2 ^ Int.toNat 5)) (h0 : 0 ≤ r) (h1 : r < 365) : False := by
  simp only [ifA] at h hb
  skip
  exact hb ((tab (lp := lp) hk h0 h1).2.2.2 h).2.1
theorem bad2 (h : r < [-1, 0, 31, 59, 90, 120, 151, 181, 212, 243, 273, 304, 334].getD k.toNat 0 + if decide (2 < k ∧ lp = true) = true then 1 else 0)
    (hb : ¬ r - (([-1, 0, 31, 59, 90, 120, 151, 181, 212, 243, 273, 304, 334].getD k.toNat 0 + if decide (2 < k ∧ lp = true) = true then 1 else 0) - ([-1, 31, 28, 31, 30, 31, 30, 31, 31, 30, 31, 30, 31].getD (k - 1).toNat 0 + if decide (k - 1 = 2 ∧ lp = true) = true then 1 else 0)) < dimI Y (k - 1))
    (he : (lp == leapB Y) = true) (hk : k = (r + 50).fdiv (2 ^ Int.toNat 5)) (h0 : 0 ≤ r) (h1 : r < 365) : False := by
  have e := eq_of_beq he
  simp only [ifA] at h hb
  rw [dim_alt, ← e] at hb
  exact hb ((tab (lp := lp) hk h0 h1).2.2.2 h).2.2.1
theorem bad4 (h : ¬ r < [-1, 0, 31, 59, 90, 120, 151, 181, 212, 243, 273, 304, 334].getD k.toNat 0 + if decide (2 < k ∧ lp = true) = true then 1 else 0)
    (hb : ¬ r - ([-1, 0, 31, 59, 90, 120, 151, 181, 212, 243, 273, 304, 334].getD k.toNat 0 + if decide (2 < k ∧ lp = true) = true then 1 else 0) < dimI Y k)
    (he : (lp == leapB Y) = true) (hk : k = (r + 50).fdiv (2 ^ Int.toNat 5)) (h0 : 0 ≤ r) (h1 : r < 365) : False := by
  have e := eq_of_beq he
  simp only [ifA] at h hb
  rw [dim_alt, ← e] at hb
  exact hb ((tab (lp := lp) hk h0 h1).2.2.1 h)
theorem good1 {n : Int} {t t2 t3 : Tok} (h : r < [-1, 0, 31, 59, 90, 120, 151, 181, 212, 243, 273, 304, 334].getD k.toNat 0 + if decide (2 < k ∧ lp = true) = true then 1 else 0)
    (he : (lp == leapB Y) = true) (hk : k = (r + 50).fdiv (2 ^ Int.toNat 5)) (h0 : 0 ≤ r) (h1 : r < 365) (hn : dbyI Y + r + 1 = n) :
    IsYmd n { cls := .type "tuple", data := .seq #[.int Y t, .int (k - 1) t2, .int (r - (([-1, 0, 31, 59, 90, 120, 151, 181, 212, 243, 273, 304, 334].getD k.toNat 0 + if decide (2 < k ∧ lp = true) = true then 1 else 0) - ([-1, 31, 28, 31, 30, 31, 30, 31, 31, 30, 31, 30, 31].getD (k - 1).toNat 0 + if decide (k - 1 = 2 ∧ lp = true) = true then 1 else 0)) + 1) t3] } := by
  have e := eq_of_beq he
  simp only [ifA] at h
  simp only [ifA]
  obtain ⟨a1, a2, _, a3⟩ := tab (lp := lp) hk h0 h1
  obtain ⟨a3, a4, a5, a6⟩ := a3 h
  refine ⟨_, _, _, _, _, _, rfl, by omega, by omega, by omega, ?_, ?_⟩
  · rw [dim_alt, ← e]; omega
  · rw [dbmI, ← e, ← a6]; omega
theorem good2 {n : Int} {t t2 t3 : Tok} (h : ¬ r < [-1, 0, 31, 59, 90, 120, 151, 181, 212, 243, 273, 304, 334].getD k.toNat 0 + if decide (2 < k ∧ lp = true) = true then 1 else 0)
    (he : (lp == leapB Y) = true) (hk : k = (r + 50).fdiv (2 ^ Int.toNat 5)) (h0 : 0 ≤ r) (h1 : r < 365) (hn : dbyI Y + r + 1 = n) :
    IsYmd n { cls := .type "tuple", data := .seq #[.int Y t, .int k t2, .int (r - ([-1, 0, 31, 59, 90, 120, 151, 181, 212, 243, 273, 304, 334].getD k.toNat 0 + if decide (2 < k ∧ lp = true) = true then 1 else 0) + 1) t3] } := by
  have e := eq_of_beq he
  simp only [ifA] at h
  simp only [ifA]
  obtain ⟨a1, a2, a3, _⟩ := tab (lp := lp) hk h0 h1
  have a3 := a3 h
  refine ⟨_, _, _, _, _, _, rfl, by omega, by omega, by omega, ?_, ?_⟩
  · rw [dim_alt, ← e]; omega
  · rw [dbmI, ← e]; omega
end
end Mine
end
section
namespace Mine
theorem log_small {a : Int} (h1 : -10000000000 < a) (h2 : a < 10000000000) : a.natAbs.log2 < 1920 := by
  have h : a.natAbs < 2 ^ 34 := by omega
  by_cases h0 : a.natAbs = 0
  · rw [h0]; decide
  · exact Nat.lt_of_lt_of_le (Nat.log2_lt h0 |>.mpr h) (by decide)
theorem lenI {n : Int} (h1 : -10000000000 < n) (h2 : n < 10000000000) : (PySem.Str.ofString (toString n)).length ≤ 20 := by
  have e := int_text_length_le10 (a := n) (k := 10) (by decide) (by omega)
  rw [PySem.ofString_length]
  omega
theorem lenA {x y : PySem.Str} {a b : Nat} (h1 : x.length ≤ a) (h2 : y.length ≤ b) : (x ++ y).length ≤ a + b := by
  rw [PySem.Str.length_append]; exact Nat.add_le_add h1 h2
theorem lenE : PySem.Str.empty.length ≤ 0 := Nat.le_refl 0
theorem leafI {n : Int} (h1 : -10000000000 < n) (h2 : n < 10000000000) : (PySem.Str.ofString (toString n)).length ≤ 1000 := Nat.le_trans (lenI h1 h2) (by decide)
theorem leafL {l : String} (h : (PySem.Str.ofString l).length ≤ 1000) : (PySem.Str.ofString l).length ≤ 1000 := h
theorem leafS {x : PySem.Str} {m : Nat} (h : x.length ≤ m) (hm : m ≤ 1000) : x.length ≤ 1000 := Nat.le_trans h hm
theorem fitLen {x : PySem.Str} {n : Nat} (h : x.length ≤ n) (hn : n ≤ 16000000) : x.length ≤ sizeLine := by rw [sizeLine_eq]; omega
theorem fit1 {x1 : PySem.Str} (h1 : x1.length ≤ 1000) : (PySem.Str.empty ++ x1).length ≤ sizeLine := fitLen (lenA (lenE) h1) (by decide)
theorem fit2 {x1 x2 : PySem.Str} (h1 : x1.length ≤ 1000) (h2 : x2.length ≤ 1000) : (PySem.Str.empty ++ x1 ++ x2).length ≤ sizeLine := fitLen (lenA (lenA (lenE) h1) h2) (by decide)
theorem fit3 {x1 x2 x3 : PySem.Str} (h1 : x1.length ≤ 1000) (h2 : x2.length ≤ 1000) (h3 : x3.length ≤ 1000) : (PySem.Str.empty ++ x1 ++ x2 ++ x3).length ≤ sizeLine := fitLen (lenA (lenA (lenA (lenE) h1) h2) h3) (by decide)
theorem fit4 {x1 x2 x3 x4 : PySem.Str} (h1 : x1.length ≤ 1000) (h2 : x2.length ≤ 1000) (h3 : x3.length ≤ 1000) (h4 : x4.length ≤ 1000) : (PySem.Str.empty ++ x1 ++ x2 ++ x3 ++ x4).length ≤ sizeLine := fitLen (lenA (lenA (lenA (lenA (lenE) h1) h2) h3) h4) (by decide)
theorem fit5 {x1 x2 x3 x4 x5 : PySem.Str} (h1 : x1.length ≤ 1000) (h2 : x2.length ≤ 1000) (h3 : x3.length ≤ 1000) (h4 : x4.length ≤ 1000) (h5 : x5.length ≤ 1000) : (PySem.Str.empty ++ x1 ++ x2 ++ x3 ++ x4 ++ x5).length ≤ sizeLine := fitLen (lenA (lenA (lenA (lenA (lenA (lenE) h1) h2) h3) h4) h5) (by decide)
theorem fit6 {x1 x2 x3 x4 x5 x6 : PySem.Str} (h1 : x1.length ≤ 1000) (h2 : x2.length ≤ 1000) (h3 : x3.length ≤ 1000) (h4 : x4.length ≤ 1000) (h5 : x5.length ≤ 1000) (h6 : x6.length ≤ 1000) : (PySem.Str.empty ++ x1 ++ x2 ++ x3 ++ x4 ++ x5 ++ x6).length ≤ sizeLine := fitLen (lenA (lenA (lenA (lenA (lenA (lenA (lenE) h1) h2) h3) h4) h5) h6) (by decide)
theorem fit7 {x1 x2 x3 x4 x5 x6 x7 : PySem.Str} (h1 : x1.length ≤ 1000) (h2 : x2.length ≤ 1000) (h3 : x3.length ≤ 1000) (h4 : x4.length ≤ 1000) (h5 : x5.length ≤ 1000) (h6 : x6.length ≤ 1000) (h7 : x7.length ≤ 1000) : (PySem.Str.empty ++ x1 ++ x2 ++ x3 ++ x4 ++ x5 ++ x6 ++ x7).length ≤ sizeLine := fitLen (lenA (lenA (lenA (lenA (lenA (lenA (lenA (lenE) h1) h2) h3) h4) h5) h6) h7) (by decide)

def longB (y : Int) : Bool := (dbyI y + 1) % 7 == 4 || ((dbyI y + 1) % 7 == 3 && leapB y)
def WeekOk (y w : Int) : Prop := (0 < w ∧ w < 53) ∨ (w = 53 ∧ longB y = true)
instance (y w : Int) : Decidable (WeekOk y w) := by unfold WeekOk; infer_instance
def badG (y w d : Int) : Option PySem.Str :=
  if ¬ (1 ≤ y ∧ y ≤ 9999) then some (PySem.Str.empty ++ PySem.Str.ofString "Year is out of range: " ++ PySem.Str.ofString (toString y))
  else if ¬ WeekOk y w then some (PySem.Str.empty ++ PySem.Str.ofString "Invalid week: " ++ PySem.Str.ofString (toString w))
  else if ¬ (0 < d ∧ d < 8) then some (PySem.Str.empty ++ PySem.Str.ofString "Invalid weekday: " ++ PySem.Str.ofString (toString d) ++ PySem.Str.ofString " (range is [1, 7])")
  else none
/-- a ValueError with this text, or A -/
abbrev cOr (r : Option PySem.Str) (A : Cont) : Cont := fun base h₀ L m news fr s Q E => (∀ msg, r = some msg → cBad (fun k => [.str msg k]) base h₀ L m news fr s Q E) ∧ (r = none → A base h₀ L m news fr s Q E)
section
variable {y w d : Int}
theorem wk1 (h1 : 0 < w) (h2 : w < 53) : WeekOk y w := .inl ⟨h1, h2⟩
theorem wk2 (h1 : w = 53) (h2 : (dbyI y + dbmI y 1 + 1).fmod 7 = 4) : WeekOk y w := .inr ⟨h1, by rw [dbm1] at h2; simp only [fm] at h2; simp only [longB, Bool.or_eq_true, beq_iff_eq]; left; omega⟩
theorem wk3 (h1 : w = 53) (h2 : (dbyI y + dbmI y 1 + 1).fmod 7 = 3) (h3 : leapB y = true) : WeekOk y w := .inr ⟨h1, by rw [dbm1] at h2; simp only [fm] at h2; simp only [longB, Bool.or_eq_true, Bool.and_eq_true, beq_iff_eq]; right; exact ⟨by omega, h3⟩⟩
theorem nw1 (h1 : w ≠ 53) (h2 : ¬ (0 < w ∧ w < 53)) : ¬ WeekOk y w := fun h => h.elim h2 fun q => h1 q.1
theorem nw2 (h1 : w = 53) (h2 : (dbyI y + dbmI y 1 + 1).fmod 7 ≠ 4) (h3 : (dbyI y + dbmI y 1 + 1).fmod 7 ≠ 3) : ¬ WeekOk y w := fun h => by
  rw [dbm1] at h2 h3; simp only [fm] at h2 h3
  rcases h with h | ⟨_, h⟩
  · omega
  · simp only [longB, Bool.or_eq_true, Bool.and_eq_true, beq_iff_eq] at h; omega
theorem nw3 (h1 : w = 53) (h2 : (dbyI y + dbmI y 1 + 1).fmod 7 = 3) (h3 : leapB y = false) : ¬ WeekOk y w := fun h => by
  rw [dbm1] at h2; simp only [fm] at h2
  rcases h with h | ⟨_, h⟩
  · omega
  · simp [longB, h3] at h; omega
theorem gN (h1 : 1 ≤ y) (h2 : y ≤ 9999) (h3 : WeekOk y w) (h4 : 0 < d) (h5 : d < 8) : badG y w d = none := by
  unfold badG; rw [if_neg (fun h => h ⟨h1, h2⟩), if_neg (fun h => h h3), if_neg (fun h => h ⟨h4, h5⟩)]
theorem gY (h : ¬ (1 ≤ y ∧ y ≤ 9999)) : badG y w d = some (PySem.Str.empty ++ PySem.Str.ofString "Year is out of range: " ++ PySem.Str.ofString (toString y)) := by
  unfold badG; rw [if_pos h]
theorem gW (h1 : 1 ≤ y) (h2 : y ≤ 9999) (h3 : ¬ WeekOk y w) : badG y w d = some (PySem.Str.empty ++ PySem.Str.ofString "Invalid week: " ++ PySem.Str.ofString (toString w)) := by
  unfold badG; rw [if_neg (fun h => h ⟨h1, h2⟩), if_pos h3]
theorem gD (h1 : 1 ≤ y) (h2 : y ≤ 9999) (h3 : WeekOk y w) (h4 : ¬ (0 < d ∧ d < 8)) : badG y w d = some (PySem.Str.empty ++ PySem.Str.ofString "Invalid weekday: " ++ PySem.Str.ofString (toString d) ++ PySem.Str.ofString " (range is [1, 7])") := by
  unfold badG; rw [if_neg (fun h => h ⟨h1, h2⟩), if_neg (fun h => h h3), if_pos h4]
end

end Mine
end
section
namespace Mine
/-- a list that is the date of the ordinal n -/
def IsLst (n : Int) (o : Obj) : Prop := ∃ (y m d : Int) (ty tm td : Tok) (k : Nat), o = W.listOf #[.int y ty, .int m tm, .int d td] k ∧ 1 ≤ m ∧ m ≤ 12 ∧ 1 ≤ d ∧ d ≤ dimI y m ∧ dbyI y + dbmI y m + d = n
/-- a list of these three -/
def IsLst3 (y m d : Int) (o : Obj) : Prop := ∃ (ty tm td : Tok) (k : Nat), o = W.listOf #[.int y ty, .int m tm, .int d td] k
end Mine
end
section
namespace Mine
def ylI (y : Int) : Int := 365 + if leapB y = true then 1 else 0
theorem dby_succ (y : Int) : dbyI (y + 1) = dbyI y + ylI y := by
  have h := leap_iff y
  unfold dbyI ylI
  split
  · have := h.mp ‹_›; omega
  · have : ¬ (y % 4 = 0 ∧ (y % 100 ≠ 0 ∨ y % 400 = 0)) := fun q => absurd (h.mpr q) ‹_›
    omega
theorem dby_pred (y : Int) : dbyI y = dbyI (y - 1) + ylI (y - 1) := by
  have := dby_succ (y - 1)
  rw [Int.sub_add_cancel] at this
  exact this
theorem yl_bound (y : Int) : 365 ≤ ylI y ∧ ylI y ≤ 366 := by unfold ylI; split <;> omega
theorem yl_feb (y : Int) : 337 + dimI y 2 = ylI y := by
  unfold dimI ylI
  by_cases h : leapB y = true <;> simp [h]
/-- the week of the year's t-th day, a Thursday -/
theorem week_of {Y t : Int} (h1 : 1 ≤ t) (h2 : t ≤ ylI Y) (h3 : (dbyI Y + t) % 7 = 4) : WeekOk Y ((t + 6) / 7) ∧ monI Y + ((t + 6) / 7 - 1) * 7 + 3 = dbyI Y + t := by
  unfold ylI at h2
  unfold WeekOk monI longB
  simp only [Bool.or_eq_true, Bool.and_eq_true, beq_iff_eq]
  by_cases hl : leapB Y = true
  · simp only [hl, if_true] at h2
    simp only [hl, and_true]
    constructor
    · by_cases hw : (t + 6) / 7 < 53
      · left; omega
      · right; omega
    · split <;> omega
  · simp only [hl] at h2
    simp only [hl]
    constructor
    · by_cases hw : (t + 6) / 7 < 53
      · left; omega
      · right; simp at h2; omega
    · split <;> omega
def sumI (y m : Int) : Int := (List.map (fun k' => dimI y k') (rangeKs 1 (m - 1).toNat)).sum
theorem sum_dbm {y m : Int} (h0 : 1 ≤ m) (h1 : m ≤ 12) : sumI y m = dbmI y m := by
  have e : m = 1 ∨ m = 2 ∨ m = 3 ∨ m = 4 ∨ m = 5 ∨ m = 6 ∨ m = 7 ∨ m = 8 ∨ m = 9 ∨ m = 10 ∨ m = 11 ∨ m = 12 := by omega
  by_cases hl : leapB y = true <;> (rcases e with rfl | rfl | rfl | rfl | rfl | rfl | rfl | rfl | rfl | rfl | rfl | rfl <;> simp [sumI, dbmI, dimI, hl, rangeKs, List.range_succ] )
/-- the weekday by month numbers -/
def wdI (p m d : Int) : Int := (p + p.fdiv 4 - p.fdiv 100 + p.fdiv 400 + [0, 3, 2, 5, 0, 3, 5, 1, 4, 6, 2, 4].getD (m - 1).toNat 0 + d + 6).fmod 7 + 1
theorem wd_lo {y m d : Int} (h0 : 1 ≤ m) (h1 : m < 3) : wdI (y - 1) m d = (dbyI y + dbmI y m + d + 6) % 7 + 1 := by
  unfold wdI
  simp only [fm]
  have e : m = 1 ∨ m = 2 := by omega
  rcases e with rfl | rfl <;> simp [dbmI, dbyI] <;> omega
theorem wd_tab : ∀ a : Fin 13, 3 ≤ a.val → (365 + ([0, 3, 2, 5, 0, 3, 5, 1, 4, 6, 2, 4] : List Int).getD (a.val - 1) 0 - ([-1, 0, 31, 59, 90, 120, 151, 181, 212, 243, 273, 304, 334] : List Int).getD a.val 0) % 7 = 0 := by decide +kernel
theorem wd_hi {y m d : Int} (h0 : ¬ m < 3) (h1 : m ≤ 12) : wdI y m d = (dbyI y + dbmI y m + d + 6) % 7 + 1 := by
  have hs := dby_succ y
  have e : dbyI (y + 1) = y * 365 + y / 4 - y / 100 + y / 400 := by unfold dbyI; rw [Int.add_sub_cancel]
  rw [e] at hs
  unfold ylI at hs
  have t := wd_tab ⟨m.toNat, by omega⟩ (by show 3 ≤ m.toNat; omega)
  have e1 : (m - 1).toNat = m.toNat - 1 := by omega
  unfold wdI dbmI
  simp only [fm, e1]
  dsimp only at t
  generalize ([0, 3, 2, 5, 0, 3, 5, 1, 4, 6, 2, 4] : List Int).getD (m.toNat - 1) 0 = A at t ⊢
  generalize ([-1, 0, 31, 59, 90, 120, 151, 181, 212, 243, 273, 304, 334] : List Int).getD m.toNat 0 = B at t ⊢
  by_cases hl : leapB y = true
  · rw [if_pos hl] at hs
    rw [if_pos ⟨by omega, hl⟩]
    omega
  · rw [if_neg hl] at hs
    rw [if_neg (fun q => hl q.2)]
    omega
/-- a day's number -/
def ordI (y m d : Int) : Int := dbyI y + dbmI y m + d
theorem dbm_tab0 : ∀ (a : Fin 13) (lp : Bool), 1 ≤ a.val →
    0 ≤ (([-1, 0, 31, 59, 90, 120, 151, 181, 212, 243, 273, 304, 334] : List Int).getD a.val 0 + if 2 < (a.val : Int) ∧ lp = true then 1 else 0) ∧
    (([-1, 0, 31, 59, 90, 120, 151, 181, 212, 243, 273, 304, 334] : List Int).getD a.val 0 + if 2 < (a.val : Int) ∧ lp = true then 1 else 0) + (if (a.val : Int) = 2 ∧ lp = true then 29 else ([-1, 31, 28, 31, 30, 31, 30, 31, 31, 30, 31, 30, 31] : List Int).getD a.val 0) ≤ 365 + (if lp = true then 1 else 0) := by decide +kernel
theorem dbm_bound {y m d : Int} (h0 : 1 ≤ m) (h1 : m ≤ 12) (h2 : 1 ≤ d) (h3 : d ≤ dimI y m) : 0 ≤ dbmI y m ∧ dbmI y m + d ≤ ylI y := by
  have t := dbm_tab0 ⟨m.toNat, by omega⟩ (leapB y) (by show 1 ≤ m.toNat; omega)
  have e1 : ((m.toNat : Nat) : Int) = m := by omega
  simp only [e1] at t
  have t' : 0 ≤ dbmI y m ∧ dbmI y m + dimI y m ≤ ylI y := t
  exact ⟨t'.1, by have := t'.2; omega⟩
/-- a list that is the name of the day with the number n: year, week, weekday -/
def IsName (n : Int) (o : Obj) : Prop := ∃ (Y W k : Int) (ty tw tk : Tok) (j : Nat), o = PySem.W.listOf #[.int Y ty, .int W tw, .int k tk] j ∧ 1 ≤ Y ∧ Y ≤ 9999 ∧ WeekOk Y W ∧ 1 ≤ k ∧ k ≤ 7 ∧ monI Y + (W - 1) * 7 + (k - 1) = n
theorem name_any {Y W k n t : Int} {ty tw tk : Tok} {j : Nat} (hW : W = (t + 6).fdiv 7) (hY : 1 ≤ Y) (hY' : Y ≤ 9999) (h1 : 1 ≤ t) (h2 : t ≤ ylI Y) (hk : k = (n + 6) % 7 + 1) (hn : dbyI Y + t = n + 4 - k) : IsName n (PySem.W.listOf #[.int Y ty, .int W tw, .int k tk] j) := by
  have hW : W = (t + 6) / 7 := by rw [hW, Int.fdiv_eq_ediv_of_nonneg _ (by decide)]
  subst hW
  have h := week_of h1 h2 (by omega)
  exact ⟨_, _, _, _, _, _, _, rfl, hY, hY', h.1, by omega, by omega, by omega⟩
theorem dby1 : dbyI 1 = 0 := by decide
theorem dby9 : dbyI 10000 = 3652059 := by decide
section
variable {y m d p : Int} {ty tw tk : Tok} {j : Nat} (h1 : 1 ≤ y) (h2 : y ≤ 9999) (h3 : 1 ≤ m) (h4 : m ≤ 12) (h5 : 1 ≤ d) (h6 : d ≤ dimI y m)
include h1 h2 h3 h4 h5 h6
omit h5 in
theorem wd_p (hp : p = y - 1 ∧ m < 3 ∨ p = y ∧ ¬ m < 3) : wdI p m d = (ordI y m d + 6) % 7 + 1 := by
  rcases hp with ⟨rfl, h⟩ | ⟨rfl, h⟩
  · exact wd_lo h3 h
  · exact wd_hi h h4
theorem name_before (hp : p = y - 1 ∧ m < 3 ∨ p = y ∧ ¬ m < 3) (ht : sumI y m + d + 4 - wdI p m d < 1) :
    IsName (ordI y m d) (PySem.W.listOf #[.int (y - 1) ty, .int ((sumI y m + d + 4 - wdI p m d + (337 + dimI (y - 1) 2) + 6).fdiv 7) tw, .int (wdI p m d) tk] j) := by
  have e1 := sum_dbm (y := y) h3 h4
  have e2 := wd_p h1 h2 h3 h4 h6 hp
  simp only [e1, e2, yl_feb] at ht ⊢
  have hb := dbm_bound h3 h4 h5 h6
  have hl := yl_bound (y - 1)
  have hd := dby_pred y
  simp only [ordI] at *
  refine name_any rfl ?_ (by omega) (by omega) (by omega) rfl (by omega)
  rcases Int.lt_or_le 1 y with q | q
  · omega
  · obtain rfl : y = 1 := by omega
    rw [dby1] at ht; omega
theorem name_after (hp : p = y - 1 ∧ m < 3 ∨ p = y ∧ ¬ m < 3) (ht : 337 + dimI y 2 < sumI y m + d + 4 - wdI p m d) :
    IsName (ordI y m d) (PySem.W.listOf #[.int (y + 1) ty, .int ((sumI y m + d + 4 - wdI p m d - (337 + dimI y 2) + 6).fdiv 7) tw, .int (wdI p m d) tk] j) := by
  have e1 := sum_dbm (y := y) h3 h4
  have e2 := wd_p h1 h2 h3 h4 h6 hp
  simp only [e1, e2, yl_feb] at ht ⊢
  have hb := dbm_bound h3 h4 h5 h6
  have hl := yl_bound (y + 1)
  have hd := dby_succ y
  simp only [ordI] at *
  refine name_any rfl (by omega) ?_ (by omega) (by omega) rfl (by omega)
  rcases Int.lt_or_le y 9999 with q | q
  · omega
  · obtain rfl : y = 9999 := by omega
    rw [show (9999 : Int) + 1 = 10000 from rfl, dby9] at hd; omega
theorem name_same (hp : p = y - 1 ∧ m < 3 ∨ p = y ∧ ¬ m < 3) (ht : ¬ sumI y m + d + 4 - wdI p m d < 1) (ht' : ¬ 337 + dimI y 2 < sumI y m + d + 4 - wdI p m d) :
    IsName (ordI y m d) (PySem.W.listOf #[.int y ty, .int ((sumI y m + d + 4 - wdI p m d + 6).fdiv 7) tw, .int (wdI p m d) tk] j) := by
  have e1 := sum_dbm (y := y) h3 h4
  have e2 := wd_p h1 h2 h3 h4 h6 hp
  simp only [e1, e2, yl_feb] at ht ht' ⊢
  simp only [ordI] at *
  exact name_any rfl h1 h2 (by omega) (by omega) rfl (by omega)
end
section
variable {y m d p S D : Int} {ty tw tk : Tok} {j : Nat} (h1 : 1 ≤ y) (h2 : y ≤ 9999) (h3 : 1 ≤ m) (h4 : m ≤ 12) (h5 : 1 ≤ d) (h6 : d ≤ dimI y m) (hS : S = sumI y m) (hD : D = wdI p m d)
include h1 h2 h3 h4 h5 h6 hS hD
theorem name_b (hp : p = y - 1 ∧ m < 3 ∨ p = y ∧ ¬ m < 3) (ht : S + d + 4 - D < 1) :
    IsName (ordI y m d) (PySem.W.listOf #[.int (y - 1) ty, .int ((S + d + 4 - D + (337 + dimI (y - 1) 2) + 6).fdiv 7) tw, .int D tk] j) := by
  subst hS hD; exact name_before h1 h2 h3 h4 h5 h6 hp ht
theorem name_a (hp : p = y - 1 ∧ m < 3 ∨ p = y ∧ ¬ m < 3) (ht : 337 + dimI y 2 < S + d + 4 - D) :
    IsName (ordI y m d) (PySem.W.listOf #[.int (y + 1) ty, .int ((S + d + 4 - D - (337 + dimI y 2) + 6).fdiv 7) tw, .int D tk] j) := by
  subst hS hD; exact name_after h1 h2 h3 h4 h5 h6 hp ht
theorem name_s (hp : p = y - 1 ∧ m < 3 ∨ p = y ∧ ¬ m < 3) (ht : ¬ S + d + 4 - D < 1) (ht' : ¬ 337 + dimI y 2 < S + d + 4 - D) :
    IsName (ordI y m d) (PySem.W.listOf #[.int y ty, .int ((S + d + 4 - D + 6).fdiv 7) tw, .int D tk] j) := by
  subst hS hD; exact name_same h1 h2 h3 h4 h5 h6 hp ht ht'
end
end Mine
end
section
open PySem PySem.W PyProof.Rows PySem.NumText
namespace Mine
/-- a figure's sign -/
def dg (n : Nat) : Nat := 48 + n % 10
theorem dg_is (n : Nat) : 48 ≤ dg n ∧ dg n ≤ 57 := by unfold dg; omega
theorem char_back {c : Nat} (h : 48 ≤ c ∧ c ≤ 57) : (Char.ofNat c).toNat = c := by
  have e : c = 48 ∨ c = 49 ∨ c = 50 ∨ c = 51 ∨ c = 52 ∨ c = 53 ∨ c = 54 ∨ c = 55 ∨ c = 56 ∨ c = 57 := by omega
  rcases e with rfl | rfl | rfl | rfl | rfl | rfl | rfl | rfl | rfl | rfl <;> rfl
theorem map_back {cs : List Nat} (h : AllDigits cs) : (cs.map Char.ofNat).map Char.toNat = cs := by
  rw [List.map_map]
  conv => rhs; rw [← List.map_id cs]
  exact List.map_congr_left fun c hc => char_back (h c hc)
theorem padded : ∀ (cs : List Nat), AllDigits cs → cs ≠ [] → List.replicate (cs.length - (Nat.toDigits 10 (digitsVal cs)).length) 48 ++ (Nat.toDigits 10 (digitsVal cs)).map Char.toNat = cs := by
  intro cs h hne
  rw [toDigits_all cs h]
  have hs := List.takeWhile_append_dropWhile (p := fun x : Nat => x == 48) (l := cs)
  have hr : cs.takeWhile (· == 48) = List.replicate (cs.takeWhile (· == 48)).length 48 := List.eq_replicate_iff.mpr ⟨rfl, fun b hb => by
    have := List.all_eq_true.mp (List.all_takeWhile (p := fun x : Nat => x == 48) (l := cs)) b hb
    simpa using this⟩
  have hlen := congrArg List.length hs
  rw [List.length_append] at hlen
  cases hd : cs.dropWhile (· == 48) with
  | nil =>
    rw [hd] at hs hlen
    simp only [List.append_nil] at hs
    rw [hs] at hr
    show List.replicate (cs.length - 1) 48 ++ [48] = cs
    have hp : 0 < cs.length := List.length_pos_iff.mpr hne
    conv => rhs; rw [hr]
    rw [← List.replicate_succ', show cs.length - 1 + 1 = cs.length by omega]
  | cons c r =>
    rw [hd] at hs hlen
    have ha : AllDigits (c :: r) := fun x hx => h x (hs ▸ List.mem_append_right _ hx)
    show List.replicate (cs.length - ((c :: r).map Char.ofNat).length) 48 ++ ((c :: r).map Char.ofNat).map Char.toNat = cs
    rw [map_back ha, List.length_map, show cs.length - (c :: r).length = (cs.takeWhile (· == 48)).length by omega, ← hr]
    exact hs
open Builtin Builtin.Float in
theorem spec_text {spec : PySem.Str} {f : FormatSpec} {W : Nat} {a : Int} {cs : List Nat} (hp : parseFormatSpec spec.cps.toList "int" 62 = .ok f) (hgr : f.grouping = none) (hsg : f.sign = none) (hf : f.fill = 48) (hal : f.align = 61) (hw : f.width.getD 0 = W)
    (h0 : 0 ≤ a) (ha : AllDigits cs) (hl : cs.length = W) (hne : cs ≠ []) (hv : digitsVal cs = a.toNat) : intSpecTextOf spec a = ⟨cs.toArray⟩ := by
  have e : intSpecTextOf spec a = intSpecText f a := by unfold intSpecTextOf; rw [hp]
  rw [e, intSpecText_zero hgr hsg hf hal h0, hw]
  obtain ⟨n, rfl⟩ := Int.eq_ofNat_of_zero_le h0
  have hv' : digitsVal cs = n := by simpa using hv
  have p := padded cs ha hne
  rw [hv', hl] at p
  refine Str.ext' ?_
  rw [Str.cps_append]
  apply Array.toList_inj.mp
  rw [Array.toList_append, KIN.signs_num]
  exact p
def l2 (n : Nat) : List Nat := [dg (n / 10), dg n]
def l4 (n : Nat) : List Nat := [dg (n / 1000), dg (n / 100), dg (n / 10), dg n]
theorem all1 (n : Nat) : AllDigits [dg n] := by intro c hc; simp only [List.mem_cons, List.not_mem_nil, or_false] at hc; rcases hc with rfl; exact dg_is _
theorem all2 (n : Nat) : AllDigits (l2 n) := by intro c hc; simp only [l2, List.mem_cons, List.not_mem_nil, or_false] at hc; rcases hc with rfl | rfl <;> exact dg_is _
theorem all4 (n : Nat) : AllDigits (l4 n) := by intro c hc; simp only [l4, List.mem_cons, List.not_mem_nil, or_false] at hc; rcases hc with rfl | rfl | rfl | rfl <;> exact dg_is _
theorem val1 {n : Nat} (h : n < 10) : digitsVal [dg n] = n := by simp only [digitsVal, List.foldl_cons, List.foldl_nil, dg]; omega
theorem val2 {n : Nat} (h : n < 100) : digitsVal (l2 n) = n := by simp only [digitsVal, l2, List.foldl_cons, List.foldl_nil, dg]; omega
theorem val4 {n : Nat} (h : n < 10000) : digitsVal (l4 n) = n := by simp only [digitsVal, l4, List.foldl_cons, List.foldl_nil, dg]; omega
theorem fmt4 {y : Int} (h0 : 0 ≤ y) (h1 : y < 10000) : intSpecTextOf (PySem.Str.ofString "04d") y = ⟨(l4 y.toNat).toArray⟩ :=
  spec_text (W := 4) (f := { fill := 48, align := 61, width := some 4, type := some 100 }) (by rfl) rfl rfl rfl rfl rfl h0 (all4 _) rfl (by simp [l4]) (val4 (by omega))
theorem fmt2 {y : Int} (h0 : 0 ≤ y) (h1 : y < 100) : intSpecTextOf (PySem.Str.ofString "02d") y = ⟨(l2 y.toNat).toArray⟩ :=
  spec_text (W := 2) (f := { fill := 48, align := 61, width := some 2, type := some 100 }) (by rfl) rfl rfl rfl rfl rfl h0 (all2 _) rfl (by simp [l2]) (val2 (by omega))
theorem fmt1 {y : Int} (h0 : 0 ≤ y) (h1 : y < 10) : PySem.Str.ofString (toString y) = ⟨[dg y.toNat].toArray⟩ := by
  obtain ⟨n, rfl⟩ := Int.eq_ofNat_of_zero_le h0
  have hn : n < 10 := by omega
  refine Str.ext' (Array.toList_inj.mp ?_)
  rw [KIN.signs_num, Nat.toDigits_of_lt_base hn, digitChar_of _ hn]
  show [(Char.ofNat (48 + n)).toNat] = [dg ((n : Int)).toNat]
  rw [char_back (by omega), Int.toNat_natCast, dg, Nat.mod_eq_of_lt hn]
theorem read_digits {cs : List Nat} (h : AllDigits cs) (hne : cs ≠ []) (hl : cs.length ≤ 10) {n : Int} (hv : digitsVal cs = n.toNat) (h0 : 0 ≤ n) : PySem.intText? ⟨cs.toArray⟩ = some n := by
  have e := intText_digits (x := ⟨cs.toArray⟩) (by simpa using h) (by simpa using hne) (by show cs.toArray.size ≤ 4300; rw [List.size_toArray]; omega)
  rw [e]
  simp only [hv]
  congr 1
  omega
/-- a text that says year and week -/
structure WkS (x : PySem.Str) (y w9 : Int) : Prop where
  l1 : 7 ≤ x.length
  l2 : x.length ≤ 10
  len : ([7, 8, 10].any fun k => k == (x.length : Int)) = true
  year : PySem.intText? (PySem.Txt.slice x (some 0) (some 4)) = some y
  b1 : -100000 < y
  b2 : y < 100000
  w : (PySem.Txt.slice x (some (4 + (if (PySem.Txt.item x 4 == PySem.Str.ofString "-") = true then 1 else 0))) (some ((4 + (if (PySem.Txt.item x 4 == PySem.Str.ofString "-") = true then 1 else 0)) + 1)) == PySem.Str.ofString "W") = true
  week : PySem.intText? (PySem.Txt.slice x (some ((4 + (if (PySem.Txt.item x 4 == PySem.Str.ofString "-") = true then 1 else 0)) + 1)) (some ((4 + (if (PySem.Txt.item x 4 == PySem.Str.ofString "-") = true then 1 else 0)) + 1 + 2))) = some w9
  b3 : -100000 < w9
  b4 : w9 < 100000
  ends : ¬ (4 + (if (PySem.Txt.item x 4 == PySem.Str.ofString "-") = true then 1 else 0)) + 1 + 2 < (x.length : Int)
/-- a text that says year, week and weekday -/
structure WkL (x : PySem.Str) (y w9 d9 : Int) : Prop where
  l1 : 7 ≤ x.length
  l2 : x.length ≤ 10
  len : ([7, 8, 10].any fun k => k == (x.length : Int)) = true
  year : PySem.intText? (PySem.Txt.slice x (some 0) (some 4)) = some y
  b1 : -100000 < y
  b2 : y < 100000
  w : (PySem.Txt.slice x (some (4 + (if (PySem.Txt.item x 4 == PySem.Str.ofString "-") = true then 1 else 0))) (some ((4 + (if (PySem.Txt.item x 4 == PySem.Str.ofString "-") = true then 1 else 0)) + 1)) == PySem.Str.ofString "W") = true
  week : PySem.intText? (PySem.Txt.slice x (some ((4 + (if (PySem.Txt.item x 4 == PySem.Str.ofString "-") = true then 1 else 0)) + 1)) (some ((4 + (if (PySem.Txt.item x 4 == PySem.Str.ofString "-") = true then 1 else 0)) + 1 + 2))) = some w9
  b3 : -100000 < w9
  b4 : w9 < 100000
  goes : (4 + (if (PySem.Txt.item x 4 == PySem.Str.ofString "-") = true then 1 else 0)) + 1 + 2 < (x.length : Int)
  dash : (((PySem.Txt.slice x (some ((4 + (if (PySem.Txt.item x 4 == PySem.Str.ofString "-") = true then 1 else 0)) + 1 + 2)) (some ((4 + (if (PySem.Txt.item x 4 == PySem.Str.ofString "-") = true then 1 else 0)) + 1 + 2 + 1))) == PySem.Str.ofString "-") != (PySem.Txt.item x 4 == PySem.Str.ofString "-")) = false
  day : PySem.intText? (PySem.Txt.slice x (some ((4 + (if (PySem.Txt.item x 4 == PySem.Str.ofString "-") = true then 1 else 0)) + 1 + 2 + (if (PySem.Txt.item x 4 == PySem.Str.ofString "-") = true then 1 else 0))) (some ((4 + (if (PySem.Txt.item x 4 == PySem.Str.ofString "-") = true then 1 else 0)) + 1 + 2 + (if (PySem.Txt.item x 4 == PySem.Str.ofString "-") = true then 1 else 0) + 1))) = some d9
  b5 : -100000 < d9
  b6 : d9 < 100000
theorem not_dash {g : Nat} (h : g ≠ 45) : ((⟨#[g]⟩ : PySem.Str) == PySem.Str.ofString "-") = false := by
  have e : PySem.Str.ofString "-" = ⟨#[45]⟩ := by decide +kernel
  rw [e, beq_eq_false_iff_ne]
  intro q
  exact h (by simpa using q)
section
variable {a b c d e f g : Nat} {y w k : Int}
theorem wkS7 (hy : PySem.intText? ⟨#[a, b, c, d]⟩ = some y) (hw : PySem.intText? ⟨#[e, f]⟩ = some w) (b1 : 0 ≤ y) (b2 : y < 10000) (b3 : 0 ≤ w) (b4 : w < 100) : WkS ⟨#[a, b, c, d, 87, e, f]⟩ y w where
  l1 := by show (7 : Nat) ≤ 7; decide
  l2 := by show (7 : Nat) ≤ 10; decide
  len := rfl
  year := hy
  b1 := by omega
  b2 := by omega
  w := (by rw [show (if (PySem.Txt.item (⟨#[a, b, c, d, 87, e, f]⟩ : PySem.Str) 4 == PySem.Str.ofString "-") = true then (1 : Int) else 0) = 0 from rfl]; rfl)
  week := (by rw [show (if (PySem.Txt.item (⟨#[a, b, c, d, 87, e, f]⟩ : PySem.Str) 4 == PySem.Str.ofString "-") = true then (1 : Int) else 0) = 0 from rfl]; exact hw)
  b3 := by omega
  b4 := by omega
  ends := by show ¬ (7 : Int) < 7; decide
theorem wkS8 (hy : PySem.intText? ⟨#[a, b, c, d]⟩ = some y) (hw : PySem.intText? ⟨#[e, f]⟩ = some w) (b1 : 0 ≤ y) (b2 : y < 10000) (b3 : 0 ≤ w) (b4 : w < 100) : WkS ⟨#[a, b, c, d, 45, 87, e, f]⟩ y w where
  l1 := by show (7 : Nat) ≤ 8; decide
  l2 := by show (8 : Nat) ≤ 10; decide
  len := rfl
  year := hy
  b1 := by omega
  b2 := by omega
  w := (by rw [show (if (PySem.Txt.item (⟨#[a, b, c, d, 45, 87, e, f]⟩ : PySem.Str) 4 == PySem.Str.ofString "-") = true then (1 : Int) else 0) = 1 from rfl]; rfl)
  week := (by rw [show (if (PySem.Txt.item (⟨#[a, b, c, d, 45, 87, e, f]⟩ : PySem.Str) 4 == PySem.Str.ofString "-") = true then (1 : Int) else 0) = 1 from rfl]; exact hw)
  b3 := by omega
  b4 := by omega
  ends := by show ¬ (8 : Int) < 8; decide
theorem wkL8 (hy : PySem.intText? ⟨#[a, b, c, d]⟩ = some y) (hw : PySem.intText? ⟨#[e, f]⟩ = some w) (hk : PySem.intText? ⟨#[g]⟩ = some k) (hg : g ≠ 45) (b1 : 0 ≤ y) (b2 : y < 10000) (b3 : 0 ≤ w) (b4 : w < 100) (b5 : 0 ≤ k) (b6 : k < 10) : WkL ⟨#[a, b, c, d, 87, e, f, g]⟩ y w k where
  l1 := by show (7 : Nat) ≤ 8; decide
  l2 := by show (8 : Nat) ≤ 10; decide
  len := rfl
  year := hy
  b1 := by omega
  b2 := by omega
  w := (by rw [show (if (PySem.Txt.item (⟨#[a, b, c, d, 87, e, f, g]⟩ : PySem.Str) 4 == PySem.Str.ofString "-") = true then (1 : Int) else 0) = 0 from rfl]; rfl)
  week := (by rw [show (if (PySem.Txt.item (⟨#[a, b, c, d, 87, e, f, g]⟩ : PySem.Str) 4 == PySem.Str.ofString "-") = true then (1 : Int) else 0) = 0 from rfl]; exact hw)
  b3 := by omega
  b4 := by omega
  goes := by show (7 : Int) < 8; decide
  dash := (by rw [show (if (PySem.Txt.item (⟨#[a, b, c, d, 87, e, f, g]⟩ : PySem.Str) 4 == PySem.Str.ofString "-") = true then (1 : Int) else 0) = 0 from rfl]; show (((⟨#[g]⟩ : PySem.Str) == PySem.Str.ofString "-") != false) = false; rw [not_dash hg]; rfl)
  day := (by rw [show (if (PySem.Txt.item (⟨#[a, b, c, d, 87, e, f, g]⟩ : PySem.Str) 4 == PySem.Str.ofString "-") = true then (1 : Int) else 0) = 0 from rfl]; exact hk)
  b5 := by omega
  b6 := by omega
theorem wkL10 (hy : PySem.intText? ⟨#[a, b, c, d]⟩ = some y) (hw : PySem.intText? ⟨#[e, f]⟩ = some w) (hk : PySem.intText? ⟨#[g]⟩ = some k) (b1 : 0 ≤ y) (b2 : y < 10000) (b3 : 0 ≤ w) (b4 : w < 100) (b5 : 0 ≤ k) (b6 : k < 10) : WkL ⟨#[a, b, c, d, 45, 87, e, f, 45, g]⟩ y w k where
  l1 := by show (7 : Nat) ≤ 10; decide
  l2 := by show (10 : Nat) ≤ 10; decide
  len := rfl
  year := hy
  b1 := by omega
  b2 := by omega
  w := (by rw [show (if (PySem.Txt.item (⟨#[a, b, c, d, 45, 87, e, f, 45, g]⟩ : PySem.Str) 4 == PySem.Str.ofString "-") = true then (1 : Int) else 0) = 1 from rfl]; rfl)
  week := (by rw [show (if (PySem.Txt.item (⟨#[a, b, c, d, 45, 87, e, f, 45, g]⟩ : PySem.Str) 4 == PySem.Str.ofString "-") = true then (1 : Int) else 0) = 1 from rfl]; exact hw)
  b3 := by omega
  b4 := by omega
  goes := by show (8 : Int) < 10; decide
  dash := (by rw [show (if (PySem.Txt.item (⟨#[a, b, c, d, 45, 87, e, f, 45, g]⟩ : PySem.Str) 4 == PySem.Str.ofString "-") = true then (1 : Int) else 0) = 1 from rfl]; rfl)
  day := (by rw [show (if (PySem.Txt.item (⟨#[a, b, c, d, 45, 87, e, f, 45, g]⟩ : PySem.Str) 4 == PySem.Str.ofString "-") = true then (1 : Int) else 0) = 1 from rfl]; exact hk)
  b5 := by omega
  b6 := by omega
end
theorem yr_reads {y : Int} (h0 : 0 ≤ y) (h1 : y < 10000) : PySem.intText? ⟨#[dg (y.toNat / 1000), dg (y.toNat / 100), dg (y.toNat / 10), dg y.toNat]⟩ = some y :=
  read_digits (all4 y.toNat) (by simp [l4]) (by simp [l4]) (val4 (by omega)) h0
theorem wk_reads {y : Int} (h0 : 0 ≤ y) (h1 : y < 100) : PySem.intText? ⟨#[dg (y.toNat / 10), dg y.toNat]⟩ = some y :=
  read_digits (all2 y.toNat) (by simp [l2]) (by simp [l2]) (val2 (by omega)) h0
theorem dy_reads {y : Int} (h0 : 0 ≤ y) (h1 : y < 10) : PySem.intText? ⟨#[dg y.toNat]⟩ = some y :=
  read_digits (all1 y.toNat) (by simp) (by simp) (val1 (by omega)) h0
end Mine
end
section
open PySem PySem.W PyProof.Rows PySem.Spec PySem.Calls
namespace Mine
/-- what is known of the place at which a walk stands -/
structure Pl (A₀ : Around) (base : Heap) (outer : List Env) (K : Frag) (p : Program) (loose : List Str) (mean : ExcName → Option Value) (mg mb : Str → Option Value) (g : Heap) : Prop where
  below : Below A₀ base outer g
  inK : K.In g
  top : Top p loose mean mg mb g
  dicts : KtsDicts (outer.filterMap (·.frame)) g

/-- a contract of a def that catches what flies: the ground may turn -/
abbrev CtrT (prog : Program) (w : World) (K : Frag) (p : Program) (loose : List Str) (mean : ExcName → Option Value) (mg mb : Str → Option Value) (f : Addr) (d u : Nat) (vs : List Value) (pre : List (Addr × Obj) → Prop) (P : Value → List (Addr × Obj) → Prop) : Prop :=
  ∀ (dp un : Nat) (gd : Option (List Code)) (cn : Str) (cs : Scope) (a : Addr) (ccd : Value) (cl : List (Str × Addr)) (outer : List Env) (A₀ : Around) (base h₀ g₀ : Heap) (L : Addr) (m : Str → Option Value) (news : List (Addr × Obj)) (s : Shared) (Q E : Value → Shared → Prop),
    Below A₀ base outer h₀ → Fr h₀ L s.heap m → K.In h₀ → News h₀ L s.heap news → Top p loose mean mg mb h₀ → K.In base → Top p loose mean mg mb base → KtsDicts (outer.filterMap (·.frame)) h₀ → KtsTurn (outer.filterMap (·.frame)) g₀ h₀ → cs.kind = .function →
    dp + d < recursionLimit → un + u < cLine → pre news →
    (∀ (g' : Heap) (v : Value) (new : List (Addr × Obj)) (h' : Heap) (tk' : Nat), P v new → KtsTurn (outer.filterMap (·.frame)) g₀ g' → Fr g' L h' m → News g' L h' (new ++ news) → (∀ q ∈ new, ∀ p ∈ news, p.1 ≠ q.1) → Below A₀ base outer g' → K.In g' → Top p loose mean mg mb g' → KtsDicts (outer.filterMap (·.frame)) g' → Q v { s with heap := h', toks := tk' }) →
    wpAny (model prog w) (ktrTop dp un gd cn cs L a ccd cl outer) (call (.ref f) vs) Q E s

section
variable {prog : Program} {w : World} {K : Frag} {p : Program} {loose : List Str} {mean : ExcName → Option Value} {mg mb : Str → Option Value} {f : Addr} {d u : Nat} {vs : List Value}
   {dp un : Nat} {gd : Option (List Code)} {cn : Str} {cs : Scope} {a : Addr} {ccd : Value} {cl : List (Str × Addr)} {outer : List Env} {A₀ : Around} {base h₀ g₀ : Heap} {L : Addr} {m : Str → Option Value} {news : List (Addr × Obj)} {s : Shared} {Q E : Value → Shared → Prop}
theorem useT {pre : List (Addr × Obj) → Prop} {P : Value → List (Addr × Obj) → Prop} (h : CtrT prog w K p loose mean mg mb f d u vs pre P)
    (B : Below A₀ base outer h₀) (F : Fr h₀ L s.heap m) (X : K.In h₀) (N : News h₀ L s.heap news) (T : Top p loose mean mg mb h₀) (XB : K.In base) (TB : Top p loose mean mg mb base) (D : KtsDicts (outer.filterMap (·.frame)) h₀) (T0 : KtsTurn (outer.filterMap (·.frame)) g₀ h₀) (hk : cs.kind = .function)
    (hd : dp + d < recursionLimit) (hu : un + u < cLine) (hp : pre news)
    (h1 : ∀ (g' : Heap) (v : Value) (new : List (Addr × Obj)) (h' : Heap) (tk' : Nat), P v new → KtsTurn (outer.filterMap (·.frame)) g₀ g' → Fr g' L h' m → News g' L h' (new ++ news) → (∀ q ∈ new, ∀ p ∈ news, p.1 ≠ q.1) → Below A₀ base outer g' → K.In g' → Top p loose mean mg mb g' → KtsDicts (outer.filterMap (·.frame)) g' → Q v { s with heap := h', toks := tk' }) :
    wpAny (model prog w) (ktrTop dp un gd cn cs L a ccd cl outer) (call (.ref f) vs) Q E s :=
  h dp un gd cn cs a ccd cl outer A₀ base h₀ g₀ L m news s Q E B F X N T XB TB D T0 hk hd hu hp h1
end

section
variable {prog : Program} {w : World} {A₀ A : Around} {s : Shared} {base h₀ g₀ : Heap} {outer : List Env} {L : Addr} {m : Str → Option Value} {env : Env} {news : List (Addr × Obj)} {K : Frag} {p : Program} {loose : List Str} {mean : ExcName → Option Value} {mg mb : Str → Option Value}
  {R : Result → Shared → Prop} {name qual : Str} {params : Arguments} {body : List Stmt} {scope : Scope} {dV kV doc pm cdv ct oc : Value} {an od : Option Addr} {osl : Array (Option Value)} {f : Addr} {args : Args} {binds : List (Str × Value)}

theorem memF {b : Addr} (hf : env.frame = some L) (hm : b ∈ (env :: outer).filterMap (·.frame)) : b = L ∨ b ∈ outer.filterMap (·.frame) := by
  obtain ⟨e, he, hb⟩ := List.mem_filterMap.mp hm
  rcases List.mem_cons.mp he with rfl | he
  · exact .inl (Option.some.inj (hb.symm.trans hf))
  · exact .inr (List.mem_filterMap.mpr ⟨e, he, hb⟩)
theorem newTurn {fs : List Addr} {g g' h : Heap} {b : Addr} (T : KtsTurn fs g g') (k : ∀ b o, h.get? b = some o → g.get? b = some o) (e : g'.get? b = none) : h.get? b = none := by
  cases q : h.get? b with
  | none => rfl
  | some o =>
    obtain ⟨sl, hs⟩ := T.up (k b o q)
    rw [e] at hs; cases hs
/-- back in the caller, its ground turned -/
theorem backT {H : Heap} {v : Value} {s' : Shared} (B : Below A₀ base outer h₀) (F : Fr h₀ L H m) (N : News h₀ L H news) (XB : K.In base) (TB : Top p loose mean mg mb base) (D : KtsDicts (outer.filterMap (·.frame)) h₀) (T0 : KtsTurn (outer.filterMap (·.frame)) g₀ h₀) (hf : env.frame = some L)
    (hl : LeaveS ((env :: outer).filterMap (·.frame)) A₀ base outer K p loose mean mg mb g₀ h₀ L m (hideAll H (news.map (·.1))) R v s') : R (.ok (.ret v)) s' := by
  have off : ∀ b o, h₀.get? b = some o → b ∉ news.map (·.1) := fun b o e q => by
    obtain ⟨p, hp, rfl⟩ := List.mem_map.mp q
    rw [(N p hp).2.2] at e; cases e
  have up : ∀ b o, h₀.get? b = some o → (hideAll H (news.map (·.1))).get? b = some o := fun b o e => hideAll_get _ (F.keep b o e) (off b o e)
  obtain ⟨oL, es, ep, hL, hd, hk, hn⟩ := F.ns
  have hLg : (hideAll H (news.map (·.1))).get? L = some oL := hideAll_get _ hL fun q => by
    obtain ⟨p, hp, e⟩ := List.mem_map.mp q
    exact (N p hp).2.1 e
  have self := kts_self F
  rcases hl with ⟨L', m', news', F', N', k⟩ | ⟨g', L', m', news', T', F', N', k⟩
  · refine k ⟨⟨oL, es, ep, F'.keep _ _ hLg, hd, hk, hn⟩, fun b o e => F'.keep b o (up b o e), F.above⟩ fun p hp => ⟨(N' p hp).1, fun q => ?_, kts_none up (N' p hp).2.2⟩
    have := (N' p hp).2.2; rw [q, hLg] at this; cases this
  · obtain ⟨sl, hs⟩ := T'.up hLg
    obtain ⟨T₁, S₁⟩ := kts_turn_at (h := s'.heap) (fs := outer.filterMap (·.frame)) (g := h₀)
      (fun b hb => by obtain ⟨_, o, ho, _⟩ := B.frames.mem hb; exact ⟨o, ho⟩)
      (fun b o e nm => F'.keep b o (T'.other b o (up b o e) fun q => by
        rcases memF hf q with z | z
        · rw [z, self] at e; cases e
        · exact nm z))
      (fun b o e _ => by obtain ⟨sl', hs'⟩ := T'.up (up b o e); exact ⟨sl', F'.keep _ _ hs'⟩)
    have B₁ : Below A₀ base outer (ktsHeap s'.heap (outer.filterMap (·.frame)) h₀) :=
      ⟨B.stack, fun b o e => T₁.other b o (B.stays b o e) (fun hm => by rw [(B.frames.mem hm).1] at e; cases e),
        B.frames.of_keeps fun b o e _ => by obtain ⟨sl', hs'⟩ := T₁.up e; exact ⟨_, hs', rfl⟩⟩
    refine k _ (T0.trans T₁) ⟨⟨_, es, ep, F'.keep _ _ hs, hd, hk, hn⟩, S₁, by rw [T₁.size]; exact F.above⟩ (fun p hp => ⟨(N' p hp).1, fun q => ?_, T₁.none_ _ (newTurn T' up (N' p hp).2.2)⟩) B₁ (XB.keeps B₁.stays) (TB.keeps B₁.stays) (D.turn T₁)
    have := (N' p hp).2.2; rw [q, hs] at this; cases this
theorem dictsUp {H : Heap} (hf : env.frame = some L) (D : KtsDicts (outer.filterMap (·.frame)) h₀) (F : Fr h₀ L H m) (st : h₀.StaysIn H) : KtsDicts ((env :: outer).filterMap (·.frame)) H := fun b hb => by
  rcases memF hf hb with rfl | hb
  · obtain ⟨oL, es, ep, hL, hd, _⟩ := F.ns
    exact ⟨oL, es, ep, hL, hd⟩
  · obtain ⟨o, es, n, ho, hd⟩ := D b hb
    exact ⟨o, es, n, st b o ho, hd⟩
theorem enterT (B : Below A₀ base outer h₀) (F : Fr h₀ L s.heap m) (X₀ : K.In h₀) (N : News h₀ L s.heap news) (T : Top p loose mean mg mb h₀) (XB : K.In base) (TB : Top p loose mean mg mb base) (D : KtsDicts (outer.filterMap (·.frame)) h₀) (T0 : KtsTurn (outer.filterMap (·.frame)) g₀ h₀) (hA : A.frames = some (env :: outer)) (hf : env.frame = some L) (hke : env.scope.kind = .function)
    (ho : K.lookup f = some ⟨oc, od, .func (fnOf name qual params body scope dV kV doc pm an cdv ct), osl⟩) (hcd : codeIn K cdv qual = true) (hroom : A.depth < recursionLimit)
    (hbind : BindsTo s (fnOf name qual params body scope dV kV doc pm an cdv ct) args binds) (hloc : ∀ y ∈ binds, scope.names.lookup y.1 = some .local)
    (h : ∀ g L' h₁, Fr h₀ L g m → Fr g L' h₁ (fun y => binds.reverse.lookup y) → News g L' h₁ news → Below A base (env :: outer) g → K.In g → Top p loose mean mg mb g → KtsDicts ((env :: outer).filterMap (·.frame)) g →
      wpAny (model prog w) (A.deeper (envOf qual scope L' f cdv)) (execs body (envOf qual scope L' f cdv))
        (fun fl s' => LeaveS ((env :: outer).filterMap (·.frame)) A₀ base outer K p loose mean mg mb g₀ h₀ L m g R (match fl with | .ret v => v | _ => .none) s')
        (fun e s' => wpAny (model prog w) (A.deeper (envOf qual scope L' f cdv)) (leaving (envOf qual scope L' f cdv) e) (fun _ s'' => R (.error e) s'') (fun e' s'' => R (.error e') s'') s')
        { s with heap := h₁, toks := s.toks + binds.length })
    (hco : scope.isCoroutine = false) (hgen : scope.isGenerator = false) (hk : scope.kind = .function)
    (hcell : ∀ x ∈ scope.names, x.2 ≠ .cell) : codeAny (model prog w) A (.call (.ref f) args) R s := by
  obtain ⟨FG, BG, st, _⟩ := groundX (R := R) B F N hA hf hke
  refine codeAny_call_def (fd := fnOf name qual params body scope dV kV doc pm an cdv ct) (body := body) (binds := binds) hroom ((X₀.keeps F.keep) _ _ ho) rfl (T.nolimit.keeps F.keep) (codeRec_of (X₀.keeps F.keep) hcd) rfl hbind hcell hloc (fun h₁ hns hk₁ => ?_) hco hgen hk
  exact wpAny_mono (h _ s.heap.objs.size h₁ FG ⟨hns, fun b o e => hk₁ b o (of_hideAll _ e), Nat.le_of_eq (hideAll_size _ _)⟩
    (fun p hp => ⟨hk₁ _ _ (N p hp).1, Nat.ne_of_lt (Heap.lt_size (N p hp).1), hideAll_none _ (List.mem_map_of_mem hp)⟩) BG (X₀.keeps st) (T.keeps st) (dictsUp hf D FG st)) (fun fl s' hl => backT B F N XB TB D T0 hf hl) fun _ _ y => y
/-- the same for a def with cells -/
theorem enterTC (B : Below A₀ base outer h₀) (F : Fr h₀ L s.heap m) (X₀ : K.In h₀) (N : News h₀ L s.heap news) (T : Top p loose mean mg mb h₀) (XB : K.In base) (TB : Top p loose mean mg mb base) (D : KtsDicts (outer.filterMap (·.frame)) h₀) (T0 : KtsTurn (outer.filterMap (·.frame)) g₀ h₀) (hA : A.frames = some (env :: outer)) (hf : env.frame = some L) (hke : env.scope.kind = .function)
    (ho : K.lookup f = some ⟨oc, od, .func (fnOf name qual params body scope dV kV doc pm an cdv ct), osl⟩) (hcd : codeIn K cdv qual = true) (hroom : A.depth < recursionLimit)
    (hbind : BindsTo s (fnOf name qual params body scope dV kV doc pm an cdv ct) args binds) (hkind : (binds.all fun y => scope.names.lookup y.1 == some .local || scope.names.lookup y.1 == some .cell) = true)
    (hnd : ((cellsFrom 0 scope.names []).map (·.1)).Nodup)
    (h : ∀ g L' h₁ tk cells, Fr h₀ L g m → Fr g L' h₁ (bindL (envOfC qual scope L' f cdv).kindOf binds fun _ => none) → News g L' h₁ (cells ++ news) →
      CellsAre (bindC (envOfC qual scope L' f cdv).kindOf binds fun _ => none) (cellsFrom (L' + 1) scope.names []) cells → Below A base (env :: outer) g → K.In g → Top p loose mean mg mb g → KtsDicts ((env :: outer).filterMap (·.frame)) g → (∀ p ∈ news, p.1 < L') →
      wpAny (model prog w) (A.deeper (envOfC qual scope L' f cdv)) (execs body (envOfC qual scope L' f cdv))
        (fun fl s' => LeaveS ((env :: outer).filterMap (·.frame)) A₀ base outer K p loose mean mg mb g₀ h₀ L m g R (match fl with | .ret v => v | _ => .none) s')
        (fun e s' => wpAny (model prog w) (A.deeper (envOfC qual scope L' f cdv)) (leaving (envOfC qual scope L' f cdv) e) (fun _ s'' => R (.error e) s'') (fun e' s'' => R (.error e') s'') s')
        { s with heap := h₁, toks := tk })
    (hco : scope.isCoroutine = false) (hgen : scope.isGenerator = false) (hk : scope.kind = .function) : codeAny (model prog w) A (.call (.ref f) args) R s := by
  obtain ⟨FG, BG, st, _⟩ := groundX (R := R) B F N hA hf hke
  refine codeAny_call_function hroom ((X₀.keeps F.keep) _ _ ho) rfl hco hgen rfl (codeRec_of (X₀.keeps F.keep) hcd) (hbind _ _ _ _ ?_)
  refine wpAny_newFunctionEnv_cells hk (kindsX hkind _) fun env' he s' x => ?_
  subst he
  refine ⟨(T.nolimit.keeps F.keep).keeps x.toInCall.keep, codeAny_func ?_⟩
  obtain ⟨h₁, tk, rfl, _⟩ := x.done
  have up := x.toInCall.keep
  have hnd' := cellsFrom_names scope.names 0 (s.heap.objs.size + 1) [] [] rfl ▸ hnd
  obtain ⟨cells, NC, Y⟩ := Cl.news (h₀ := s.heap) (Nat.le_refl _) fun n c hm => ⟨x.cell n c (lookup_of_mem_nodup hnd' hm), x.above n c hm⟩
  refine wpAny_mono (h _ s.heap.objs.size h₁ tk cells FG ⟨x.toInCall.ns, fun b o e => up b o (of_hideAll _ e), Nat.le_of_eq (hideAll_size _ _)⟩ (fun p hp => ?_) Y BG (X₀.keeps st) (T.keeps st) (dictsUp hf D FG st) (fun p hp => Heap.lt_size (N p hp).1)) (fun fl s' hl => backT B F N XB TB D T0 hf hl) fun _ _ y => y
  rcases List.mem_append.mp hp with hp | hp
  · refine ⟨(NC p hp).1, (NC p hp).2.1, kts_none (fun b o e => of_hideAll _ e) (NC p hp).2.2⟩
  · exact ⟨up _ _ (N p hp).1, Nat.ne_of_lt (Heap.lt_size (N p hp).1), hideAll_none _ (List.mem_map_of_mem hp)⟩
end
/-- an end of such a contract -/
theorem endT {A₀ : Around} {base g₀ g' h' : Heap} {outer : List Env} {K : Frag} {p : Program} {loose : List Str} {mean : ExcName → Option Value} {mg mb : Str → Option Value} {L : Addr} {m : Str → Option Value} {news news' : List (Addr × Obj)} {s : Shared} {Q : Value → Shared → Prop} {P : Value → List (Addr × Obj) → Prop} {v : Value} {tk' : Nat}
    (hret : ∀ (g' : Heap) (v : Value) (new : List (Addr × Obj)) (h' : Heap) (tk' : Nat), P v new → KtsTurn (outer.filterMap (·.frame)) g₀ g' → Fr g' L h' m → News g' L h' (new ++ news) → (∀ q ∈ new, ∀ p ∈ news, p.1 ≠ q.1) → Below A₀ base outer g' → K.In g' → Top p loose mean mg mb g' → KtsDicts (outer.filterMap (·.frame)) g' → Q v { s with heap := h', toks := tk' })
    (new : List (Addr × Obj)) (e : P v new) (T : KtsTurn (outer.filterMap (·.frame)) g₀ g') (F : Fr g' L h' m) (N : News g' L h' news') (hs : ∀ p ∈ new ++ news, p ∈ news') (hl : ∀ q ∈ new, ∀ p ∈ news, p.1 ≠ q.1) (B : Below A₀ base outer g') (X : K.In g') (T' : Top p loose mean mg mb g') (D : KtsDicts (outer.filterMap (·.frame)) g') : Q v { s with heap := h', toks := tk' } :=
  hret g' v new h' tk' e T F (cb_drop N hs) hl B X T' D
section
variable {prog : Program} {w : World} {A₀ : Around} {E : Value → Shared → Prop} {s' : Shared} {base g g₀ G : Heap} {outer : List Env} {L a e t : Addr} {m : Str → Option Value} {name : Str} {scope : Scope} {cd : Value}
  {vs : List Value} {n : Str} {b₀ : Stmt} {suite : List Stmt} {pos np : Pos} {rest : List ExceptHandler} {Q : Flow → Shared → Prop} {news : List (Addr × Obj)} {KF : Frag}
  {p : Program} {loose : List Str} {mean : ExcName → Option Value} {mg mb : Str → Option Value}
/-- what was caught: its texts lie in the ledger, behind all that was made before -/
def Caught (vs : List Value) (o : Obj) : Prop := o.cls = .type "tuple" ∧ ∃ n, o.data = .seq vs.toArray n
theorem caughtV (R : RaisedS base G (envOf name scope L a cd :: outer) e (.type "ValueError") t vs news s'.heap) (F : Fr g L G m) (K : Below A₀ base outer g) (hsm : G.UpToSlots s'.heap) (XB : KF.In base) (TB : Top p loose mean mg mb base)
    (D : KtsDicts (outer.filterMap (·.frame)) g) (T0 : KtsTurn (outer.filterMap (·.frame)) g₀ g)
    (ex : nsIn KF mainGlobals "ValueError" = some none) (hv : bootBuiltins "ValueError" = some (.type "ValueError")) (hn' : ("ValueError" : Str) ≠ "__name__")
    (hexc : isSubtype (.type "ValueError") (.type "BaseException") = pure true) (hnt : isSubtype (.type ((Manifest.find? "ValueError").elim "type" fun y => y.metatype)) (.type "tuple") = pure false) (hsub : isSubtype (.type "ValueError") (.type "ValueError") = pure true)
    (k : ∀ h' g' news₂ ot tk, KtsTurn (outer.filterMap (·.frame)) g₀ g' → Fr g' L h' (fun y => if y = n then some (.ref e) else m y) → News g' L h' news₂ → Got news₂ e t (.type "ValueError") vs → Caught vs ot → News g' L h' ((t, ot) :: news) → (∀ q ∈ news, q.1 ≠ t) → Below A₀ base outer g' → KF.In g' → Top p loose mean mg mb g' → KtsDicts (outer.filterMap (·.frame)) g' →
      wpAny (model prog w) ((A₀.deeper (envOf name scope L a cd)).mark (some (.ref e))) (execs (b₀ :: suite) (envOf name scope L a cd))
        (fun f s₄ => wpAny (model prog w) (A₀.deeper (envOf name scope L a cd)) (do bindName (envOf name scope L a cd) n .none; unbindBehindTheSuite (envOf name scope L a cd) n pos) (fun _ s₅ => Q f s₅) E s₄)
        (AsSuiteRaised (model prog w) ((A₀.deeper (envOf name scope L a cd)).mark (some (.ref e))) (envOf name scope L a cd) n pos (notedBy (model prog w) ((A₀.deeper (envOf name scope L a cd)).mark (some (.ref e))) (envOf name scope L a cd) (cameBackBy (model prog w) (A₀.deeper (envOf name scope L a cd)) (envOf name scope L a cd) E)))
        { s' with heap := h', toks := tk })
    (hk : scope.kind = .function := by rfl) (hlo : (envOf name scope L a cd).kindOf n = some .local := by rfl) (hx : (envOf name scope L a cd).kindOf "ValueError" = some .globalImplicit := by rfl) (hd : (("ValueError" : Str) == ("__debug__" : Str)) = false := by decide) :
    wpAny (model prog w) (A₀.deeper (envOf name scope L a cd)) (noteFrame (.ref e) (envOf name scope L a cd))
      (fun _ s₂ => wpAny (model prog w) (A₀.deeper (envOf name scope L a cd)) (setFlight (.ref e) none) (fun _ s₃ =>
        wpAny (model prog w) (A₀.deeper (envOf name scope L a cd)) (handleBy (.ref e) (envOf name scope L a cd) (.ExceptHandler (some (.Name "ValueError" np)) (some n) (b₀ :: suite) pos :: rest)) Q E s₃) E s₂) E s' :=
  caught_SB R F K hsm XB TB D T0 ex hv hn' hexc hnt hsub (fun h' g' news₂ tk T' F' N₂ G' N' K' X' P' D' => by
    obtain ⟨oe, ot, ws, nt, h1, h2, h3, h4, h5, h6, h7⟩ := id G'
    have hlt : ∀ q ∈ news, q.1 ≠ t := fun q hq e => by
      obtain ⟨⟨B, hB, hBG, hl, hfl, hnew⟩, htup⟩ := R
      have := (hl q hq).1
      rw [e, hnew] at this; cases this
    refine k h' g' news₂ ot tk T' F' N₂ G' ⟨h6, nt, h7⟩ (fun q hq => ?_) hlt K' X' P' D'
    rcases List.mem_cons.mp hq with rfl | hq
    · exact N₂ _ h2
    · exact N' q hq) hk hlo hx hd
end
theorem off1 {news : List (Addr × Obj)} {l : Addr} {o : Obj} (h : ∀ p ∈ news, p.1 ≠ l) : ∀ q ∈ [(l, o)], ∀ p ∈ news, p.1 ≠ q.1 := fun q hq p hp => by
  rw [List.mem_singleton.mp hq]; exact h p hp
theorem off1' {news : List (Addr × Obj)} {l : Addr} {o : Obj} (h : ∀ p ∈ news, p.1 < l) : ∀ q ∈ [(l, o)], ∀ p ∈ news, p.1 ≠ q.1 := fun q hq p hp => by
  rw [List.mem_singleton.mp hq]; exact Nat.ne_of_lt (h p hp)
end Mine
end
section
open PySem PySem.W PyProof.Rows PySem.Spec PySem.Calls PyProof.Rows.LCg
namespace Mine
/-- the end of a turn of a block: the ground may have turned, the ledger grown -/
def TurnEnd (Wd : Heap → Prop) (L : Addr) (m : Str → Option Value) (s₁ : Shared) (I : Addr) (oI : Obj) (C : Addr) (oC : Obj) (D : Addr) (oD : Obj) (news₀ : List (Addr × Obj)) (J : List (Addr × Obj) → Prop) (s₂ : Shared) : Prop :=
  ∃ g h' tk tl, s₂ = { s₁ with heap := h', toks := tk } ∧ Wd g ∧ Fr g L h' m ∧ News g L h' ((I, oI) :: (C, oC) :: (D, oD) :: (news₀ ++ tl)) ∧ Off3 I C D (news₀ ++ tl) ∧ J tl
theorem TurnEnd.intro {Wd : Heap → Prop} {L : Addr} {m : Str → Option Value} {s₁ : Shared} {I C D : Addr} {oI oC oD : Obj} {news₀ all : List (Addr × Obj)} {J : List (Addr × Obj) → Prop} {g h' : Heap} {tk : Nat} (tl : List (Addr × Obj))
    (W : Wd g) (F : Fr g L h' m) (N : News g L h' all) (hs : ∀ p ∈ (I, oI) :: (C, oC) :: (D, oD) :: (news₀ ++ tl), p ∈ all) (ho : Off3 I C D (news₀ ++ tl)) (hJ : J tl) : TurnEnd Wd L m s₁ I oI C oC D oD news₀ J { s₁ with heap := h', toks := tk } :=
  ⟨g, h', tk, tl, rfl, W, F, fun p hp => N p (hs p hp), ho, hJ⟩
section
variable {prog : Program} {w : World} {A : Around} {E : Value → Shared → Prop} {s : Shared} {L : Addr} {m : Str → Option Value} {env : Env}
theorem compT_block {elt target iter c : Expr} {scope : Scope} {cl : List (Str × Addr)} {pos : Pos} {s₂ : Shared} {I : Addr} {fp : List Addr} {n : Nat} {P : Nat → Value → Prop} {St : Nat → Heap → Prop} {Wd : Heap → Prop} {g₁ : Heap} {news₀ : List (Addr × Obj)}
    {J : Nat → List Value → List (Addr × Obj) → Prop} {Good : Value → (Str → Option Value) → Prop} {RR : Value → Addr → Result → Shared → Prop}
    (W : Walks prog w A I fp [I] n P St) (hsz : n ≤ sizeLine) (hIo : ∀ i h, St i h → ∃ o, h.get? I = some o)
    (hSt : ∀ i h h' o, St i h → h.get? I = some o → h'.get? I = some o → (∀ q ∈ news₀, h'.get? q.1 = some q.2) → St i h')
    (hgo : ∀ i v s Q E, St i s.heap → (∃ j, P j v) → Q () s → wpAny (model prog w) A (letOwnedTupleGo target (.ref I) v) Q E s)
    (hasg : ∀ i v s Q E m' C, P i v → (∀ q ∈ news₀, s.heap.get? q.1 = some q.2) → s.heap.Ns C m' → (∀ h' tk' m'', Good v m'' → h'.Ns C m'' → (∀ b o, b ≠ C → s.heap.get? b = some o → h'.get? b = some o) → Q () { s with heap := h', toks := tk' }) →
      wpAny (model prog w) A (assign target (compEnvC scope cl C env) v) Q E s)
    (hcell : ∀ y ∈ scope.names, y.2 ≠ .cell) (hkind : scope.kind = .function) (hst : St 0 s₂.heap) (hfp : ∀ b ∈ fp, b < s₂.heap.objs.size)
    (hW : Wd g₁) (F : Fr g₁ L s₂.heap m) (N : News g₁ L s₂.heap news₀) (hIL : L ≠ I) (hI₀ : g₁.get? I = none) (off : ∀ p ∈ news₀, p.1 ≠ I)
    (hJ : J 0 [] [])
    (turn : ∀ i v I oI C oC D m₂ ys tl g h tk (E' : Value → Shared → Prop), i < n → P i v → Good v m₂ → NsObj oC m₂ → Wd g → Fr g L h m → News g L h ((I, oI) :: (C, oC) :: (D, lst ys) :: (news₀ ++ tl)) → Off3 I C D (news₀ ++ tl) → ((@Ne Nat I C) ∧ (@Ne Nat I D) ∧ (@Ne Nat C D)) → J i ys tl →
      wpAny (model prog w) A (isTrue c (compEnvC scope cl C env) (eval c (compEnvC scope cl C env))) (fun ok s₃ => if ok = true then
        wpAny (model prog w) A (eval elt (compEnvC scope cl C env)) (fun y s₄ => TurnEnd Wd L m { s₂ with heap := h, toks := tk } I oI C oC D (lst ys) news₀ (J (i + 1) (ys ++ [y])) s₄) E' s₃
        else TurnEnd Wd L m { s₂ with heap := h, toks := tk } I oI C oC D (lst ys) news₀ (J (i + 1) ys) s₃) E' { s₂ with heap := h, toks := tk })
    (hRR : ∀ D C g h tk m' ys tl, Wd g → Fr g L h m → News g L h ((D, lst ys) :: (news₀ ++ tl)) → h.Ns C m' → g.get? C = none → C ≠ L → C ≠ D → (∀ p ∈ news₀ ++ tl, p.1 ≠ C) → (∀ p ∈ news₀ ++ tl, p.1 ≠ D) → J n ys tl → RR (.ref D) C (.ok .next) { s₂ with heap := h, toks := tk }) :
    wpAny (model prog w) A (newList []) (fun acc s₃ => wpAny (model prog w) A (newFunctionEnv scope env.globals cl [] env.qual none .none (some env)) (fun cenv s₄ =>
      codeAny (model prog w) A (.compStart (.ListComp elt [⟨target, iter, [c], 0⟩] scope pos) 0 (.ref I) acc { cenv with scope := relabel scope env }) (RR acc cenv.locals) s₄) E s₃) E s₂ := by
  refine wpAny_newObj_type (wpAny_newFunctionEnv hcell (by intro y hy; simp at hy) (fun h₁ hns₁ hsb₁ => ?_) hkind)
  dsimp only at hns₁ hsb₁ ⊢
  generalize hH2 : s₂.heap.push { cls := .type "list", dict := none, data := .seq ([] : List Value).toArray } = H2 at hns₁ hsb₁ ⊢
  have hC : H2.objs.size = s₂.heap.objs.size + 1 := by rw [← hH2, Heap.size_push]
  generalize hCe : H2.objs.size = C at *
  generalize hDe : s₂.heap.objs.size = D at *
  have hCD : C ≠ D := by rw [hC]; exact Nat.ne_of_gt (Nat.lt_succ_self _)
  have low : ∀ b, b < D → b ≠ C ∧ b ≠ D := fun b hb => ⟨by rw [hC]; exact Nat.ne_of_lt (Nat.lt_succ_of_lt hb), Nat.ne_of_lt hb⟩
  have lowH : ∀ {b o}, s₂.heap.get? b = some o → b < D := fun e => hDe ▸ Heap.lt_size e
  have hIf : I ∈ fp := W.sub I (List.mem_singleton.mpr rfl)
  have hI := low I (hfp I hIf)
  have hL := low L (by have := F.ns.lt; rw [hDe] at this; exact this)
  have old : ∀ b o, s₂.heap.get? b = some o → h₁.get? b = some o := fun b o e => hsb₁.extBut b o (low b (lowH e)).1 (Heap.get?_push_of_some _ (hH2 ▸ Heap.get?_push_of_some _ e))
  have hacc : h₁.get? D = some (lst []) := hsb₁.extBut _ _ (Ne.symm hCD) (Heap.get?_push_of_some _ (by rw [← hH2, ← hDe]; exact Heap.get?_push_size _ rfl))
  have new₀ : ∀ a, D ≤ a → g₁.get? a = none := fun a ha => by
    cases e : g₁.get? a with
    | none => rfl
    | some o => exact absurd (lowH (F.keep a o e)) (Nat.not_lt.mpr ha)
  have hstep : ∀ s₃ : Shared, s₃ = { s₂ with heap := h₁, toks := s₂.toks + ([] : List (Str × Value)).length } →
      codeAny (model prog w) A (.compLoop (.ListComp elt [⟨target, iter, [c], 0⟩] scope pos) 0 (.ref I) (.ref D) (compEnvC scope cl C env)) (RR (.ref D) C) s₃ := by
    rintro s₃ rfl
    refine kct_loop
      (fun k s' => ∃ g h' tk i ys m' tl, s' = { s₂ with heap := h', toks := tk } ∧ i ≤ n ∧ k = n + 1 - i ∧ ys.length ≤ i ∧ St i h' ∧ Wd g ∧ Fr g L h' m ∧ h'.Ns C m' ∧ g.get? I = none ∧ g.get? C = none ∧ News g L h' ((D, lst ys) :: (news₀ ++ tl)) ∧ Off3 I C D (news₀ ++ tl) ∧ J i ys tl) ?_ (n + 1)
      ⟨g₁, h₁, _, 0, [], _, [], rfl, Nat.zero_le _, rfl, Nat.le_refl _, W.frame _ _ _ hst fun b _ o e => old b o e, hW, F.keeps old, hns₁, hI₀, new₀ C (by rw [hC]; exact Nat.le_succ _), fun p hp => ?_, Off3.of fun p hp => ⟨off p (by simpa using hp), low _ (lowH (N p (by simpa using hp)).1)⟩, hJ⟩
    · rintro k s' ⟨g, h', tk, i, ys, m', tl, rfl, hi, rfl, hyl, hst', hw', F', hn', gI, gC, N', off', hJ'⟩
      have off3 := off'.mem
      by_cases hlt : i < n
      · refine W.item i _ _ _ hlt hst' fun v h₂ tk₂ hPv hst₂ hk₂ => ?_
        have up₂ : ∀ b o, b ≠ I → h'.get? b = some o → h₂.get? b = some o := fun b o hb e => hk₂ b o (by simpa using hb) e
        refine hgo _ v _ _ _ hst₂ ⟨i, hPv⟩ ?_
        refine hasg i v _ _ _ m' C hPv (fun q hq => up₂ _ _ (off3 q (List.mem_append_left _ hq)).1 (N' q (List.mem_cons_of_mem _ (List.mem_append_left _ hq))).1) (hn'.at' fun o e => up₂ _ o (Ne.symm hI.1) e) fun h₃ tk₃ m₃ hG hn₃ up₃ => ?_
        have up : ∀ b o, b ≠ I → b ≠ C → h'.get? b = some o → h₃.get? b = some o := fun b o h1 h2 e => up₃ b o h2 (up₂ b o h1 e)
        have hCf : C ∉ fp := fun hm => (low C (hfp C hm)).1 rfl
        have hst₃ : St (i + 1) h₃ := W.frame _ _ _ hst₂ fun b hb o e => up₃ b o (fun q => hCf (q ▸ hb)) e
        obtain ⟨oI, heI⟩ := hIo _ _ hst₃
        obtain ⟨oC, heC, hoC⟩ := ns_obj hn₃
        have F₃ : Fr g L h₃ m := ⟨F'.ns.at' fun o e => up _ o hIL hL.1 e, fun b o e => up b o (fun q => by rw [q, gI] at e; cases e) (fun q => by rw [q, gC] at e; cases e) (F'.keep b o e), F'.above⟩
        have N₃ : News g L h₃ ((I, oI) :: (C, oC) :: (D, lst ys) :: (news₀ ++ tl)) := fun p hp => by
          rcases List.mem_cons.mp hp with rfl | hp
          · exact ⟨heI, Ne.symm hIL, gI⟩
          · rcases List.mem_cons.mp hp with rfl | hp
            · exact ⟨heC, Ne.symm hL.1, gC⟩
            · have z := N' p hp
              rcases List.mem_cons.mp hp with rfl | hp
              · exact ⟨up _ _ (Ne.symm hI.2) (Ne.symm hCD) z.1, z.2⟩
              · exact ⟨up _ _ (off3 p hp).1 (off3 p hp).2.1 z.1, z.2⟩
        have fin : ∀ (ys' : List Value) (g₅ h₅ : Heap) (tk₅ : Nat) (tl₅ : List (Addr × Obj)), ys'.length ≤ i + 1 → Wd g₅ → Fr g₅ L h₅ m → News g₅ L h₅ ((I, oI) :: (C, oC) :: (D, lst ys') :: (news₀ ++ tl₅)) → Off3 I C D (news₀ ++ tl₅) → J (i + 1) ys' tl₅ →
            ∃ k', k' < n + 1 - i ∧ ∃ g h' tk i ys m' tl, ({ s₂ with heap := h₅, toks := tk₅ } : Shared) = { s₂ with heap := h', toks := tk } ∧ i ≤ n ∧ k' = n + 1 - i ∧ ys.length ≤ i ∧ St i h' ∧ Wd g ∧ Fr g L h' m ∧ h'.Ns C m' ∧ g.get? I = none ∧ g.get? C = none ∧ News g L h' ((D, lst ys) :: (news₀ ++ tl)) ∧ Off3 I C D (news₀ ++ tl) ∧ J i ys tl := by
          intro ys' g₅ h₅ tk₅ tl₅ hl hw₅ F₅ N₅ off₅ hJ₅
          have zI := N₅ (I, oI) List.mem_cons_self
          have zC := N₅ (C, oC) (List.mem_cons_of_mem _ List.mem_cons_self)
          have N₅' : News g₅ L h₅ ((D, lst ys') :: (news₀ ++ tl₅)) := fun q hq => N₅ q (List.mem_cons_of_mem _ (List.mem_cons_of_mem _ hq))
          exact ⟨n + 1 - (i + 1), by omega, g₅, h₅, tk₅, i + 1, ys', _, tl₅, rfl, hlt, rfl, hl, hSt _ _ _ _ hst₃ heI zI.1 (fun q hq => (N₅' q (List.mem_cons_of_mem _ (List.mem_append_left _ hq))).1), hw₅, F₅, hoC.ns zC.1, zI.2.2, zC.2.2, N₅', off₅, hJ₅⟩
        refine wpAny_mono (turn i v I oI C oC D _ ys tl g h₃ _ _ hlt hPv hG hoC hw' F₃ N₃ off' ⟨hI.1, hI.2, hCD⟩ hJ') (fun ok s₅ h₅ => ?_) fun _ _ e => e
        cases ok with
        | false =>
          simp only [Bool.false_eq_true, if_false] at h₅ ⊢
          obtain ⟨g₅, h₅, tk₅, tl₅, rfl, hw₅, F₅, N₅, off₅, hJ₅⟩ := h₅
          exact fin ys g₅ h₅ tk₅ tl₅ (Nat.le_succ_of_le hyl) hw₅ F₅ N₅ off₅ hJ₅
        | true =>
          simp only [if_true] at h₅ ⊢
          refine wpAny_mono h₅ (fun y s₆ h₆ => ?_) fun _ _ e => e
          obtain ⟨g₅, h₅, tk₅, tl₅, rfl, hw₅, F₅, N₅, off₅, hJ₅⟩ := h₆
          have zI := N₅ (I, oI) List.mem_cons_self
          have zC := N₅ (C, oC) (List.mem_cons_of_mem _ List.mem_cons_self)
          have zD := N₅ (D, lst ys) (List.mem_cons_of_mem _ (List.mem_cons_of_mem _ List.mem_cons_self))
          have off5 := off₅.mem
          refine append_at (hsz := by show ys.toArray.size ≤ sizeLine; rw [List.size_toArray]; exact Nat.le_trans hyl (Nat.le_trans hi hsz)) zD.1 fun h₆ hs₆ hD₆ => ?_
          refine fin (ys ++ [y]) g₅ h₆ _ tl₅ (by rw [List.length_append, List.length_singleton]; exact Nat.succ_le_succ hyl) hw₅ (F₅.change hs₆ zD.2.1 zD.2.2) (fun q hq => ?_) off₅ hJ₅
          rcases List.mem_cons.mp hq with rfl | hq
          · exact ⟨hs₆.extBut _ _ hI.2 zI.1, zI.2⟩
          rcases List.mem_cons.mp hq with rfl | hq
          · exact ⟨hs₆.extBut _ _ hCD zC.1, zC.2⟩
          rcases List.mem_cons.mp hq with rfl | hq
          · exact ⟨hD₆.trans (congrArg some (lst_snoc ys y)), zD.2⟩
          · have z := N₅ q (List.mem_cons_of_mem _ (List.mem_cons_of_mem _ (List.mem_cons_of_mem _ hq)))
            exact ⟨hs₆.extBut _ _ (off5 q hq).2.2 z.1, z.2⟩
      · obtain rfl : i = n := Nat.le_antisymm hi (Nat.not_lt.mp hlt)
        refine W.done _ _ _ hst' fun h₂ tk₂ hk₂ => ?_
        have up₂ : ∀ b o, b ≠ I → h'.get? b = some o → h₂.get? b = some o := fun b o hb e => hk₂ b o (by simpa using hb) e
        refine hRR D C g h₂ tk₂ m' ys tl hw' ⟨F'.ns.at' fun o e => up₂ _ o hIL e, fun b o e => up₂ b o (fun q => by rw [q, gI] at e; cases e) (F'.keep b o e), F'.above⟩ (fun p hp => ?_) (hn'.at' fun o e => up₂ _ o (Ne.symm hI.1) e) gC (Ne.symm hL.1) hCD (fun p hp => (off3 p hp).2.1) (fun p hp => (off3 p hp).2.2) hJ'
        have z := N' p hp
        rcases List.mem_cons.mp hp with rfl | hp
        · exact ⟨up₂ _ _ (Ne.symm hI.2) z.1, z.2⟩
        · exact ⟨up₂ _ _ (off3 p hp).1 z.1, z.2⟩
    · rcases List.mem_cons.mp hp with rfl | hp
      · exact ⟨hacc, Ne.symm hL.2, new₀ D (Nat.le_refl _)⟩
      · rw [List.append_nil] at hp
        exact ⟨old _ _ (N p hp).1, (N p hp).2⟩
  exact codeAny_compStart_list (hstep _ rfl) (W.self 0 _ _ _ (W.frame _ _ _ hst fun b _ o e => old b o e) (hstep _ rfl))

def AllHas {α : Type} (Has : List (Addr × Obj) → Value → α → Prop) (tl : List (Addr × Obj)) (ys : List Value) (xs : List α) : Prop := ys.length = xs.length ∧ ∀ (i : Nat) (x : α), xs[i]? = some x → ∃ v, ys[i]? = some v ∧ Has tl v x
theorem AllHas.nil {α : Type} {Has : List (Addr × Obj) → Value → α → Prop} {tl : List (Addr × Obj)} : AllHas Has tl [] [] := ⟨rfl, fun i x e => by simp at e⟩
theorem AllHas.more {α : Type} {Has : List (Addr × Obj) → Value → α → Prop} {tl tl' : List (Addr × Obj)} {ys : List Value} {xs : List α} (mono : ∀ v x, Has tl v x → Has tl' v x) (h : AllHas Has tl ys xs) : AllHas Has tl' ys xs :=
  ⟨h.1, fun i x e => let ⟨v, e', hv⟩ := h.2 i x e; ⟨v, e', mono v x hv⟩⟩
theorem AllHas.append {α : Type} {Has : List (Addr × Obj) → Value → α → Prop} {tl : List (Addr × Obj)} {ys ys' : List Value} {xs xs' : List α} (h : AllHas Has tl ys xs) (h' : AllHas Has tl ys' xs') : AllHas Has tl (ys ++ ys') (xs ++ xs') := by
  refine ⟨by rw [List.length_append, List.length_append, h.1, h'.1], fun i x e => ?_⟩
  by_cases hi : i < xs.length
  · rw [List.getElem?_append_left hi] at e
    rw [List.getElem?_append_left (by rw [h.1]; exact hi)]
    exact h.2 i x e
  · rw [List.getElem?_append_right (Nat.not_lt.mp hi)] at e
    rw [List.getElem?_append_right (by rw [h.1]; exact Nat.not_lt.mp hi), h.1]
    exact h'.2 _ x e
theorem AllHas.one {α : Type} {Has : List (Addr × Obj) → Value → α → Prop} {tl : List (Addr × Obj)} {v : Value} {x : α} (h : Has tl v x) : AllHas Has tl [v] [x] :=
  ⟨rfl, fun i y e => by
    cases i with
    | zero => simp at e; subst e; exact ⟨v, rfl, h⟩
    | succ i => simp at e⟩
/-- what a turn yields: taken or left -/
def Yields {α : Type} (Has : List (Addr × Obj) → Value → α → Prop) (q : α → Bool) (x : α) (tl : List (Addr × Obj)) (y : Value) (tl' : List (Addr × Obj)) : Prop := q x = true ∧ Has tl' y x ∧ ∀ e ∈ tl, e ∈ tl'
def Leaves {α : Type} (q : α → Bool) (x : α) (tl tl' : List (Addr × Obj)) : Prop := q x = false ∧ ∀ e ∈ tl, e ∈ tl'

section
variable {α : Type} {Has : List (Addr × Obj) → Value → α → Prop} {q : α → Bool} {xs : List α}
theorem fJ0 : AllHas Has [] [] ((xs.take 0).filter q) := by simpa using AllHas.nil
theorem fJt {i : Nat} {x : α} {tl tl' : List (Addr × Obj)} {ys : List Value} {y : Value} (mono : ∀ tl tl' v x, (∀ e ∈ tl, e ∈ tl') → Has tl v x → Has tl' v x) (hx : xs[i]? = some x) (h : AllHas Has tl ys ((xs.take i).filter q)) (h' : Yields Has q x tl y tl') : AllHas Has tl' (ys ++ [y]) ((xs.take (i + 1)).filter q) := by
  obtain ⟨h1, h2, h3⟩ := h'
  rw [List.take_add_one, hx, List.filter_append]
  simp only [Option.toList_some, List.filter_cons, h1, if_true, List.filter_nil]
  exact AllHas.append (h.more fun v x => mono _ _ v x h3) (AllHas.one h2)
theorem fJf {i : Nat} {x : α} {tl tl' : List (Addr × Obj)} {ys : List Value} (mono : ∀ tl tl' v x, (∀ e ∈ tl, e ∈ tl') → Has tl v x → Has tl' v x) (hx : xs[i]? = some x) (h : AllHas Has tl ys ((xs.take i).filter q)) (h' : Leaves q x tl tl') : AllHas Has tl' ys ((xs.take (i + 1)).filter q) := by
  obtain ⟨h1, h3⟩ := h'
  rw [List.take_add_one, hx, List.filter_append]
  simp only [Option.toList_some, List.filter_cons, h1, List.filter_nil, List.append_nil, Bool.false_eq_true, if_false]
  exact h.more fun v x => mono _ _ v x h3
end
theorem TurnEnd.mono {Wd : Heap → Prop} {L : Addr} {m : Str → Option Value} {s₁ s₂ : Shared} {I C D : Addr} {oI oC oD : Obj} {news₀ : List (Addr × Obj)} {J J' : List (Addr × Obj) → Prop} (h : TurnEnd Wd L m s₁ I oI C oC D oD news₀ J s₂) (hJ : ∀ tl, J tl → J' tl) : TurnEnd Wd L m s₁ I oI C oC D oD news₀ J' s₂ :=
  let ⟨g, h', tk, tl, e, a, b, c, d, j⟩ := h; ⟨g, h', tk, tl, e, a, b, c, d, hJ tl j⟩

/-- two ints in a tuple -/
abbrev tup2 (a b : Int) (t u : Tok) : Obj := { cls := .type "tuple", data := .seq #[.int a t, .int b u] }
def PairIn (tl : List (Addr × Obj)) (v : Value) (p : Int × Int) : Prop := ∃ a t u, v = .ref a ∧ (a, tup2 p.1 p.2 t u) ∈ tl
theorem PairIn.mono (tl tl' : List (Addr × Obj)) (v : Value) (p : Int × Int) (hs : ∀ e ∈ tl, e ∈ tl') (h : PairIn tl v p) : PairIn tl' v p := let ⟨a, t, u, e, hm⟩ := h; ⟨a, t, u, e, hs _ hm⟩

theorem assign_pair {x x₂ : Str} {px px₂ tp : Pos} {tk} {scope : Scope} {cl : List (Str × Addr)} {C : Addr} {s : Shared} {Q : Unit → Shared → Prop} {m' : Str → Option Value} {a : Addr} {v₁ v₂ : Value} {o : Obj} {nt : Nat} (hh : A.handled = none)
    (hkind : scope.kind = .function) (hx : scope.names.lookup x = some .local) (hx₂ : scope.names.lookup x₂ = some .local) (hxx : x ≠ x₂) (ho : s.heap.get? a = some o) (hc : o.cls = .type "tuple") (hd : o.data = .seq #[v₁, v₂] nt) (hn : s.heap.Ns C m')
    (k : ∀ h' tk' m'', m'' x = some v₁ → m'' x₂ = some v₂ → h'.Ns C m'' → (∀ b o, b ≠ C → s.heap.get? b = some o → h'.get? b = some o) → Q () { s with heap := h', toks := tk' }) :
    wpAny (model prog w) A (assign (.Tuple [.Name x px, .Name x₂ px₂] tk tp) (compEnvC scope cl C env) (.ref a)) Q E s := by
  refine assign_Tuple_tuple (items := #[v₁, v₂]) hh ⟨o, ho, hc, nt, hd⟩ rfl rfl fun h₅ he => ?_
  have up : ∀ b o, s.heap.get? b = some o → h₅.get? b = some o := fun b o e => he b o (Nat.ne_of_lt (Heap.lt_size e)) e
  refine assignInOrder_cons (wpAny_assign_Name (wpAny_storeName_local (lookup_relabel_local hx) (hn.at' fun o e => up _ o e) (fun h₆ hn₆ hs₆ => ?_) (by simp [compEnvC, relabel, hkind])))
  refine assignInOrder_cons (wpAny_assign_Name (wpAny_storeName_local (lookup_relabel_local hx₂) hn₆ (fun h₃ hn₃ hs₃ => ?_) (by simp [compEnvC, relabel, hkind])))
  refine assignInOrder_nil ?_
  exact k h₃ _ _ (by simp [hxx]) (by simp) hn₃ fun b o hb e => hs₃.extBut b o hb (hs₆.extBut b o hb (up b o e))

/-- a list comprehension over a ledger's list of pairs, with a test, bound to a name -/
def PairSrc (prog : Program) (w : World) (A : Around) (Wd : Heap → Prop) (L : Addr) (m : Str → Option Value) (env : Env) (c elt : Expr) (x x₂ : Str) (scope : Scope) (cl : List (Str × Addr)) (yn : Str) (Q : Flow → Shared → Prop) (xv : Value) (s₁ : Shared) : Prop :=
  ∃ (g₁ : Heap) (ax : Addr) (its : List Value) (k : Nat) (news₀ : List (Addr × Obj)) (ps : List (Int × Int)) (q : Int × Int → Bool), xv = .ref ax ∧ A.handled = none ∧ Wd g₁ ∧ Fr g₁ L s₁.heap m ∧ News g₁ L s₁.heap news₀ ∧ (ax, W.listOf its.toArray k) ∈ news₀ ∧ AllHas PairIn news₀ its ps ∧ its.length ≤ sizeLine ∧
    (∀ (p : Int × Int) (t u : Tok) I oI C oC D m₂ ys tl g h tk (E' : Value → Shared → Prop), p ∈ ps → m₂ x = some (.int p.1 t) → m₂ x₂ = some (.int p.2 u) → NsObj oC m₂ → Wd g → Fr g L h m → News g L h ((I, oI) :: (C, oC) :: (D, lst ys) :: (news₀ ++ tl)) → Off3 I C D (news₀ ++ tl) → ((@Ne Nat I C) ∧ (@Ne Nat I D) ∧ (@Ne Nat C D)) →
      wpAny (model prog w) A (isTrue c (compEnvC scope cl C env) (eval c (compEnvC scope cl C env))) (fun ok s₃ => if ok = true then
        wpAny (model prog w) A (eval elt (compEnvC scope cl C env)) (fun y s₄ => TurnEnd Wd L m { s₁ with heap := h, toks := tk } I oI C oC D (lst ys) news₀ (Yields PairIn q p tl y) s₄) E' s₃
        else TurnEnd Wd L m { s₁ with heap := h, toks := tk } I oI C oC D (lst ys) news₀ (Leaves q p tl) s₃) E' { s₁ with heap := h, toks := tk }) ∧
    ∀ D g h tk ys tl, AllHas PairIn tl ys (ps.filter q) → Wd g → Fr g L h (fun z => if z = yn then some (.ref D) else m z) → News g L h ((D, lst ys) :: (news₀ ++ tl)) → (∀ p ∈ news₀ ++ tl, p.1 ≠ D) → Q .next { s₁ with heap := h, toks := tk }
theorem Assign_pairs {elt iter c : Expr} {x x₂ yn : Str} {px px₂ tp py : Pos} {tk} {scope : Scope} {cl : List (Str × Addr)} {pos spos : Pos} {Q : Flow → Shared → Prop} {Wd : Heap → Prop} {g₁ : Heap} (_F : Fr g₁ L s.heap m) (_hW : Wd g₁) (hLe : env.locals = L)
    (hsw : swapsWith (.ListComp elt [⟨.Tuple [.Name x px, .Name x₂ px₂] tk tp, iter, [c], 0⟩] scope pos) (some (.Name yn py)) spos.line env = pure true)
    (hclos : closureFor scope env = pure cl) (hcell : ∀ z ∈ scope.names, z.2 ≠ .cell) (hkind : scope.kind = .function)
    (hnames : ∀ z ∈ scope.names, z.2 = .local → scope.names.lookup z.1 = some .local) (hx : scope.names.lookup x = some .local) (hx₂ : scope.names.lookup x₂ = some .local) (hxx : x ≠ x₂)
    (hy : env.kindOf yn = some .local) (hp : (env.scope.kind == .class || (env.scope.kind == .module && env.locals != env.globals)) = false)
    (h : wpAny (model prog w) A (eval iter env) (PairSrc prog w A Wd L m env c elt x x₂ scope cl yn Q) E s)
    (hs : ∀ x, foldedSetIterable iter env x = pure x := by intro _; rfl) :
    wpAny (model prog w) A (exec (.Assign [.Name yn py] (.ListComp elt [⟨.Tuple [.Name x px, .Name x₂ px₂] tk tp, iter, [c], 0⟩] scope pos) spos) env) Q E s := by
  subst hLe
  rw [exec_Assign_Name_used _ _ _ _ hsw]
  refine wpAny_bind (wpAny_standAt (wpAny_bind ?_))
  show wpAny _ A (do let _ ← comprehension (.ListComp elt [⟨.Tuple [.Name x px, .Name x₂ px₂] tk tp, iter, [c], 0⟩] scope pos) scope env _ (newList []) false (eval iter env) (some (assign (.Name yn py) env))) _ _ s
  refine wpAny_bind (wpAny_mono (wpAny_comprehension_free (use := some (assign (.Name yn py) env)) (Q := fun _ s' => Q .next s') rfl hs hclos hkind hnames
    (wpAny_mono h (fun xv s₁ h₁ => ?_) fun _ _ e => e)) (fun _ s' hq => wpAny_pure (wpAny_pure hq)) fun _ _ e => e)
  obtain ⟨g₁, ax, its, k, news₀, ps, q, rfl, hh, hW, F, N, hm, hA, hsz, turn, fin⟩ := h₁
  have hl : s₁.heap.IsList ax its.toArray := ⟨_, (N _ hm).1, rfl, k, rfl⟩
  have hlt : ax < s₁.heap.objs.size := Heap.lt_size (N _ hm).1
  refine wpAny_pyIter_list hl ?_
  have up : ∀ b o, s₁.heap.get? b = some o → (s₁.heap.push { cls := .type "list_iterator", data := .fields #[.ref ax, .int 0 0] }).get? b = some o := fun b o e => Heap.get?_push_of_some _ e
  have at_ : ∀ (i : Nat) (v : Value), its.toArray[i]? = some v → ∃ p, ps[i]? = some p ∧ PairIn news₀ v p := fun i v e => by
    have e : its[i]? = some v := by simpa using e
    have hi : i < ps.length := by rw [← hA.1]; exact (List.getElem?_eq_some_iff.mp e).1
    obtain ⟨v', e', hv⟩ := hA.2 i _ (List.getElem?_eq_getElem hi)
    rw [e] at e'; cases e'
    exact ⟨_, List.getElem?_eq_getElem hi, hv⟩
  refine compT_block (Wd := Wd) (J := fun i ys tl => AllHas PairIn tl ys ((ps.take i).filter q)) (Good := fun v m₂ => ∃ a v₁ v₂, v = .ref a ∧ (∃ n, (a, ({ cls := .type "tuple", data := .seq #[v₁, v₂] n } : Obj)) ∈ news₀) ∧ m₂ x = some v₁ ∧ m₂ x₂ = some v₂)
    (Walks.list hh s₁.heap.objs.size ax (Nat.ne_of_lt hlt) its.toArray) (by rw [List.size_toArray]; exact hsz) (fun i h st => by obtain ⟨o, e, _⟩ := st.1; exact ⟨o, e⟩)
    (fun i h h' o st e e' kp => ⟨by obtain ⟨o', q, r⟩ := st.1; rw [e] at q; cases q; exact ⟨o, e', r⟩, ⟨_, kp _ hm, rfl, k, rfl⟩⟩)
    (fun i v s' Q' E' st ⟨j, hj⟩ hQ => by
      obtain ⟨p, _, a, t, u, rfl, _⟩ := at_ j v hj
      exact wpAny_letOwnedTupleGo_listiter st.1 hQ)
    (fun i v s' Q' E' m' C hP kp hn hk => by
      obtain ⟨p, _, a, t, u, rfl, hmt⟩ := at_ i v hP
      exact assign_pair hh hkind hx hx₂ hxx (kp _ hmt) rfl rfl hn fun h' tk' m'' e1 e2 hn' ku => hk h' tk' m'' ⟨a, _, _, rfl, ⟨_, hmt⟩, e1, e2⟩ hn' ku)
    hcell hkind ⟨⟨_, Heap.get?_push_size _ rfl, rfl, rfl⟩, hl.push _⟩ (fun b hb => ?_) hW (F.keeps up) (N.grown up) (Nat.ne_of_lt F.ns.lt) (next_is_new F) (fun p hp => Nat.ne_of_lt (Heap.lt_size (N p hp).1)) fJ0 ?_ ?_
  · show b < (s₁.heap.push _).objs.size
    rw [Heap.size_push]
    rcases List.mem_cons.mp hb with rfl | hb
    · exact Nat.lt_succ_self _
    · rw [List.mem_singleton.mp hb]; exact Nat.lt_succ_of_lt hlt
  · rintro i v I oI C oC D m₂ ys tl g h' tk' E' hi hP ⟨a, v₁, v₂, rfl, ⟨n', hmt⟩, e1, e2⟩ hoC hw' F' N' off' ne' hJ'
    obtain ⟨p, hp', a', t, u, e, hmt'⟩ := at_ i _ hP
    cases e
    have e3 : ({ cls := .type "tuple", data := .seq #[v₁, v₂] n' } : Obj) = tup2 p.1 p.2 t u := by
      have z1 := (N _ hmt).1
      rw [(N _ hmt').1] at z1
      exact (Option.some.inj z1).symm
    have e4 : v₁ = .int p.1 t ∧ v₂ = .int p.2 u := by
      have e5 := congrArg Obj.data e3
      simp only [tup2] at e5
      injection e5 with e6 _
      have e7 := congrArg Array.toList e6
      simp only [List.cons.injEq] at e7
      exact ⟨e7.1, e7.2.1⟩
    obtain ⟨rfl, rfl⟩ := e4
    refine wpAny_mono (turn p t u I oI C oC D m₂ ys tl g h' tk' E' (List.mem_of_getElem? hp') e1 e2 hoC hw' F' N' off' ne') (fun ok s₃ h₃ => ?_) fun _ _ e => e
    cases ok with
    | false =>
      simp only [Bool.false_eq_true, if_false] at h₃ ⊢
      exact h₃.mono fun tl' z => fJf PairIn.mono hp' hJ' z
    | true =>
      simp only [if_true] at h₃ ⊢
      exact wpAny_mono h₃ (fun y s₄ h₄ => h₄.mono fun tl' z => fJt PairIn.mono hp' hJ' z) fun _ _ e => e
  · intro D C g h' tk' m' ys tl hw' F' N' hn gC hCL hCD offC offD hJ'
    show wpAny _ A (assign (.Name yn py) env (.ref D)) _ _ _
    refine wpAny_assign_Name (wpAny_storeName_local hy F'.ns (fun h₂ hn₂ hs₂ => ?_) hp)
    have gL : g.get? env.locals = none := Heap.get?_none_of_le F'.above
    have F₂ : Fr g env.locals h₂ (fun z => if z = yn then some (.ref D) else m z) := ⟨hn₂, fun b o e => hs₂.extBut b o (fun q => by rw [q, gL] at e; cases e) (F'.keep b o e), F'.above⟩
    refine ⟨m', hn.sameBut hs₂ hCL, fun h'' hs'' => fin D g h'' _ ys tl (by rw [List.size_toArray, hA.1, List.take_length] at hJ'; exact hJ') hw' (F₂.change hs'' hCL gC) (fun p hp => ?_) offD⟩
    have z : h₂.get? p.1 = some p.2 := hs₂.extBut _ _ (N' p hp).2.1 (N' p hp).1
    refine ⟨hs''.extBut _ _ ?_ z, (N' p hp).2⟩
    rcases List.mem_cons.mp hp with rfl | hp
    · exact Ne.symm hCD
    · exact offC p hp

/-- a list comprehension over a range, with a test -/
def RangeSrc {α : Type} (f : Int → α) (Has : List (Addr × Obj) → Value → α → Prop) (prog : Program) (w : World) (A : Around) (Wd : Heap → Prop) (L : Addr) (m : Str → Option Value) (env : Env) (c elt : Expr) (x : Str) (scope : Scope) (cl : List (Str × Addr)) (Q : Value → Shared → Prop) (xv : Value) (s₁ : Shared) : Prop :=
  ∃ (g₁ : Heap) (r : Addr) (a b : Int) (t u v : Tok) (n : Nat) (news₀ : List (Addr × Obj)) (q : α → Bool), xv = .ref r ∧ A.handled = none ∧ Wd g₁ ∧ Fr g₁ L s₁.heap m ∧ News g₁ L s₁.heap news₀ ∧ IsRange s₁.heap r a b 1 t u v ∧ Builtin.Range.small a b 1 = true ∧ Builtin.Range.rangeSize a b 1 = ((n : Nat) : Int) ∧ n ≤ sizeLine ∧
    (∀ tl tl' v x, (∀ e ∈ tl, e ∈ tl') → Has tl v x → Has tl' v x) ∧
    (∀ (k : Int) (t : Tok) I oI C oC D m₂ ys tl g h tk (E' : Value → Shared → Prop), a ≤ k → k < a + (n : Int) → m₂ x = some (.int k t) → NsObj oC m₂ → Wd g → Fr g L h m → News g L h ((I, oI) :: (C, oC) :: (D, lst ys) :: (news₀ ++ tl)) → Off3 I C D (news₀ ++ tl) → ((@Ne Nat I C) ∧ (@Ne Nat I D) ∧ (@Ne Nat C D)) →
      wpAny (model prog w) A (isTrue c (compEnvC scope cl C env) (eval c (compEnvC scope cl C env))) (fun ok s₃ => if ok = true then
        wpAny (model prog w) A (eval elt (compEnvC scope cl C env)) (fun y s₄ => TurnEnd Wd L m { s₁ with heap := h, toks := tk } I oI C oC D (lst ys) news₀ (Yields Has q (f k) tl y) s₄) E' s₃
        else TurnEnd Wd L m { s₁ with heap := h, toks := tk } I oI C oC D (lst ys) news₀ (Leaves q (f k) tl) s₃) E' { s₁ with heap := h, toks := tk }) ∧
    ∀ D g h tk ys tl, AllHas Has tl ys (((rangeKs a n).map f).filter q) → Wd g → Fr g L h m → News g L h ((D, lst ys) :: (news₀ ++ tl)) → (∀ p ∈ news₀ ++ tl, p.1 ≠ D) → Q (.ref D) { s₁ with heap := h, toks := tk }
theorem ListComp_range {α : Type} (f : Int → α) (Has : List (Addr × Obj) → Value → α → Prop) {elt iter c : Expr} {x : Str} {px : Pos} {scope : Scope} {cl : List (Str × Addr)} {pos : Pos} {Q : Value → Shared → Prop} {Wd : Heap → Prop} {g₁ : Heap} (_F : Fr g₁ L s.heap m) (_hW : Wd g₁)
    (hclos : closureFor scope env = pure cl) (hcell : ∀ y ∈ scope.names, y.2 ≠ .cell) (hkind : scope.kind = .function)
    (hnames : ∀ y ∈ scope.names, y.2 = .local → scope.names.lookup y.1 = some .local) (hx : scope.names.lookup x = some .local) (hgo : ∀ it v, letOwnedTupleGo (.Name x px) it v = pure ())
    (h : wpAny (model prog w) A (eval iter env) (RangeSrc f Has prog w A Wd L m env c elt x scope cl Q) E s)
    (hs : ∀ x, foldedSetIterable iter env x = pure x := by intro _; rfl) :
    wpAny (model prog w) A (eval (.ListComp elt [⟨.Name x px, iter, [c], 0⟩] scope pos) env) Q E s := by
  rw [eval_ListComp]
  refine wpAny_comprehension_free (use := none) rfl hs hclos hkind hnames (wpAny_mono h (fun xv s₁ h₁ => ?_) fun _ _ e => e)
  obtain ⟨g₁, r, a, b, t, u, v, n, news₀, q, rfl, hh, hW, F, N, hr, hsm, hn, hsz, mono, turn, fin⟩ := h₁
  refine wpAny_pyIter_range hr hsm ?_
  have at_ : ∀ (i : Nat), i < n → ((rangeKs a n).map f)[i]? = some (f (a + (i : Int))) := fun i hi => by simp [rangeKs, hi]
  refine compT_block (Wd := Wd) (J := fun i ys tl => AllHas Has tl ys ((((rangeKs a n).map f).take i).filter q)) (Good := fun v m₂ => m₂ x = some v)
    (range_walks hh a n) hsz (fun i h st => ⟨_, st⟩) (fun i h h' o st e e' _ => by
      have st' : h.get? _ = some _ := st
      show h'.get? _ = some _
      rw [e', ← e]; exact st')
    (fun i v s' Q' E' st _ hQ => by rw [hgo]; exact wpAny_pure hQ)
    (fun i v s' Q' E' m' C hP kp hn' hk => wpAny_assign_Name (wpAny_storeName_local (lookup_relabel_local hx) hn' (fun h₆ hn₆ hs₆ => hk h₆ _ _ (by simp) hn₆ fun b o hb e => hs₆.extBut b o hb e) (by simp [compEnvC, relabel, hkind])))
    hcell hkind (by show IsRangeIter _ _ _ _ _; rw [hn]; simpa using Heap.get?_push_size _ rfl) (fun b hb => ?_) hW (F.keeps fun _ _ e => Heap.get?_push_of_some _ e) (N.grown fun _ _ e => Heap.get?_push_of_some _ e) (Nat.ne_of_lt F.ns.lt) (next_is_new F) (fun p hp => Nat.ne_of_lt (Heap.lt_size (N p hp).1)) fJ0 ?_ ?_
  · rw [List.mem_singleton.mp hb]
    show s₁.heap.objs.size < (s₁.heap.push _).objs.size
    rw [Heap.size_push]; exact Nat.lt_succ_self _
  · rintro i v I oI C oC D m₂ ys tl g h' tk' E' hi ⟨t', rfl⟩ hG hoC hw' F' N' off' ne' hJ'
    refine wpAny_mono (turn (a + (i : Int)) t' I oI C oC D m₂ ys tl g h' tk' E' (by omega) (by omega) hG hoC hw' F' N' off' ne') (fun ok s₃ h₃ => ?_) fun _ _ e => e
    cases ok with
    | false =>
      simp only [Bool.false_eq_true, if_false] at h₃ ⊢
      exact h₃.mono fun tl' z => fJf mono (at_ i hi) hJ' z
    | true =>
      simp only [if_true] at h₃ ⊢
      exact wpAny_mono h₃ (fun y s₄ h₄ => h₄.mono fun tl' z => fJt mono (at_ i hi) hJ' z) fun _ _ e => e
  · intro D C g h' tk' m' ys tl hw' F' N' hn' gC hCL hCD offC offD hJ'
    refine ⟨m', hn', fun h'' hs'' => fin D g h'' tk' ys tl ?_ hw' (F'.change hs'' hCL gC) (fun p hp => ?_) offD⟩
    · have e : ((rangeKs a n).map f).take n = (rangeKs a n).map f := List.take_of_length_le (by simp [rangeKs])
      rw [e] at hJ'; exact hJ'
    · refine ⟨hs''.extBut _ _ ?_ (N' p hp).1, (N' p hp).2⟩
      rcases List.mem_cons.mp hp with rfl | hp
      · exact Ne.symm hCD
      · exact offC p hp

/-- a while whose turns may turn the ground -/
def WhileEnd (Wd : Heap → Prop) (L : Addr) (s : Shared) (J : Nat → (Str → Option Value) → List (Addr × Obj) → Prop) (n : Nat) (f : Flow) (s₃ : Shared) : Prop :=
  f = .next ∧ ∃ g h' tk m₂ news₂ n', s₃ = { s with heap := h', toks := tk } ∧ Wd g ∧ Fr g L h' m₂ ∧ News g L h' news₂ ∧ n' < n ∧ J n' m₂ news₂
theorem WhileEnd.intro {Wd : Heap → Prop} {L : Addr} {s : Shared} {J : Nat → (Str → Option Value) → List (Addr × Obj) → Prop} {n n' tk : Nat} {g h' : Heap} {m₂ : Str → Option Value} {news₂ news' : List (Addr × Obj)}
    (W : Wd g) (F : Fr g L h' m₂) (N : News g L h' news') (hs : ∀ p ∈ news₂, p ∈ news') (hn : n' < n) (hJ : J n' m₂ news₂) : WhileEnd Wd L s J n .next { s with heap := h', toks := tk } :=
  ⟨rfl, g, h', tk, m₂, news₂, n', rfl, W, F, fun p hp => N p (hs p hp), hn, hJ⟩
theorem While_T {test : Expr} {body : List Stmt} {pos : Pos} {Q : Flow → Shared → Prop} {Wd : Heap → Prop} {g₁ : Heap} {news news' : List (Addr × Obj)} (J : Nat → (Str → Option Value) → List (Addr × Obj) → Prop) {n₀ : Nat}
    (W : Wd g₁) (F : Fr g₁ L s.heap m) (N : News g₁ L s.heap news') (hs : ∀ p ∈ news, p ∈ news') (hJ : J n₀ m news)
    (turn : ∀ n m₁ news₁ g h₁ tk₁, Wd g → Fr g L h₁ m₁ → News g L h₁ news₁ → J n m₁ news₁ →
      wpAny (model prog w) A (isTrue test env (eval test env)) (fun b s₂ =>
        if b = true then wpAny (model prog w) A (execs body env) (WhileEnd Wd L s J n) E s₂ else Q .next s₂) E { s with heap := h₁, toks := tk₁ })
    (hE : PassesOwn (model prog w) A env E := by passes_own) :
    wpAny (model prog w) A (exec (.While test body [] pos) env) Q E s := by
  refine wpAny_While (codeAny_whileLoop (fun n s' => ∃ g h₁ tk₁ m₁ news₁, s' = { s with heap := h₁, toks := tk₁ } ∧ Wd g ∧ Fr g L h₁ m₁ ∧ News g L h₁ news₁ ∧ J n m₁ news₁) ?_ n₀ ⟨g₁, s.heap, s.toks, m, news, rfl, W, F, fun p hp => N p (hs p hp), hJ⟩)
  rintro n s' ⟨g, h₁, tk₁, m₁, news₁, rfl, W₁, F₁, N₁, J₁⟩
  refine wpAny_mono (turn n m₁ news₁ g h₁ tk₁ W₁ F₁ N₁ J₁) (fun b s₂ h₂ => ?_) hE
  cases b with
  | false =>
    simp only [Bool.false_eq_true, if_false] at h₂ ⊢
    exact wpAny_execs_nil h₂
  | true =>
    simp only [if_true] at h₂ ⊢
    refine wpAny_mono h₂ (fun f s₃ h₃ => ?_) hE
    obtain ⟨rfl, g', h', tk, m₂, news₂, n', rfl, W₂, F₂, N₂, hn, J₂⟩ := h₃
    exact ⟨n', hn, g', h', tk, m₂, news₂, rfl, W₂, F₂, N₂, J₂⟩

section
variable {h₀ : Heap} {elt : Expr} {x : Str} {scope : Scope} {cl : List (Str × Addr)} {Fin : List Value → List (Addr × Obj) → Prop} {news : List (Addr × Obj)}
def TupNext (news : List (Addr × Obj)) (r : Int × Int) (tl : List (Addr × Obj)) (y : Value) (news' : List (Addr × Obj)) : Prop := ∃ tl', news' = news ++ tl' ∧ Yields PairIn (fun _ => true) r tl y tl'
/-- tuples of two ints, one a turn, over a range -/
theorem tup_rest {n : Nat} {a : Int} (f : Int → Int × Int)
    (turn : ∀ k t I oI C oC D m₂ ys tl h tk (E' : Value → Shared → Prop), a ≤ k → k < a + (n : Int) → NsObj oC m₂ → m₂ x = some (.int k t) → Fr h₀ L h m → News h₀ L h ((I, oI) :: (C, oC) :: (D, lst ys) :: (news ++ tl)) → Off3 I C D (news ++ tl) → ((@Ne Nat I C) ∧ (@Ne Nat I D) ∧ (@Ne Nat C D)) →
      wpAny (model prog w) A (eval elt (compEnvC scope cl C env)) (CompEnd h₀ L m { s with heap := h, toks := tk } I oI C oC D (lst ys) (fun _ => True) (TupNext news (f k) tl)) E' { s with heap := h, toks := tk })
    (fin : ∀ ys tl, AllHas PairIn tl ys ((rangeKs a n).map f) → Fin ys (news ++ tl)) : CompRest prog w A h₀ L m env elt x scope cl s (fun _ => True) (fun i v => ∃ t, v = .int (a + (i : Int)) t) Fin n 0 [] news := by
  have at_ : ∀ (i : Nat), i < n → ((rangeKs a n).map f)[i]? = some (f (a + (i : Int))) := fun i hi => by simp [rangeKs, hi]
  have key : ∀ (j i : Nat) (ys : List Value) (tl : List (Addr × Obj)), i + j = n → AllHas PairIn tl ys ((((rangeKs a n).map f).take i).filter fun _ => true) → CompRest prog w A h₀ L m env elt x scope cl s (fun _ => True) (fun i v => ∃ t, v = .int (a + (i : Int)) t) Fin j i ys (news ++ tl) := by
    intro j
    induction j with
    | zero =>
      intro i ys tl hi hy
      rw [List.filter_eq_self.mpr (fun _ _ => rfl), List.take_of_length_le (by simp [rangeKs]; omega)] at hy
      exact CompRest.zero (fin ys tl hy)
    | succ j ih =>
      intro i ys tl hi hy
      refine CompRest.succ ?_
      rintro v I oI C oC D m₂ h tk E' ⟨t, rfl⟩ hC hx F N off ne
      refine wpAny_mono (turn _ t I oI C oC D m₂ ys tl h tk E' (by omega) (by omega) hC hx F N off ne) (fun y s₂ hq => ?_) fun _ _ e => e
      obtain ⟨h', tk', nw, e, F', N', off', hS, tl', rfl, hy'⟩ := hq
      exact ⟨h', tk', _, e, F', N', off', hS, ih (i + 1) _ tl' (by omega) (fJt PairIn.mono (at_ i (by omega)) hy hy')⟩
  have := key n 0 [] [] (by omega) fJ0
  rwa [List.append_nil] at this
/-- two lists of the ledger, one behind the other -/
theorem add_made {h₀ : Heap} {a b : Addr} {its its' : Array Value} {j k : Nat} {news : List (Addr × Obj)} {Q : Value → Shared → Prop} (F : Fr h₀ L s.heap m) (N : News h₀ L s.heap news) (ha : (a, ({ cls := .type "list", data := .seq its j } : Obj)) ∈ news) (hb : (b, ({ cls := .type "list", data := .seq its' k } : Obj)) ∈ news)
    (hsz : its.size + its'.size ≤ sizeLine)
    (h : ∀ l h', Fr h₀ L h' m → News h₀ L h' ((l, W.listOf (its.toList ++ its'.toList).toArray 0) :: news) → (∀ p ∈ news, p.1 < l) → Q (.ref l) { s with heap := h' }) :
    wpAny (model prog w) A (binaryOp .Add (.ref a) (.ref b)) Q E s :=
  add_arrays (hsz := hsz) F N ⟨_, (N _ ha).1, rfl, _, rfl⟩ ⟨_, (N _ hb).1, rfl, _, rfl⟩ fun h' F' N' => h _ h' F' N' fun p hp => Heap.lt_size (N p hp).1
theorem tup_day {n : Nat} {a : Int} {da : Addr} {y : Int} {t₀ : Tok} {v₁ v₂ : Value} {kd : Nat} {base : List (Addr × Obj)} (_hp : (da, W.listOf #[.int y t₀, v₁, v₂] kd) ∈ base)
    (turn : ∀ k t I oI C oC D m₂ ys tl h tk (E' : Value → Shared → Prop), a ≤ k → k < a + (n : Int) → NsObj oC m₂ → m₂ x = some (.int k t) → Fr h₀ L h m → News h₀ L h ((I, oI) :: (C, oC) :: (D, lst ys) :: (news ++ tl)) → Off3 I C D (news ++ tl) → ((@Ne Nat I C) ∧ (@Ne Nat I D) ∧ (@Ne Nat C D)) →
      wpAny (model prog w) A (eval elt (compEnvC scope cl C env)) (CompEnd h₀ L m { s with heap := h, toks := tk } I oI C oC D (lst ys) (fun _ => True) (TupNext news (y, k) tl)) E' { s with heap := h, toks := tk })
    (fin : ∀ ys tl, AllHas PairIn tl ys ((rangeKs a n).map fun k => (y, k)) → Fin ys (news ++ tl)) : CompRest prog w A h₀ L m env elt x scope cl s (fun _ => True) (fun i v => ∃ t, v = .int (a + (i : Int)) t) Fin n 0 [] news := tup_rest (fun k => (y, k)) turn fin
theorem tup_end {I C D T : Addr} {oI oC : Obj} {ys : List Value} {tl : List (Addr × Obj)} {p q : Int} {t u : Tok} {r : Int × Int} {h' : Heap} {tk : Nat} (F : Fr h₀ L h' m) (N : News h₀ L h' ((T, tup2 p q t u) :: (I, oI) :: (C, oC) :: (D, lst ys) :: (news ++ tl))) (off : Off3 I C D (news ++ tl)) (hT : @LT.lt Nat _ I T ∧ @LT.lt Nat _ C T ∧ @LT.lt Nat _ D T) (hr : r = (p, q)) :
    CompEnd h₀ L m s I oI C oC D (lst ys) (fun _ => True) (TupNext news r tl) (.ref T) { s with heap := h', toks := tk } := by
  subst hr
  refine CompEnd.intro F N (news ++ ((T, tup2 p q t u) :: tl)) (fun z hz => ?_) (Off3.of fun z hz => ?_) trivial ⟨_, rfl, rfl, ⟨T, t, u, rfl, .head _⟩, fun e he => .tail _ he⟩
  · simp only [List.mem_cons, List.mem_append] at hz ⊢
    rcases hz with h | h | h | h | h | h
    · exact .inr (.inl h)
    · exact .inr (.inr (.inl h))
    · exact .inr (.inr (.inr (.inl h)))
    · exact .inr (.inr (.inr (.inr (.inl h))))
    · exact .inl h
    · exact .inr (.inr (.inr (.inr (.inr h))))
  · simp only [List.mem_append, List.mem_cons] at hz
    rcases hz with h | rfl | h
    · exact off.mem z (List.mem_append_left _ h)
    · exact ⟨Nat.ne_of_gt hT.1, Nat.ne_of_gt hT.2.1, Nat.ne_of_gt hT.2.2⟩
    · exact off.mem z (List.mem_append_right _ h)
end
/-- the place of a walk, its ground turned from g₀ -/
def WdOf (A₀ : Around) (base : Heap) (outer : List Env) (K : Frag) (p : Program) (loose : List Str) (mean : ExcName → Option Value) (mg mb : Str → Option Value) (g₀ g : Heap) : Prop :=
  Below A₀ base outer g ∧ K.In g ∧ Top p loose mean mg mb g ∧ KtsDicts (outer.filterMap (·.frame)) g ∧ KtsTurn (outer.filterMap (·.frame)) g₀ g
theorem WdOf.mk {A₀ : Around} {base : Heap} {outer : List Env} {K : Frag} {p : Program} {loose : List Str} {mean : ExcName → Option Value} {mg mb : Str → Option Value} {g₀ g : Heap} (B : Below A₀ base outer g) (X : K.In g) (T : Top p loose mean mg mb g) (D : KtsDicts (outer.filterMap (·.frame)) g) (T0 : KtsTurn (outer.filterMap (·.frame)) g₀ g) : WdOf A₀ base outer K p loose mean mg mb g₀ g := ⟨B, X, T, D, T0⟩

theorem PairSrc.intro (q : Int × Int → Bool) {Wd : Heap → Prop} {c elt : Expr} {x x₂ yn : Str} {scope : Scope} {cl : List (Str × Addr)} {Q : Flow → Shared → Prop} {g₁ : Heap} {ax : Addr} {its : List Value} {k : Nat} {news₀ : List (Addr × Obj)} {ps : List (Int × Int)} (hh : A.handled = none) (F : Fr g₁ L s.heap m) (hW : Wd g₁) (N : News g₁ L s.heap news₀) (hm : (ax, W.listOf its.toArray k) ∈ news₀) (hA : AllHas PairIn news₀ its ps) (hl : ps.length ≤ 1000)
    (turn : ∀ (p : Int × Int) (t u : Tok) I oI C oC D m₂ ys tl g h tk (E' : Value → Shared → Prop), p ∈ ps → m₂ x = some (.int p.1 t) → m₂ x₂ = some (.int p.2 u) → NsObj oC m₂ → Wd g → Fr g L h m → News g L h ((I, oI) :: (C, oC) :: (D, lst ys) :: (news₀ ++ tl)) → Off3 I C D (news₀ ++ tl) → ((@Ne Nat I C) ∧ (@Ne Nat I D) ∧ (@Ne Nat C D)) →
      wpAny (model prog w) A (isTrue c (compEnvC scope cl C env) (eval c (compEnvC scope cl C env))) (fun ok s₃ => if ok = true then
        wpAny (model prog w) A (eval elt (compEnvC scope cl C env)) (fun y s₄ => TurnEnd Wd L m { s with heap := h, toks := tk } I oI C oC D (lst ys) news₀ (Yields PairIn q p tl y) s₄) E' s₃
        else TurnEnd Wd L m { s with heap := h, toks := tk } I oI C oC D (lst ys) news₀ (Leaves q p tl) s₃) E' { s with heap := h, toks := tk })
    (fin : ∀ D g h tk ys tl, AllHas PairIn tl ys (ps.filter q) → Wd g → Fr g L h (fun z => if z = yn then some (.ref D) else m z) → News g L h ((D, lst ys) :: (news₀ ++ tl)) → (∀ p ∈ news₀ ++ tl, p.1 ≠ D) → Q .next { s with heap := h, toks := tk }) :
    PairSrc prog w A Wd L m env c elt x x₂ scope cl yn Q (.ref ax) s := ⟨g₁, ax, its, k, news₀, ps, q, rfl, hh, hW, F, N, hm, hA, by rw [hA.1, sizeLine_eq]; omega, turn, fin⟩
theorem yield_pair {Wd : Heap → Prop} {q : Int × Int → Bool} {I C D T : Addr} {oI oC oD : Obj} {news₀ tl all : List (Addr × Obj)} {a b : Int} {t u : Tok} {r : Int × Int} {g h' : Heap} {tk : Nat} (F : Fr g L h' m) (N : News g L h' all) (hW : Wd g) (hs : ∀ p ∈ (T, tup2 a b t u) :: (I, oI) :: (C, oC) :: (D, oD) :: (news₀ ++ tl), p ∈ all) (off : Off3 I C D (news₀ ++ tl)) (hT : @LT.lt Nat _ I T ∧ @LT.lt Nat _ C T ∧ @LT.lt Nat _ D T) (hr : r = (a, b)) (hq : q r = true) :
    TurnEnd Wd L m s I oI C oC D oD news₀ (Yields PairIn q r tl (.ref T)) { s with heap := h', toks := tk } := by
  subst hr
  refine ⟨g, h', tk, (T, tup2 a b t u) :: tl, rfl, hW, F, fun z hz => N z (hs z ?_), Off3.of fun z hz => ?_, hq, ⟨T, t, u, rfl, .head _⟩, fun e he => .tail _ he⟩
  · simp only [List.mem_cons, List.mem_append] at hz ⊢
    rcases hz with h | h | h | h | h | h
    · exact .inr (.inl h)
    · exact .inr (.inr (.inl h))
    · exact .inr (.inr (.inr (.inl h)))
    · exact .inr (.inr (.inr (.inr (.inl h))))
    · exact .inl h
    · exact .inr (.inr (.inr (.inr (.inr h))))
  · simp only [List.mem_append, List.mem_cons] at hz
    rcases hz with h | rfl | h
    · exact off.mem z (List.mem_append_left _ h)
    · exact ⟨Nat.ne_of_gt hT.1, Nat.ne_of_gt hT.2.1, Nat.ne_of_gt hT.2.2⟩
    · exact off.mem z (List.mem_append_right _ h)
theorem turn_leaves {α : Type} {Wd : Heap → Prop} {q : α → Bool} {I C D : Addr} {oI oC oD : Obj} {news₀ tl all : List (Addr × Obj)} {r : α} {g h' : Heap} {tk : Nat} (F : Fr g L h' m) (N : News g L h' all) (hW : Wd g) (hs : ∀ p ∈ (I, oI) :: (C, oC) :: (D, oD) :: (news₀ ++ tl), p ∈ all) (off : Off3 I C D (news₀ ++ tl)) (hq : q r = false) :
    TurnEnd Wd L m s I oI C oC D oD news₀ (Leaves q r tl) { s with heap := h', toks := tk } :=
  ⟨g, h', tk, tl, rfl, hW, F, fun z hz => N z (hs z hz), off, hq, fun _ he => he⟩
def rowI (y : Int) : List (Int × Int) := [(y - 1, 52), (y - 1, 53)] ++ (rangeKs 1 53).map (fun k => (y, k)) ++ [(y + 1, 1)]
theorem rowI_len (y : Int) : (rowI y).length ≤ 1000 := by simp [rowI, rangeKs]
theorem filter_len {l : List (Int × Int)} {q : Int × Int → Bool} {n : Nat} (h : l.length ≤ n) : (l.filter q).length ≤ n := Nat.le_trans (List.length_filter_le _ _) h
theorem row_has {news₀ tl : List (Addr × Obj)} {y : Int} {a1 a2 a3 : Addr} {t1 t2 t3 u1 u2 u3 : Tok} {ys : List Value} (h1 : (a1, tup2 (y - 1) 52 t1 u1) ∈ news₀) (h2 : (a2, tup2 (y - 1) 53 t2 u2) ∈ news₀) (h3 : (a3, tup2 (y + 1) 1 t3 u3) ∈ news₀)
    (hA : AllHas PairIn tl ys ((rangeKs 1 53).map fun k => (y, k))) (hs : ∀ e ∈ tl, e ∈ news₀) : AllHas PairIn news₀ ([.ref a1, .ref a2] ++ ys ++ [.ref a3]) (rowI y) :=
  AllHas.append (AllHas.append (AllHas.append (ys := [.ref a1]) (ys' := [.ref a2]) (xs := [(y - 1, 52)]) (xs' := [(y - 1, 53)]) (AllHas.one ⟨_, _, _, rfl, h1⟩) (AllHas.one ⟨_, _, _, rfl, h2⟩)) (hA.more fun v x => PairIn.mono _ _ v x hs)) (AllHas.one ⟨_, _, _, rfl, h3⟩)
end
end Mine
end
section
namespace Mine
theorem mon_succ (y : Int) : monI (y + 1) = monI y + 7 * (if WeekOk y 53 then 53 else 52) := by
  have h := dby_succ y
  unfold ylI at h
  have hw : WeekOk y 53 ↔ longB y = true := by
    unfold WeekOk
    constructor
    · rintro (⟨_, h⟩ | ⟨_, h⟩)
      · exact absurd h (by decide)
      · exact h
    · exact fun h => .inr ⟨rfl, h⟩
  have hl : longB y = true ↔ (dbyI y + 1) % 7 = 4 ∨ ((dbyI y + 1) % 7 = 3 ∧ leapB y = true) := by
    unfold longB; simp only [Bool.or_eq_true, Bool.and_eq_true, beq_iff_eq]
  unfold monI
  rw [h]
  cases hb : leapB y with
  | true =>
    simp only [hb, if_true, and_true] at h hl ⊢
    by_cases hc : WeekOk y 53
    · rw [if_pos hc]
      have := hl.mp (hw.mp hc)
      split <;> split <;> omega
    · rw [if_neg hc]
      have : ¬ ((dbyI y + 1) % 7 = 4 ∨ (dbyI y + 1) % 7 = 3) := fun q => hc (hw.mpr (hl.mpr q))
      split <;> split <;> omega
  | false =>
    simp only [hb, Bool.false_eq_true, if_false, and_false, or_false] at h hl ⊢
    by_cases hc : WeekOk y 53
    · rw [if_pos hc]
      have := hl.mp (hw.mp hc)
      split <;> split <;> omega
    · rw [if_neg hc]
      have : ¬ ((dbyI y + 1) % 7 = 4) := fun q => hc (hw.mpr (hl.mpr q))
      split <;> split <;> omega
/-- the weeks p lie one behind the other from the day s -/
def Chain (s : Int) (l : List (Int × Int)) : Prop := ∀ (i : Nat) (p : Int × Int), l[i]? = some p → 1 ≤ p.1 ∧ p.1 ≤ 9999 ∧ 1 ≤ p.2 ∧ p.2 ≤ 53 ∧ WeekOk p.1 p.2 ∧ monI p.1 + (p.2 - 1) * 7 = s + 7 * (i : Int)
theorem Chain.nil {s : Int} : Chain s [] := fun i p e => by simp at e
theorem Chain.one {s : Int} {p : Int × Int} (h1 : 1 ≤ p.1) (h2 : p.1 ≤ 9999) (h5 : 1 ≤ p.2) (h6 : p.2 ≤ 53) (h3 : WeekOk p.1 p.2) (h4 : monI p.1 + (p.2 - 1) * 7 = s) : Chain s [p] := fun i q e => by
  cases i with
  | zero => simp at e; subst e; exact ⟨h1, h2, h5, h6, h3, by simpa using h4⟩
  | succ i => simp at e
theorem Chain.append {s : Int} {l l' : List (Int × Int)} (h : Chain s l) (h' : Chain (s + 7 * (l.length : Int)) l') : Chain s (l ++ l') := fun i p e => by
  by_cases hi : i < l.length
  · rw [List.getElem?_append_left hi] at e; exact h i p e
  · rw [List.getElem?_append_right (Nat.not_lt.mp hi)] at e
    obtain ⟨a, b, c, d, g, f⟩ := h' _ p e
    refine ⟨a, b, c, d, g, ?_⟩
    have : ((i - l.length : Nat) : Int) = (i : Int) - (l.length : Int) := by omega
    rw [f, this]; omega
def qa (p : Int × Int) : Bool := decide (0 < p.1 ∧ p.1 < 10000)
def qb (p : Int × Int) : Bool := decide (p.2 < 53 ∨ WeekOk p.1 53)
def weeksI (y : Int) : List (Int × Int) := ((rowI y).filter qa).filter qb
theorem filt_one {q : Int × Int → Bool} {p : Int × Int} (h : q p = true) : [p].filter q = [p] := by simp [h]
theorem filt_no {q : Int × Int → Bool} {p : Int × Int} (h : q p = false) : [p].filter q = [] := by simp [h]
def yearWeeks (y : Int) : List (Int × Int) := (((rangeKs 1 53).map fun k => (y, k)).filter qa).filter qb
theorem rangeKs_succ (a : Int) (n : Nat) : rangeKs a (n + 1) = rangeKs a n ++ [a + (n : Int)] := by
  simp [rangeKs, List.range_succ]
theorem year_weeks {y : Int} (h1 : 1 ≤ y) (h2 : y ≤ 9999) : yearWeeks y = ((rangeKs 1 52).map fun k => (y, k)) ++ (if WeekOk y 53 then [(y, 53)] else []) := by
  unfold yearWeeks
  have ha : (((rangeKs 1 53).map fun k => (y, k)).filter qa) = ((rangeKs 1 53).map fun k => (y, k)) := List.filter_eq_self.mpr fun p hp => by
    obtain ⟨k, _, rfl⟩ := List.mem_map.mp hp
    exact decide_eq_true ⟨by omega, by omega⟩
  rw [ha, rangeKs_succ 1 52, List.map_append, List.filter_append]
  refine congr (congrArg _ ?_) ?_
  · refine List.filter_eq_self.mpr fun p hp => ?_
    obtain ⟨k, hk, rfl⟩ := List.mem_map.mp hp
    have := mem_rangeKs hk
    exact decide_eq_true (.inl (by show k < 53; omega))
  · show List.filter qb [(y, (1 : Int) + ((52 : Nat) : Int))] = _
    rw [show ((1 : Int) + ((52 : Nat) : Int)) = 53 from rfl]
    by_cases h : WeekOk y 53
    · rw [if_pos h]; exact filt_one (decide_eq_true (.inr h))
    · rw [if_neg h]; exact filt_no (decide_eq_false fun q => q.elim (fun z => absurd z (by simp)) h)
theorem year_chain {y : Int} (h1 : 1 ≤ y) (h2 : y ≤ 9999) : Chain (monI y) (yearWeeks y) ∧ (yearWeeks y).length = (if WeekOk y 53 then 53 else 52) := by
  rw [year_weeks h1 h2]
  constructor
  · refine Chain.append (fun i p e => ?_) ?_
    · rw [List.getElem?_map] at e
      cases hk : (rangeKs 1 52)[i]? with
      | none => rw [hk] at e; cases e
      | some k =>
        rw [hk] at e; cases e
        have hi : i < 52 := by
          have := (List.getElem?_eq_some_iff.mp hk).1
          rwa [rangeKs_length] at this
        have hk' : k = 1 + (i : Int) := by
          have : (rangeKs 1 52)[i]? = some (1 + (i : Int)) := by simp [rangeKs, hi]
          rw [this] at hk; cases hk; rfl
        subst hk'
        exact ⟨h1, h2, by show 1 ≤ 1 + (i : Int); omega, by show 1 + (i : Int) ≤ 53; omega, .inl ⟨by show 0 < 1 + (i : Int); omega, by show 1 + (i : Int) < 53; omega⟩, by show monI y + (1 + (i : Int) - 1) * 7 = _; omega⟩
    · rw [List.length_map, rangeKs_length]
      by_cases h : WeekOk y 53
      · rw [if_pos h]; exact Chain.one h1 h2 (by simp) (by simp) h (by show monI y + (53 - 1) * 7 = _; omega)
      · rw [if_neg h]; exact Chain.nil
  · rw [List.length_append, List.length_map, rangeKs_length]
    by_cases h : WeekOk y 53
    · rw [if_pos h, if_pos h]; rfl
    · rw [if_neg h, if_neg h]; rfl
theorem weeks_split (y : Int) : weeksI y = ([(y - 1, 52), (y - 1, 53)].filter qa).filter qb ++ yearWeeks y ++ ([(y + 1, 1)].filter qa).filter qb := by
  unfold weeksI rowI yearWeeks
  rw [List.filter_append, List.filter_append, List.filter_append, List.filter_append]
theorem before_chain {y : Int} (h1 : 1 ≤ y) (h2 : y ≤ 9999) : Chain (monI y - 7 * ((([(y - 1, 52), (y - 1, 53)].filter qa).filter qb).length : Int)) (([(y - 1, 52), (y - 1, 53)].filter qa).filter qb) ∧ (y = 1 ∨ 1 ≤ (([(y - 1, 52), (y - 1, 53)].filter qa).filter qb).length) := by
  by_cases hy : y = 1
  · subst hy
    have e : ([((1 : Int) - 1, (52 : Int)), (1 - 1, 53)].filter qa) = [] := by decide
    rw [e]
    exact ⟨Chain.nil, .inl rfl⟩
  · have e : ([(y - 1, 52), (y - 1, (53 : Int))].filter qa) = [(y - 1, 52), (y - 1, 53)] := List.filter_eq_self.mpr fun p hp => by
      simp only [List.mem_cons, List.not_mem_nil, or_false] at hp
      rcases hp with rfl | rfl <;> exact decide_eq_true ⟨by show 0 < y - 1; omega, by show y - 1 < 10000; omega⟩
    have hm := mon_succ (y - 1)
    rw [Int.sub_add_cancel] at hm
    rw [e]
    by_cases h : WeekOk (y - 1) 53
    · have e2 : ([(y - 1, 52), (y - 1, (53 : Int))].filter qb) = [(y - 1, 52)] ++ [(y - 1, 53)] := List.filter_eq_self.mpr fun p hp => by
        simp only [List.mem_cons, List.not_mem_nil, or_false] at hp
        rcases hp with rfl | rfl
        · exact decide_eq_true (.inl (by simp))
        · exact decide_eq_true (.inr h)
      rw [if_pos h] at hm
      rw [e2]
      refine ⟨Chain.append (Chain.one (by show 1 ≤ y - 1; omega) (by show y - 1 ≤ 9999; omega) (by simp) (by simp) (.inl ⟨by simp, by simp⟩) (by show monI (y - 1) + (52 - 1) * 7 = monI y - 7 * 2; omega)) (Chain.one (by show 1 ≤ y - 1; omega) (by show y - 1 ≤ 9999; omega) (by simp) (by simp) h (by show monI (y - 1) + (53 - 1) * 7 = monI y - 7 * 2 + 7 * 1; omega)), .inr (by simp)⟩
    · have e2 : ([(y - 1, 52), (y - 1, (53 : Int))].filter qb) = [(y - 1, 52)] := by
        rw [List.filter_cons, if_pos (show qb (y - 1, 52) = true from decide_eq_true (.inl (by simp)))]
        rw [filt_no (decide_eq_false fun q => q.elim (fun z => absurd z (by simp)) h)]
      rw [if_neg h] at hm
      rw [e2]
      exact ⟨Chain.one (by show 1 ≤ y - 1; omega) (by show y - 1 ≤ 9999; omega) (by simp) (by simp) (.inl ⟨by simp, by simp⟩) (by show monI (y - 1) + (52 - 1) * 7 = monI y - 7 * 1; omega), .inr (by simp)⟩
theorem after_chain {y : Int} (h1 : 1 ≤ y) (h2 : y ≤ 9999) : Chain (monI (y + 1)) (([(y + 1, 1)].filter qa).filter qb) ∧ (y = 9999 ∨ (([(y + 1, (1 : Int))].filter qa).filter qb).length = 1) := by
  by_cases hy : y = 9999
  · subst hy
    have e : ([((9999 : Int) + 1, (1 : Int))].filter qa) = [] := by decide
    rw [e]; exact ⟨Chain.nil, .inl rfl⟩
  · rw [filt_one (p := (y + 1, 1)) (decide_eq_true ⟨by show 0 < y + 1; omega, by show y + 1 < 10000; omega⟩), filt_one (decide_eq_true (.inl (by simp)))]
    exact ⟨Chain.one (by show 1 ≤ y + 1; omega) (by show y + 1 ≤ 9999; omega) (by simp) (by simp) (.inl ⟨by simp, by simp⟩) (by show monI (y + 1) + (1 - 1) * 7 = _; omega), .inr rfl⟩
theorem mon_bounds (y : Int) : dbyI y - 2 ≤ monI y ∧ monI y ≤ dbyI y + 4 := by
  unfold monI; simp only; split <;> omega
/-- the row of weeks: a chain that holds the year's days -/
theorem weeks_chain {y n : Int} (h1 : 1 ≤ y) (h2 : y ≤ 9999) (hn : dbyI y < n) (hn' : n ≤ dbyI (y + 1)) : ∃ s, Chain s (weeksI y) ∧ s ≤ n ∧ n < s + 7 * ((weeksI y).length : Int) := by
  obtain ⟨a1, a2⟩ := before_chain h1 h2
  obtain ⟨b1, b2⟩ := year_chain h1 h2
  obtain ⟨c1, c2⟩ := after_chain h1 h2
  have hm := mon_succ y
  have hb := mon_bounds y
  have hb' := mon_bounds (y + 1)
  rw [weeks_split]
  generalize ([(y - 1, 52), (y - 1, (53 : Int))].filter qa).filter qb = lA at *
  generalize yearWeeks y = lB at *
  generalize ([(y + 1, (1 : Int))].filter qa).filter qb = lC at *
  have e : ((lB.length : Nat) : Int) = if WeekOk y 53 then 53 else 52 := by rw [b2]; split <;> rfl
  rw [← e] at hm
  refine ⟨monI y - 7 * (lA.length : Int), Chain.append (Chain.append a1 ?_) ?_, ?_, ?_⟩
  · rw [show monI y - 7 * (lA.length : Int) + 7 * (lA.length : Int) = monI y by omega]; exact b1
  · rw [show monI y - 7 * (lA.length : Int) + 7 * ((lA ++ lB).length : Int) = monI (y + 1) by rw [List.length_append]; omega]; exact c1
  · rcases a2 with rfl | a2
    · have : monI 1 = 1 := by decide
      rw [dby1] at hn; omega
    · omega
  · rw [List.length_append, List.length_append]
    rcases c2 with rfl | c2
    · rw [show (9999 : Int) + 1 = 10000 from rfl, dby9] at hn'
      have : monI (9999 + 1) = 3652062 := by decide
      omega
    · omega
end Mine
end
section
open PySem PySem.W PyProof.Rows PySem.Spec PySem.Calls PyProof.Rows.LCg
namespace Mine
theorem Fr.congr {g h : Heap} {L : Addr} {m m' : Str → Option Value} (e : ∀ z, m z = m' z) (F : Fr g L h m) : Fr g L h m' := by
  have : m = m' := funext e
  subst this; exact F
def IsCell (o : Obj) : Prop := ∃ v, o.data = .cell v
def notAt (a b : Addr) (l : List (Addr × Obj)) : List (Addr × Obj) := l.filter fun p => decide (p.1 ≠ a ∧ p.1 ≠ b)
theorem notAt_off {a b : Addr} {l : List (Addr × Obj)} : ∀ p ∈ notAt a b l, p.1 ≠ a ∧ p.1 ≠ b := fun p hp => of_decide_eq_true (List.mem_filter.mp hp).2
theorem notAt_sub {a b : Addr} {l : List (Addr × Obj)} : ∀ p ∈ notAt a b l, p ∈ l := fun p hp => (List.mem_filter.mp hp).1
theorem notAt_mem {a b : Addr} {l : List (Addr × Obj)} {p : Addr × Obj} (h : p ∈ l) (h1 : p.1 ≠ a) (h2 : p.1 ≠ b) : p ∈ notAt a b l := List.mem_filter.mpr ⟨h, decide_eq_true ⟨h1, h2⟩⟩
theorem apart {g h : Heap} {L c : Addr} {o oc : Obj} {a : Addr} {l : List (Addr × Obj)} (N : News g L h l) (hc : (c, oc) ∈ l) (ha : (a, o) ∈ l) (hC : IsCell oc) (hO : ¬ IsCell o) : a ≠ c := fun e => by
  have h1 := (N _ hc).1
  have h2 := (N _ ha).1
  simp only at h1 h2
  rw [e, h1] at h2
  cases h2
  exact hO hC
theorem seq_no {o : Obj} {v : Array Value} {n : Nat} (h : o.data = .seq v n) : ¬ IsCell o := fun ⟨x, e⟩ => by rw [h] at e; cases e
section
variable {prog : Program} {w : World} {A : Around} {E : Value → Shared → Prop} {s : Shared} {L : Addr} {m : Str → Option Value} {env : Env}
/-- the frame's names between two turns of the halving -/
abbrev mJ (lo hi : Int) (t1 t2 : Tok) (u : Option Value) (m₀ : Str → Option Value) : Str → Option Value := fun z => if z = "low" then some (.int lo t1) else if z = "high" then some (.int hi t2) else if z = "middle" then u else m₀ z
def HalfEnd (Wd : Heap → Prop) (L : Addr) (s : Shared) (m₀ : Str → Option Value) (cY cW : Addr) (rest : List (Addr × Obj)) (s₀ n : Int) (len : Nat) (lo hi : Int) (f : Flow) (s₃ : Shared) : Prop :=
  f = .next ∧ ∃ g h' tk m₂ lo' hi' t1 t2 u oY oW, s₃ = { s with heap := h', toks := tk } ∧ Wd g ∧ Fr g L h' m₂ ∧ (∀ z, m₂ z = mJ lo' hi' t1 t2 u m₀ z) ∧ News g L h' ((cY, oY) :: (cW, oW) :: rest) ∧ IsCell oY ∧ IsCell oW ∧
    0 ≤ lo' ∧ lo' < hi' ∧ hi' ≤ (len : Int) ∧ s₀ + 7 * lo' ≤ n ∧ (hi' = (len : Int) ∨ n < s₀ + 7 * hi') ∧ hi' - lo' < hi - lo
theorem HalfEnd.intro {Wd : Heap → Prop} {s : Shared} {m₀ m₂ : Str → Option Value} {cY cW : Addr} {rest all : List (Addr × Obj)} {s₀ n : Int} {len : Nat} {lo hi lo' hi' : Int} {g h' : Heap} {tk : Nat} {t1 t2 : Tok} {u : Option Value} {oY oW : Obj}
    (F : Fr g L h' m₂) (N : News g L h' all) (W : Wd g) (hz : ∀ z, m₂ z = mJ lo' hi' t1 t2 u m₀ z) (hs : ∀ p ∈ (cY, oY) :: (cW, oW) :: rest, p ∈ all) (cy : IsCell oY) (cw : IsCell oW)
    (b : 0 ≤ lo' ∧ lo' < hi' ∧ hi' ≤ (len : Int)) (h1 : s₀ + 7 * lo' ≤ n) (h2 : hi' = (len : Int) ∨ n < s₀ + 7 * hi') (h3 : hi' - lo' < hi - lo) : HalfEnd Wd L s m₀ cY cW rest s₀ n len lo hi .next { s with heap := h', toks := tk } :=
  ⟨rfl, g, h', tk, m₂, lo', hi', t1, t2, u, oY, oW, rfl, W, F, hz, fun p hp => N p (hs p hp), cy, cw, b.1, b.2.1, b.2.2, h1, h2, h3⟩
/-- halving a row of weeks, a chain from the day s₀, for the day n -/
theorem While_half {test : Expr} {body : List Stmt} {pos : Pos} {Q : Flow → Shared → Prop} {Wd : Heap → Prop} {g₁ : Heap} {all tl : List (Addr × Obj)} {m₀ : Str → Option Value} {ys : List Value} {ps : List (Int × Int)} {s₀ n : Int} {D da : Addr} {oY oW oD : Obj} {t1 t2 : Tok} {v₀ v₁ v₂ : Value} {kd : Nat}
    (F : Fr g₁ L s.heap (fun z => if z = "high" then some (.int (ps.length : Int) t2) else if z = "low" then some (.int 0 t1) else m₀ z)) (N : News g₁ L s.heap all) (W : Wd g₁) (hY : (L + 1 + 1 + 1, oY) ∈ all) (hW : (L + 1 + 1, oW) ∈ all) (hD : (L + 1, oD) ∈ all) (hR : (D, lst ys) ∈ all) (hA : (da, PySem.W.listOf #[v₀, v₁, v₂] kd) ∈ all)
    (cY : IsCell oY) (cW : IsCell oW) (has : AllHas PairIn tl ys ps) (hs : ∀ e ∈ tl, e ∈ all) (hch : Chain s₀ ps) (h1 : s₀ ≤ n) (h2 : n < s₀ + 7 * (ps.length : Int))
    (turn : ∀ lo hi t1 t2 u oY oW Y g h₁ tk₁, 0 ≤ lo → lo < hi → hi ≤ (ps.length : Int) → s₀ + 7 * lo ≤ n → (hi = (ps.length : Int) ∨ n < s₀ + 7 * hi) → Wd g → Fr g L h₁ (mJ lo hi t1 t2 u m₀) → News g L h₁ ((L + 1 + 1 + 1, oY) :: (L + 1 + 1, oW) :: (L + 1, oD) :: (D, lst ys) :: (da, PySem.W.listOf #[v₀, v₁, v₂] kd) :: Y) → IsCell oY → IsCell oW →
      (∀ p ∈ (L + 1, oD) :: (D, lst ys) :: (da, PySem.W.listOf #[v₀, v₁, v₂] kd) :: Y, p.1 ≠ L + 1 + 1 + 1 ∧ p.1 ≠ L + 1 + 1) → AllHas PairIn Y ys ps → (∀ p ∈ all, p.1 ≠ L + 1 + 1 + 1 → p.1 ≠ L + 1 + 1 → p ∈ Y) →
      wpAny (model prog w) A (isTrue test env (eval test env)) (fun b s₂ =>
        if b = true then wpAny (model prog w) A (execs body env) (HalfEnd Wd L s m₀ (L + 1 + 1 + 1) (L + 1 + 1) ((L + 1, oD) :: (D, lst ys) :: (da, PySem.W.listOf #[v₀, v₁, v₂] kd) :: Y) s₀ n ps.length lo hi) E s₂ else Q .next s₂) E { s with heap := h₁, toks := tk₁ })
    (hE : PassesOwn (model prog w) A env E := by passes_own) :
    wpAny (model prog w) A (exec (.While test body [] pos) env) Q E s := by
  have hlen : 0 < (ps.length : Int) := by omega
  have hz : ∀ z, (fun z => if z = "high" then some (.int (ps.length : Int) t2) else if z = "low" then some (.int 0 t1) else m₀ z : Str → Option Value) z = mJ 0 (ps.length : Int) t1 t2 (m₀ "middle") m₀ z := fun z => by
    show (if z = "high" then _ else _) = (if z = "low" then _ else _)
    by_cases e1 : z = "low"
    · subst e1; rfl
    · by_cases e2 : z = "high"
      · subst e2; rfl
      · by_cases e3 : z = "middle"
        · subst e3; rfl
        · simp only [if_neg e1, if_neg e2, if_neg e3]
  have nd : L + 1 + 1 + 1 ≠ L + 1 + 1 := Nat.ne_of_gt (Nat.lt_succ_self _)
  let Y := notAt (L + 1 + 1 + 1) (L + 1 + 1) all
  have inY : ∀ p ∈ all, ¬ IsCell p.2 → p ∈ Y := fun p hp hn => notAt_mem hp (apart N hY hp cY hn) (apart N hW hp cW hn)
  have hasY : AllHas PairIn Y ys ps := has.more fun v x ⟨a, t, u, e, hm⟩ => ⟨a, t, u, e, inY _ (hs _ hm) (seq_no rfl)⟩
  have dY : (L + 1, oD) ∈ Y := notAt_mem hD (Nat.ne_of_lt (Nat.lt_succ_of_lt (Nat.lt_succ_self _))) (Nat.ne_of_lt (Nat.lt_succ_self _))
  have rY : (D, lst ys) ∈ Y := inY _ hR (seq_no rfl)
  have aY : (da, PySem.W.listOf #[v₀, v₁, v₂] kd) ∈ Y := inY _ hA (seq_no rfl)
  have sub : ∀ p ∈ (L + 1, oD) :: (D, lst ys) :: (da, PySem.W.listOf #[v₀, v₁, v₂] kd) :: Y, p ∈ Y := fun p hp => by
    rcases List.mem_cons.mp hp with rfl | hp
    · exact dY
    rcases List.mem_cons.mp hp with rfl | hp
    · exact rY
    rcases List.mem_cons.mp hp with rfl | hp
    · exact aY
    · exact hp
  refine While_T (fun k m₁ news₁ => ∃ lo hi t1 t2 u oY oW, (∀ z, m₁ z = mJ lo hi t1 t2 u m₀ z) ∧ news₁ = (L + 1 + 1 + 1, oY) :: (L + 1 + 1, oW) :: (L + 1, oD) :: (D, lst ys) :: (da, PySem.W.listOf #[v₀, v₁, v₂] kd) :: Y ∧ IsCell oY ∧ IsCell oW ∧ k = (hi - lo).toNat ∧
      0 ≤ lo ∧ lo < hi ∧ hi ≤ (ps.length : Int) ∧ s₀ + 7 * lo ≤ n ∧ (hi = (ps.length : Int) ∨ n < s₀ + 7 * hi)) (n₀ := ((ps.length : Int) - 0).toNat) (news := (L + 1 + 1 + 1, oY) :: (L + 1 + 1, oW) :: (L + 1, oD) :: (D, lst ys) :: (da, PySem.W.listOf #[v₀, v₁, v₂] kd) :: Y)
    W F N (fun p hp => ?_) ⟨0, _, t1, t2, _, oY, oW, hz, rfl, cY, cW, rfl, by omega, hlen, by omega, by omega, .inl rfl⟩ ?_ hE
  · rcases List.mem_cons.mp hp with rfl | hp
    · exact hY
    rcases List.mem_cons.mp hp with rfl | hp
    · exact hW
    exact notAt_sub _ (sub p hp)
  · rintro k m₁ news₁ g h₁ tk₁ W₁ F₁ N₁ ⟨lo, hi, t1, t2, u, oY, oW, hz, rfl, cY, cW, rfl, b1, b2, b3, b4, b5⟩
    refine wpAny_mono (turn lo hi t1 t2 u oY oW Y g h₁ tk₁ b1 b2 b3 b4 b5 W₁ (Fr.congr hz F₁) N₁ cY cW (fun p hp => notAt_off p (sub p hp)) hasY (fun p hp => notAt_mem hp)) (fun b s₂ h₂ => ?_) fun _ _ e => e
    cases b with
    | false => simpa using h₂
    | true =>
      simp only [if_true] at h₂ ⊢
      refine wpAny_mono h₂ (fun f s₃ h₃ => ?_) fun _ _ e => e
      obtain ⟨rfl, g', h', tk, m₂, lo', hi', t1, t2, u, oY', oW', rfl, W₂, F₂, hz₂, N₂, c1, c2, d1, d2, d3, d4, d5, d6⟩ := h₃
      exact ⟨rfl, g', h', tk, m₂, _, (hi' - lo').toNat, rfl, W₂, F₂, N₂, by omega, lo', hi', t1, t2, u, oY', oW', hz₂, rfl, c1, c2, rfl, d1, d2, d3, d4, d5⟩

/-- a week out of the row -/
theorem row_item {value slice : Expr} {h₀ : Heap} {D : Addr} {news tl : List (Addr × Obj)} {ys : List Value} {ps : List (Int × Int)} {k : Int} {u : Tok} {Q : Value → Shared → Prop} (N : News h₀ L s.heap news) (hm : (D, lst ys) ∈ news) (hA : AllHas PairIn tl ys ps) (hl : ps.length ≤ 1000) (h0 : 0 ≤ k) (h1 : k < (ps.length : Int))
    (h : ∀ a p t u, ps[k.toNat]? = some p → (a, tup2 p.1 p.2 t u) ∈ tl → Q (.ref a) s)
    (hs : subscripted slice false (.ref D) (.int k u) = operate [.ref D, .int k u] (getItem (.ref D) (.int k u)) := by with_unfolding_all rfl) :
    wpAny (model prog w) A (subscriptTail value slice (.ref D) (.int k u)) Q E s := by
  have hlt : k.toNat < ps.length := by omega
  obtain ⟨v, e, a, t, u, rfl, hm'⟩ := hA.2 _ _ (List.getElem?_eq_getElem hlt)
  have hL : s.heap.IsList D ys.toArray := ⟨_, (N _ hm).1, rfl, _, rfl⟩
  exact tail_any hL.typeIs slot_list_getitem.lookup (wpAny_getItem_list hL h0 (by omega) (by simpa using e) (h a _ t u (List.getElem?_eq_getElem hlt) hm')) hs
/-- a tuple of two goes into two cells -/
theorem assign_cells {x x₂ : Str} {px px₂ tp : Pos} {tk} {cn : Str} {cs : Scope} {a₀ : Addr} {ccd : Value} {cl : List (Str × Addr)} {g : Heap} {rest : List (Addr × Obj)} {cY cW a : Addr} {oY oW : Obj} {p q : Int} {t u : Tok} {Q : Unit → Shared → Prop} (hh : A.handled = none) (F : Fr g L s.heap m) (N : News g L s.heap ((cY, oY) :: (cW, oW) :: rest)) (off : ∀ z ∈ rest, z.1 ≠ cY ∧ z.1 ≠ cW) (hne : cY ≠ cW) (hm : (a, tup2 p q t u) ∈ rest) (dY : IsCell oY) (dW : IsCell oW)
    (hY : cl.lookup x = some cY) (hW : cl.lookup x₂ = some cW) (kx : (envX cn cs L a₀ ccd cl).kindOf x = some .cell) (kx₂ : (envX cn cs L a₀ ccd cl).kindOf x₂ = some .cell) (hk : cs.kind = .function)
    (k : ∀ h' tk' oY' oW', Fr g L h' m → News g L h' ((cY, oY') :: (cW, oW') :: rest) → oY'.data = .cell (some (.int p t)) → oW'.data = .cell (some (.int q u)) → Q () { s with heap := h', toks := tk' }) :
    wpAny (model prog w) A (assign (.Tuple [.Name x px, .Name x₂ px₂] tk tp) (envX cn cs L a₀ ccd cl) (.ref a)) Q E s := by
  refine assign_Tuple_tuple (items := #[.int p t, .int q u]) hh ⟨_, (N _ (List.mem_cons_of_mem _ (List.mem_cons_of_mem _ hm))).1, rfl, _, rfl⟩ rfl rfl fun h₁ he => ?_
  have up : ∀ b o, s.heap.get? b = some o → h₁.get? b = some o := fun b o e => he b o (Nat.ne_of_lt (Heap.lt_size e)) e
  have F₁ := F.keeps up
  have N₁ := N.grown up
  obtain ⟨v1, e1⟩ := dY
  obtain ⟨v2, e2⟩ := dW
  have z := N₁ (cY, oY) (.head _)
  refine assignInOrder_cons (wpAny_assign_Name (wpAny_storeName_cell hk kx hY ⟨oY, z.1, e1⟩ fun h₂ hv₂ hs₂ => ?_))
  obtain ⟨oY', ho', hd'⟩ := hv₂
  have F₂ : Fr g L h₂ m := F₁.change hs₂ z.2.1 z.2.2
  have N₂ : News g L h₂ ((cY, oY') :: (cW, oW) :: rest) := fun q hq => by
    rcases List.mem_cons.mp hq with rfl | hq
    · exact ⟨ho', z.2⟩
    · have y := N₁ q (List.mem_cons_of_mem _ hq)
      refine ⟨hs₂.extBut _ _ ?_ y.1, y.2⟩
      rcases List.mem_cons.mp hq with rfl | hq
      · exact Ne.symm hne
      · exact (off q hq).1
  have z₂ := N₂ (cW, oW) (.tail _ (.head _))
  refine assignInOrder_cons (wpAny_assign_Name (wpAny_storeName_cell hk kx₂ hW ⟨oW, z₂.1, e2⟩ fun h₃ hv₃ hs₃ => ?_))
  obtain ⟨oW', ho₃, hd₃⟩ := hv₃
  refine assignInOrder_nil (k h₃ _ oY' oW' (F₂.change hs₃ z₂.2.1 z₂.2.2) (fun q hq => ?_) hd' hd₃)
  have y := N₂ q
  rcases List.mem_cons.mp hq with rfl | hq
  · exact ⟨hs₃.extBut _ _ hne (y (.head _)).1, (y (.head _)).2⟩
  rcases List.mem_cons.mp hq with rfl | hq
  · exact ⟨ho₃, z₂.2⟩
  · have y := N₂ q (List.mem_cons_of_mem _ (List.mem_cons_of_mem _ hq))
    exact ⟨hs₃.extBut _ _ (off q hq).2 y.1, y.2⟩
theorem len_has {h₀ : Heap} {D : Addr} {news tl : List (Addr × Obj)} {ys : List Value} {ps : List (Int × Int)} {Q : Value → Shared → Prop} (N : News h₀ L s.heap news) (hm : (D, lst ys) ∈ news) (hA : AllHas PairIn tl ys ps) (hl : ps.length ≤ 1000)
    (h : Q (.int (ps.length : Int) (s.toks + 1)) { s with toks := s.toks + 1 + 1 }) : wpAny (model prog w) A (call (.builtin "len") [.ref D]) Q E s := by
  have hL : s.heap.IsList D ys.toArray := ⟨_, (N _ hm).1, rfl, _, rfl⟩
  have e : ys.toArray.size = ps.length := by rw [List.size_toArray, hA.1]
  exact len_list hL (by rw [e]; omega) (by rw [e]; exact h)

/-- three ints in a list -/
def TripIn (tl : List (Addr × Obj)) (v : Value) (p : Int × Int × Int) : Prop := ∃ a t u r n, v = .ref a ∧ (a, PySem.W.listOf #[.int p.1 t, .int p.2.1 u, .int p.2.2 r] n) ∈ tl
theorem TripIn.mono (tl tl' : List (Addr × Obj)) (v : Value) (p : Int × Int × Int) (hs : ∀ e ∈ tl, e ∈ tl') (h : TripIn tl v p) : TripIn tl' v p := let ⟨a, t, u, r, n, e, hm⟩ := h; ⟨a, t, u, r, n, e, hs _ hm⟩
def qk (n : Int) (t : Int × Int × Int) : Bool := decide (monI t.1 + ((t.2.1 - 1) * 7 + (t.2.2 - 1)) = n)
theorem ListComp_days {elt iter c : Expr} {x : Str} {px : Pos} {scope : Scope} {cl : List (Str × Addr)} {pos : Pos} {Q : Value → Shared → Prop} {Wd : Heap → Prop} {g₁ : Heap} {ps : List (Int × Int)} {i : Nat} {p : Int × Int} (_hp : ps[i]? = some p) (F : Fr g₁ L s.heap m) (hW : Wd g₁)
    (hclos : closureFor scope env = pure cl) (hcell : ∀ y ∈ scope.names, y.2 ≠ .cell) (hkind : scope.kind = .function)
    (hnames : ∀ y ∈ scope.names, y.2 = .local → scope.names.lookup y.1 = some .local) (hx : scope.names.lookup x = some .local)
    (h : wpAny (model prog w) A (eval iter env) (RangeSrc (fun k => (p.1, p.2, k)) TripIn prog w A Wd L m env c elt x scope cl Q) E s)
    (hs : ∀ x, foldedSetIterable iter env x = pure x) :
    wpAny (model prog w) A (eval (.ListComp elt [⟨.Name x px, iter, [c], 0⟩] scope pos) env) Q E s :=
  ListComp_range (fun k => (p.1, p.2, k)) TripIn F hW hclos hcell hkind hnames hx (fun it v => by cases it <;> rfl) h hs
theorem RangeSrc.days {Wd : Heap → Prop} {c elt : Expr} {x : Str} {scope : Scope} {cl : List (Str × Addr)} {Q : Value → Shared → Prop} {f : Int → Int × Int × Int} {s₀ n : Int} {g₁ : Heap} {r : Addr} {t u v : Tok} {news₀ : List (Addr × Obj)} (_hn : s₀ ≤ n) (hh : A.handled = none) (F : Fr g₁ L s.heap m) (hW : Wd g₁) (N : News g₁ L s.heap news₀) (hr : IsRange s.heap r 1 8 1 t u v)
    (turn : ∀ (k : Int) (t : Tok) I oI C oC D m₂ ys tl g h tk (E' : Value → Shared → Prop), 1 ≤ k → k < 8 → m₂ x = some (.int k t) → NsObj oC m₂ → Wd g → Fr g L h m → News g L h ((I, oI) :: (C, oC) :: (D, lst ys) :: (news₀ ++ tl)) → Off3 I C D (news₀ ++ tl) → ((@Ne Nat I C) ∧ (@Ne Nat I D) ∧ (@Ne Nat C D)) →
      wpAny (model prog w) A (isTrue c (compEnvC scope cl C env) (eval c (compEnvC scope cl C env))) (fun ok s₃ => if ok = true then
        wpAny (model prog w) A (eval elt (compEnvC scope cl C env)) (fun y s₄ => TurnEnd Wd L m { s with heap := h, toks := tk } I oI C oC D (lst ys) news₀ (Yields TripIn (qk n) (f k) tl y) s₄) E' s₃
        else TurnEnd Wd L m { s with heap := h, toks := tk } I oI C oC D (lst ys) news₀ (Leaves (qk n) (f k) tl) s₃) E' { s with heap := h, toks := tk })
    (fin : ∀ D g h tk ys tl, AllHas TripIn tl ys (((rangeKs 1 7).map f).filter (qk n)) → Wd g → Fr g L h m → News g L h ((D, lst ys) :: (news₀ ++ tl)) → (∀ p ∈ news₀ ++ tl, p.1 ≠ D) → Q (.ref D) { s with heap := h, toks := tk }) :
    RangeSrc f TripIn prog w A Wd L m env c elt x scope cl Q (.ref r) s :=
  ⟨g₁, r, 1, 8, t, u, v, 7, news₀, qk n, rfl, hh, hW, F, N, hr, by decide, by rfl, by decide, TripIn.mono, fun k t I oI C oC D m₂ ys tl g h tk E' h1 h2 => turn k t I oI C oC D m₂ ys tl g h tk E' h1 (by omega), fin⟩
theorem yield_trip {Wd : Heap → Prop} {q : Int × Int × Int → Bool} {I C D T : Addr} {oI oC oD : Obj} {news₀ tl all : List (Addr × Obj)} {a b c : Int} {t u v : Tok} {k : Nat} {r : Int × Int × Int} {g h' : Heap} {tk : Nat} (F : Fr g L h' m) (N : News g L h' all) (hW : Wd g) (hs : ∀ p ∈ (T, PySem.W.listOf #[.int a t, .int b u, .int c v] k) :: (I, oI) :: (C, oC) :: (D, oD) :: (news₀ ++ tl), p ∈ all) (off : Off3 I C D (news₀ ++ tl)) (hT : @LT.lt Nat _ I T ∧ @LT.lt Nat _ C T ∧ @LT.lt Nat _ D T) (hr : r = (a, b, c)) (hq : q r = true) :
    TurnEnd Wd L m s I oI C oC D oD news₀ (Yields TripIn q r tl (.ref T)) { s with heap := h', toks := tk } := by
  subst hr
  refine ⟨g, h', tk, (T, PySem.W.listOf #[.int a t, .int b u, .int c v] k) :: tl, rfl, hW, F, fun z hz => N z (hs z ?_), Off3.of fun z hz => ?_, hq, ⟨T, t, u, v, k, rfl, .head _⟩, fun e he => .tail _ he⟩
  · simp only [List.mem_cons, List.mem_append] at hz ⊢
    rcases hz with h | h | h | h | h | h
    · exact .inr (.inl h)
    · exact .inr (.inr (.inl h))
    · exact .inr (.inr (.inr (.inl h)))
    · exact .inr (.inr (.inr (.inr (.inl h))))
    · exact .inl h
    · exact .inr (.inr (.inr (.inr (.inr h))))
  · simp only [List.mem_append, List.mem_cons] at hz
    rcases hz with h | rfl | h
    · exact off.mem z (List.mem_append_left _ h)
    · exact ⟨Nat.ne_of_gt hT.1, Nat.ne_of_gt hT.2.1, Nat.ne_of_gt hT.2.2⟩
    · exact off.mem z (List.mem_append_right _ h)
end
theorem chain_at {s : Int} {l : List (Int × Int)} {i : Nat} {p : Int × Int} (h : Chain s l) (e : l[i]? = some p) : 1 ≤ p.1 ∧ p.1 ≤ 9999 ∧ 1 ≤ p.2 ∧ p.2 ≤ 53 ∧ WeekOk p.1 p.2 ∧ monI p.1 + (p.2 - 1) * 7 = s + 7 * (i : Int) := h i p e
theorem bad_no {y w d : Int} {m : PySem.Str} (h : badG y w d = some m) (h1 : 1 ≤ y) (h2 : y ≤ 9999) (hw : WeekOk y w) (h3 : 1 ≤ d) (h4 : d ≤ 7) : False := by
  rw [gN h1 h2 hw (by omega) (by omega)] at h; cases h
theorem mid_lo {lo hi : Int} (h1 : 0 ≤ lo) (h2 : lo < hi) : 0 ≤ (lo + hi).fdiv 2 := by rw [Int.fdiv_eq_ediv_of_nonneg _ (by decide)]; omega
theorem mid_hi {lo hi n : Int} (h2 : lo < hi) (h3 : hi ≤ n) : (lo + hi).fdiv 2 < n := by rw [Int.fdiv_eq_ediv_of_nonneg _ (by decide)]; omega
theorem mid_in {lo hi : Int} (h : 1 < hi - lo) : lo < (lo + hi).fdiv 2 ∧ (lo + hi).fdiv 2 < hi := by rw [Int.fdiv_eq_ediv_of_nonneg _ (by decide)]; omega

section
variable {L : Addr} {Wd : Heap → Prop} {s : Shared} {m₀ : Str → Option Value} {cY cW : Addr} {rest all : List (Addr × Obj)} {s₀ n : Int} {len : Nat} {lo hi mid : Int} {g h' : Heap} {tk : Nat} {t t1 t2 : Tok} {v : Value} {u : Option Value} {oY oW : Obj}
theorem HalfEnd.low (F : Fr g L h' (fun z => if z = "low" then some (.int mid t) else if z = "middle" then some v else mJ lo hi t1 t2 u m₀ z)) (N : News g L h' all) (W : Wd g) (hs : ∀ p ∈ (cY, oY) :: (cW, oW) :: rest, p ∈ all) (cy : IsCell oY) (cw : IsCell oW)
    (h0 : 0 ≤ lo) (h1 : lo < mid ∧ mid < hi) (h2 : hi ≤ (len : Int)) (hle : s₀ + 7 * mid ≤ n) (hh : hi = (len : Int) ∨ n < s₀ + 7 * hi) : HalfEnd Wd L s m₀ cY cW rest s₀ n len lo hi .next { s with heap := h', toks := tk } := by
  refine HalfEnd.intro (lo' := mid) (hi' := hi) (t1 := t) (t2 := t2) (u := some v) F N W (fun z => ?_) hs cy cw ⟨by omega, h1.2, h2⟩ hle hh (by omega)
  show (if z = "low" then _ else _) = (if z = "low" then _ else _)
  by_cases e1 : z = "low"
  · subst e1; rfl
  · by_cases e2 : z = "high"
    · subst e2; rfl
    · by_cases e3 : z = "middle"
      · subst e3; rfl
      · simp only [if_neg e1, if_neg e2, if_neg e3]
theorem HalfEnd.high (F : Fr g L h' (fun z => if z = "high" then some (.int mid t) else if z = "middle" then some v else mJ lo hi t1 t2 u m₀ z)) (N : News g L h' all) (W : Wd g) (hs : ∀ p ∈ (cY, oY) :: (cW, oW) :: rest, p ∈ all) (cy : IsCell oY) (cw : IsCell oW)
    (h0 : 0 ≤ lo) (h1 : lo < mid ∧ mid < hi) (h2 : hi ≤ (len : Int)) (hle : s₀ + 7 * lo ≤ n) (hh : n < s₀ + 7 * mid) : HalfEnd Wd L s m₀ cY cW rest s₀ n len lo hi .next { s with heap := h', toks := tk } := by
  refine HalfEnd.intro (lo' := lo) (hi' := mid) (t1 := t1) (t2 := t) (u := some v) F N W (fun z => ?_) hs cy cw ⟨by omega, h1.1, by omega⟩ hle (.inr hh) (by omega)
  show (if z = "high" then _ else _) = (if z = "low" then _ else _)
  by_cases e1 : z = "low"
  · subst e1; rfl
  · by_cases e2 : z = "high"
    · subst e2; rfl
    · by_cases e3 : z = "middle"
      · subst e3; rfl
      · simp only [if_neg e1, if_neg e2, if_neg e3]
end
theorem mid_le {k n s : Int} {a b : Int} (h0 : 0 ≤ k) (h6 : a + b * 7 = s + 7 * (k.toNat : Int)) (h : a + (b * 7 + (1 - 1)) ≤ n) : s + 7 * k ≤ n := by omega
theorem mid_gt {k n s : Int} {a b : Int} (h0 : 0 ≤ k) (h6 : a + b * 7 = s + 7 * (k.toNat : Int)) (h : ¬ a + (b * 7 + (1 - 1)) ≤ n) : n < s + 7 * k := by omega
/-- a contract as CtrT, that says nothing of where the new things lie -/
abbrev CtrU (prog : Program) (w : World) (K : Frag) (p : Program) (loose : List Str) (mean : ExcName → Option Value) (mg mb : Str → Option Value) (f : Addr) (d u : Nat) (vs : List Value) (pre : List (Addr × Obj) → Prop) (P : Value → List (Addr × Obj) → Prop) : Prop :=
  ∀ (dp un : Nat) (gd : Option (List Code)) (cn : Str) (cs : Scope) (a : Addr) (ccd : Value) (cl : List (Str × Addr)) (outer : List Env) (A₀ : Around) (base h₀ g₀ : Heap) (L : Addr) (m : Str → Option Value) (news : List (Addr × Obj)) (s : Shared) (Q E : Value → Shared → Prop),
    Below A₀ base outer h₀ → Fr h₀ L s.heap m → K.In h₀ → News h₀ L s.heap news → Top p loose mean mg mb h₀ → K.In base → Top p loose mean mg mb base → KtsDicts (outer.filterMap (·.frame)) h₀ → KtsTurn (outer.filterMap (·.frame)) g₀ h₀ → cs.kind = .function →
    dp + d < recursionLimit → un + u < cLine → pre news →
    (∀ (g' : Heap) (v : Value) (new : List (Addr × Obj)) (h' : Heap) (tk' : Nat), P v new → KtsTurn (outer.filterMap (·.frame)) g₀ g' → Fr g' L h' m → News g' L h' (new ++ news) → Below A₀ base outer g' → K.In g' → Top p loose mean mg mb g' → KtsDicts (outer.filterMap (·.frame)) g' → Q v { s with heap := h', toks := tk' }) →
    wpAny (model prog w) (ktrTop dp un gd cn cs L a ccd cl outer) (call (.ref f) vs) Q E s
section
variable {prog : Program} {w : World} {K : Frag} {p : Program} {loose : List Str} {mean : ExcName → Option Value} {mg mb : Str → Option Value} {f : Addr} {d u : Nat} {vs : List Value}
   {dp un : Nat} {gd : Option (List Code)} {cn : Str} {cs : Scope} {a : Addr} {ccd : Value} {cl : List (Str × Addr)} {outer : List Env} {A₀ : Around} {base h₀ g₀ : Heap} {L : Addr} {m : Str → Option Value} {news : List (Addr × Obj)} {s : Shared} {Q E : Value → Shared → Prop}
theorem useU {pre : List (Addr × Obj) → Prop} {P : Value → List (Addr × Obj) → Prop} (h : CtrU prog w K p loose mean mg mb f d u vs pre P)
    (B : Below A₀ base outer h₀) (F : Fr h₀ L s.heap m) (X : K.In h₀) (N : News h₀ L s.heap news) (T : Top p loose mean mg mb h₀) (XB : K.In base) (TB : Top p loose mean mg mb base) (D : KtsDicts (outer.filterMap (·.frame)) h₀) (T0 : KtsTurn (outer.filterMap (·.frame)) g₀ h₀) (hk : cs.kind = .function)
    (hd : dp + d < recursionLimit) (hu : un + u < cLine) (hp : pre news)
    (h1 : ∀ (g' : Heap) (v : Value) (new : List (Addr × Obj)) (h' : Heap) (tk' : Nat), P v new → KtsTurn (outer.filterMap (·.frame)) g₀ g' → Fr g' L h' m → News g' L h' (new ++ news) → Below A₀ base outer g' → K.In g' → Top p loose mean mg mb g' → KtsDicts (outer.filterMap (·.frame)) g' → Q v { s with heap := h', toks := tk' }) :
    wpAny (model prog w) (ktrTop dp un gd cn cs L a ccd cl outer) (call (.ref f) vs) Q E s :=
  h dp un gd cn cs a ccd cl outer A₀ base h₀ g₀ L m news s Q E B F X N T XB TB D T0 hk hd hu hp h1
theorem endU {g' h' : Heap} {news' : List (Addr × Obj)} {P : Value → List (Addr × Obj) → Prop} {v : Value} {tk' : Nat}
    (hret : ∀ (g' : Heap) (v : Value) (new : List (Addr × Obj)) (h' : Heap) (tk' : Nat), P v new → KtsTurn (outer.filterMap (·.frame)) g₀ g' → Fr g' L h' m → News g' L h' (new ++ news) → Below A₀ base outer g' → K.In g' → Top p loose mean mg mb g' → KtsDicts (outer.filterMap (·.frame)) g' → Q v { s with heap := h', toks := tk' })
    (new : List (Addr × Obj)) (e : P v new) (T : KtsTurn (outer.filterMap (·.frame)) g₀ g') (F : Fr g' L h' m) (N : News g' L h' news') (hs : ∀ p ∈ new ++ news, p ∈ news') (B : Below A₀ base outer g') (X : K.In g') (T' : Top p loose mean mg mb g') (D : KtsDicts (outer.filterMap (·.frame)) g') : Q v { s with heap := h', toks := tk' } :=
  hret g' v new h' tk' e T F (fun q hq => N q (hs q hq)) B X T' D
end
/-- a list of one list: the name of the day n -/
def IsFound (n : Int) (v : Value) (new : List (Addr × Obj)) : Prop := ∃ (l a : Addr) (j : Nat) (o : Obj), v = .ref l ∧ new = [(l, PySem.W.listOf #[.ref a] j), (a, o)] ∧ IsName n o
theorem rangeKs7 : rangeKs 1 7 = [1, 2, 3, 4, 5, 6, 7] := by decide
theorem filter_days {Y W b n : Int} (hb : monI Y + (W - 1) * 7 = b) (h1 : b ≤ n) (h2 : n < b + 7) : ((rangeKs 1 7).map fun k => (Y, W, k)).filter (qk n) = [(Y, W, n - b + 1)] := by
  rw [rangeKs7]
  have q : ∀ k : Int, qk n (Y, W, k) = decide (k = n - b + 1) := fun k => by
    show decide (monI Y + ((W - 1) * 7 + (k - 1)) = n) = _
    by_cases h : k = n - b + 1
    · rw [decide_eq_true h, decide_eq_true (by omega)]
    · rw [decide_eq_false h, decide_eq_false (by omega)]
  simp only [List.map_cons, List.map_nil, List.filter_cons, List.filter_nil, q]
  have e : n - b + 1 = 1 ∨ n - b + 1 = 2 ∨ n - b + 1 = 3 ∨ n - b + 1 = 4 ∨ n - b + 1 = 5 ∨ n - b + 1 = 6 ∨ n - b + 1 = 7 := by omega
  rcases e with e | e | e | e | e | e | e <;> rw [e] <;> simp
/-- what the blocks have found -/
theorem found {Y W n s₀ lo : Int} {i : Nat} {tl : List (Addr × Obj)} {ys : List Value} {D : Addr} (hA : AllHas TripIn tl ys (((rangeKs 1 7).map fun k => (Y, W, k)).filter (qk n))) (h1 : 1 ≤ Y) (h2 : Y ≤ 9999) (hw : WeekOk Y W) (h6 : monI Y + (W - 1) * 7 = s₀ + 7 * (i : Int)) (hi : (i : Int) = lo) (b1 : s₀ + 7 * lo ≤ n) (b2 : n < s₀ + 7 * (lo + 1)) :
    ∃ a o, (a, o) ∈ tl ∧ IsFound n (.ref D) [(D, lst ys), (a, o)] := by
  rw [filter_days h6 (by omega) (by omega)] at hA
  obtain ⟨v, e, a, t, u, r, j, rfl, hm⟩ := hA.2 0 _ rfl
  have ey : ys = [.ref a] := by
    have hl := hA.1
    cases ys with
    | nil => simp at hl
    | cons v vs =>
      cases vs with
      | nil => simp at e; rw [e]
      | cons _ _ => simp at hl
  subst ey
  exact ⟨a, _, hm, D, a, _, _, rfl, rfl, Y, W, _, t, u, r, j, rfl, h1, h2, hw, by show (1 : Int) ≤ n - (s₀ + 7 * (i : Int)) + 1; omega, by show n - (s₀ + 7 * (i : Int)) + 1 ≤ (7 : Int); omega, by show monI Y + (W - 1) * 7 + (n - (s₀ + 7 * (i : Int)) + 1 - 1) = n; omega⟩
theorem found' {Y W n s₀ lo hi : Int} {len : Nat} {tl : List (Addr × Obj)} {ys : List Value} (hA : AllHas TripIn tl ys (((rangeKs 1 7).map fun k => (Y, W, k)).filter (qk n))) (h1 : 1 ≤ Y) (h2 : Y ≤ 9999) (hw : WeekOk Y W) (h6 : monI Y + (W - 1) * 7 = s₀ + 7 * (lo.toNat : Int)) (b1 : 0 ≤ lo) (b2 : lo < hi) (bt : ¬ 1 < hi - lo) (b4 : s₀ + 7 * lo ≤ n) (b5 : hi = (len : Int) ∨ n < s₀ + 7 * hi) (hs : n < s₀ + 7 * (len : Int)) :
    ∃ a o, (a, o) ∈ tl ∧ ∀ D, IsFound n (.ref D) [(D, lst ys), (a, o)] := by
  have key := fun D => found (D := D) hA h1 h2 hw h6 (show ((lo.toNat : Nat) : Int) = lo by omega) b4 (by rcases b5 with rfl | b5 <;> omega)
  obtain ⟨a, o, hm, l, a', j, o', e1, e2, e3⟩ := key 0
  simp only [List.cons.injEq, Prod.mk.injEq, and_true] at e2
  obtain ⟨⟨_, e4⟩, rfl, rfl⟩ := e2
  exact ⟨a, o, hm, fun D => ⟨D, a, j, o, rfl, by rw [e4], e3⟩⟩
theorem below3 {news : List (Addr × Obj)} {L : Addr} (h : ∀ p ∈ news, p.1 < L) : ∀ p ∈ news, p.1 ≠ L + 1 + 1 + 1 ∧ p.1 ≠ L + 1 + 1 := fun p hp => by
  have : @LT.lt Nat _ p.1 L := h p hp
  exact ⟨Nat.ne_of_lt (by omega), Nat.ne_of_lt (by omega)⟩
end Mine
end
section
open PySem PySem.W PyProof.Rows PySem.Spec PySem.Calls PySem.MeetsSeq PySem.MeetsSeq3
open PySem.AutoSeq1 (wpAny_loadPart')
namespace Mine
def leLex : List Int → List Int → Bool
  | x :: xs, y :: ys => if x = y then leLex xs ys else decide (x ≤ y)
  | _, _ => true
set_option maxHeartbeats 16000000 in
theorem le_loop (l b : Addr) (n n2 : Nat) : ∀ (vs us : List Value) (ns ms : List Int) (pre pre2 : List Value), IntsAre vs ns → IntsAre us ms → vs.length = us.length → pre.length = pre2.length →
    Meets (Builtin.«list.__eq__.loop» ⟨[.ref l, .ref b, rawInt (pre.length : Int), rawInt 1], []⟩)
      (fun _ R s => s.heap.get? l = some { cls := .type "list", dict := none, data := .seq (pre ++ vs).toArray n, slots := #[] } ∧ s.heap.get? b = some { cls := .type "list", dict := none, data := .seq (pre2 ++ us).toArray n2, slots := #[] } ∧
        R (.ok (.ret (.bool (leLex ns ms)))) s) := by
  intro vs
  induction vs with
  | nil =>
    intro us ns ms pre pre2 h1 h2 h3 h4 prog w A R s h
    obtain ⟨hp, g, d, tk, os⟩ := s; obtain ⟨hl, hb, h⟩ := h
    cases h1
    cases us with
    | cons _ _ => simp at h3
    | nil =>
      cases h2
      simp only [List.append_nil] at hl hb
      wp_walk using wpAny_loadPart' hl, wpAny_loadPart' hb
      have hi1 : pre.toArray[((pre.length : Nat) : Int).toNat]? = none := by simp
      have hi2 : pre2.toArray[((pre.length : Nat) : Int).toNat]? = none := by simp [h4]
      rw [hi1, hi2]
      wp_walk using wpAny_loadPart' hl, wpAny_loadPart' hb
      show R (.ok (.ret (.bool (decide (pre.toArray.size ≤ pre2.toArray.size))))) _
      rw [List.size_toArray, List.size_toArray, h4]
      simpa [leLex] using h
  | cons v vs ih =>
    intro us ns ms pre pre2 h1 h2 h3 h4 prog w A R s h
    obtain ⟨hp, g, d, tk, os⟩ := s; obtain ⟨hl, hb, h⟩ := h
    cases us with
    | nil => simp at h3
    | cons u us =>
      cases h1 with
      | cons x t r1 =>
      cases h2 with
      | cons y t' r2 =>
      wp_walk using wpAny_loadPart' hl, wpAny_loadPart' hb
      have hi1 : (pre ++ Value.int x t :: vs).toArray[((pre.length : Nat) : Int).toNat]? = some (.int x t) := by simp
      have hi2 : (pre2 ++ Value.int y t' :: us).toArray[((pre.length : Nat) : Int).toNat]? = some (.int y t') := by simp [h4]
      rw [hi1, hi2]
      refine wpAny_bind (EqGives.int x y t t' prog w _ _ _ _ ?_)
      have hc : ((pre.length : Int) + 1) = (((pre ++ [Value.int x t]).length : Nat) : Int) := by simp
      by_cases e : x = y
      · rw [show (x == y) = true by simpa using e]
        wp_walk
        rw [hc]
        refine ⟨plainId_quiet plain_eq_loop _, codeAny_builtin entry_eq_loop (by
          rw [Around.under_plainId plain_eq_loop _]
          exact ih us _ _ (pre ++ [Value.int x t]) (pre2 ++ [Value.int y t']) r1 r2 (by simpa using h3) (by simp [h4]) prog w A R _ ⟨by simpa using hl, by simpa using hb, by simpa [leLex, e] using h⟩)⟩
      · rw [show (x == y) = false by simpa using e]
        wp_walk using wpAny_loadPart' hl, wpAny_loadPart' hb
        rw [hi1, hi2]
        refine wpAny_bind (show wpAny _ _ (richCompare .LtE (.int x t) (.int y t')) _ _ _ from PyProof.Rows.le_int ?_)
        refine wpAny_pure ?_
        simpa [leLex, e] using h
set_option maxHeartbeats 16000000 in
theorem list_le (l b : Addr) (n n2 : Nat) (vs us : List Value) (ns ms : List Int) (h1 : IntsAre vs ns) (h2 : IntsAre us ms) (h3 : vs.length = us.length) :
    Meets (Builtin.«list.__le__» ⟨[.ref l, .ref b], []⟩)
      (fun _ R s => s.heap.get? l = some { cls := .type "list", dict := none, data := .seq vs.toArray n, slots := #[] } ∧ s.heap.get? b = some { cls := .type "list", dict := none, data := .seq us.toArray n2, slots := #[] } ∧
        R (.ok (.ret (.bool (leLex ns ms)))) s) := by
  intro prog w A R s h
  obtain ⟨hp, g, d, tk, os⟩ := s; obtain ⟨hl, hb, h⟩ := h
  have f3 := AutoSeq1.sub_list_list
  wp_walk using wpAny_loadPart' hl, wpAny_loadPart' hb
  exact ⟨plainId_quiet plain_eq_loop _, codeAny_builtin entry_eq_loop (by
    rw [Around.under_plainId plain_eq_loop _]
    exact le_loop l b n n2 vs us ns ms [] [] h1 h2 h3 rfl prog w A R _ ⟨hl, hb, h⟩)⟩
section
variable {prog : Program} {w : World} {A : Around} {E : Value → Shared → Prop} {s : Shared} {h₀ : Heap} {L a b : Addr} {news : List (Addr × Obj)}
theorem le_lists {vs us : List Value} {ns ms : List Int} {n n2 : Nat} {Q : Value → Shared → Prop} (N : News h₀ L s.heap news) (ha : (a, ({ cls := .type "list", data := .seq vs.toArray n } : Obj)) ∈ news) (hb : (b, ({ cls := .type "list", data := .seq us.toArray n2 } : Obj)) ∈ news) (h1 : IntsAre vs ns) (h2 : IntsAre us ms) (h3 : vs.length = us.length) (hu : A.units < cLine)
    (h : Q (.bool (leLex ns ms)) s) : wpAny (model prog w) A (compareOp .LtE (.ref a) (.ref b)) Q E s :=
  cmp_ofLtE (wpAny_richCompare_same_room (op := .LtE) ⟨_, (N _ ha).1, rfl⟩ ⟨_, (N _ hb).1, rfl⟩ F.slot_list_le
    (call_meets F.slot_list_le ⟨_, (N _ ha).1, rfl⟩ F.entry_list_le (F.args_list_le_2 _ _) (list_le a b n n2 vs us ns ms h1 h2 h3) ⟨(N _ ha).1, (N _ hb).1, ⟨by simp, h⟩⟩) hu)
end
theorem ints3 {a b c : Int} {t u v : Tok} : IntsAre [.int a t, .int b u, .int c v] [a, b, c] := .cons _ _ (.cons _ _ (.cons _ _ .nil))
/-- the order of dates is the order of their numbers -/
theorem dby_mono {y y' : Int} (h : y ≤ y') : dbyI y ≤ dbyI y' := by unfold dbyI; omega
theorem dbm_tab : ∀ (a b : Fin 13) (lp : Bool), 1 ≤ a.val → a.val < b.val →
    ([-1, 0, 31, 59, 90, 120, 151, 181, 212, 243, 273, 304, 334].getD a.val 0 + if 2 < (a.val : Int) ∧ lp = true then 1 else 0) + (if (a.val : Int) = 2 ∧ lp = true then 29 else [-1, 31, 28, 31, 30, 31, 30, 31, 31, 30, 31, 30, 31].getD a.val 0) ≤
    (([-1, 0, 31, 59, 90, 120, 151, 181, 212, 243, 273, 304, 334].getD b.val 0 + if 2 < (b.val : Int) ∧ lp = true then 1 else 0 : Int)) := by decide +kernel
theorem dbm_step {y m m' : Int} (h1 : 1 ≤ m) (h2 : m < m') (h3 : m' ≤ 12) : dbmI y m + dimI y m ≤ dbmI y m' := by
  have := dbm_tab ⟨m.toNat, by omega⟩ ⟨m'.toNat, by omega⟩ (leapB y) (by show 1 ≤ m.toNat; omega) (by show m.toNat < m'.toNat; omega)
  have e1 : ((m.toNat : Nat) : Int) = m := by omega
  have e2 : ((m'.toNat : Nat) : Int) = m' := by omega
  simp only [e1, e2] at this
  exact this
section
variable {y m d y' m' d' : Int} (a1 : 1 ≤ m) (a2 : m ≤ 12) (a3 : 1 ≤ d) (a4 : d ≤ dimI y m) (b1 : 1 ≤ m') (b2 : m' ≤ 12) (b3 : 1 ≤ d') (b4 : d' ≤ dimI y' m')
include a1 a2 a3 a4 b1 b2 b3 b4
theorem lex_lt (h : y < y' ∨ y = y' ∧ (m < m' ∨ m = m' ∧ d < d')) : ordI y m d < ordI y' m' d' := by
  have hb := dbm_bound a1 a2 a3 a4
  have hb' := dbm_bound b1 b2 b3 b4
  unfold ordI
  rcases h with h | ⟨rfl, h | ⟨rfl, h⟩⟩
  · have h1 := dby_succ y
    have h2 := dby_mono (show y + 1 ≤ y' by omega)
    omega
  · have := dbm_step (y := y) a1 h b2
    omega
  · omega
theorem lex_le : leLex [y, m, d] [y', m', d'] = decide (ordI y m d ≤ ordI y' m' d') := by
  have hlt := lex_lt a1 a2 a3 a4 b1 b2 b3 b4
  have hgt := lex_lt b1 b2 b3 b4 a1 a2 a3 a4
  simp only [leLex]
  by_cases e1 : y = y'
  · rw [if_pos e1]
    by_cases e2 : m = m'
    · rw [if_pos e2]
      by_cases e3 : d = d'
      · rw [if_pos e3]; subst e1 e2 e3; simp
      · rw [if_neg e3]
        by_cases e4 : d ≤ d'
        · have := hlt (.inr ⟨e1, .inr ⟨e2, by omega⟩⟩)
          rw [decide_eq_true e4, decide_eq_true (by omega)]
        · have := hgt (.inr ⟨e1.symm, .inr ⟨e2.symm, by omega⟩⟩)
          rw [decide_eq_false e4, decide_eq_false (by omega)]
    · rw [if_neg e2]
      by_cases e4 : m ≤ m'
      · have := hlt (.inr ⟨e1, .inl (by omega)⟩)
        rw [decide_eq_true e4, decide_eq_true (by omega)]
      · have := hgt (.inr ⟨e1.symm, .inl (by omega)⟩)
        rw [decide_eq_false e4, decide_eq_false (by omega)]
  · rw [if_neg e1]
    by_cases e4 : y ≤ y'
    · have := hlt (.inl (by omega))
      rw [decide_eq_true e4, decide_eq_true (by omega)]
    · have := hgt (.inl (by omega))
      rw [decide_eq_false e4, decide_eq_false (by omega)]
theorem lex_eq (h : ordI y m d = ordI y' m' d') : [y, m, d] = [y', m', d'] := by
  have hlt := lex_lt a1 a2 a3 a4 b1 b2 b3 b4
  have hgt := lex_lt b1 b2 b3 b4 a1 a2 a3 a4
  have e1 : y = y' := by
    rcases Int.lt_trichotomy y y' with q | q | q
    · have := hlt (.inl q); omega
    · exact q
    · have := hgt (.inl q); omega
  have e2 : m = m' := by
    rcases Int.lt_trichotomy m m' with q | q | q
    · have := hlt (.inr ⟨e1, .inl q⟩); omega
    · exact q
    · have := hgt (.inr ⟨e1.symm, .inl q⟩); omega
  have e3 : d = d' := by
    rcases Int.lt_trichotomy d d' with q | q | q
    · have := hlt (.inr ⟨e1, .inr ⟨e2, q⟩⟩); omega
    · exact q
    · have := hgt (.inr ⟨e1.symm, .inr ⟨e2.symm, q⟩⟩); omega
  subst e1 e2 e3; rfl
end
end Mine
end
section
open PySem PySem.W PyProof.Rows PySem.Spec PySem.Calls
namespace Mine
section
variable {prog : Program} {w : World} {A : Around} {E : Value → Shared → Prop} {s : Shared} {env : Env} {h₀ : Heap} {x : Str} {body : List Stmt} {Q : Flow → Shared → Prop}
/-- a turn's end: the ledger stands -/
def LoopPost (h₀ : Heap) (L : Addr) (need : List (Addr × Obj)) (s : Shared) (Q : Flow → Shared → Prop) (f : Flow) (s₂ : Shared) : Prop := match f with
  | .ret v => Q (.ret v) s₂
  | .brk => Q .next s₂
  | _ => ∃ h' tk m' news', s₂ = { s with heap := h', toks := tk } ∧ Fr h₀ L h' m' ∧ News h₀ L h' news' ∧ ∀ p ∈ need, p ∈ news'
theorem LoopPost.next {L : Addr} {need news' : List (Addr × Obj)} {s : Shared} {Q : Flow → Shared → Prop} {h' : Heap} {tk : Nat} {m' : Str → Option Value} (F : Fr h₀ L h' m') (N : News h₀ L h' news') (hs : ∀ p ∈ need, p ∈ news') : LoopPost h₀ L need s Q .next { s with heap := h', toks := tk } := ⟨h', tk, m', news', rfl, F, N, hs⟩
/-- a loop over a made list of ints whose turns keep nothing -/
theorem loop_ints {l : Addr} {vs : List Value} {ns : List Int} {nn : Nat} {m₀ : Str → Option Value} {news : List (Addr × Obj)} (hh : A.handled = none) (F : Fr h₀ env.locals s.heap m₀) (N : News h₀ env.locals s.heap news) (hm : (l, W.listOf vs.toArray nn) ∈ news) (hi : IntsAre vs ns)
    (turn : ∀ (n : Int) (t : Tok) (m₁ : Str → Option Value) (h : Heap) (tk : Nat) (own : List (Addr × Obj)), n ∈ ns → Fr h₀ env.locals h (fun y => if y = x then some (.int n t) else m₁ y) → News h₀ env.locals h ((l, W.listOf vs.toArray nn) :: own) →
      wpAny (model prog w) A (execs body env) (LoopPost h₀ env.locals ((l, W.listOf vs.toArray nn) :: own) { s with heap := h, toks := tk } Q) E { s with heap := h, toks := tk })
    (done : ∀ (m₁ : Str → Option Value) (h : Heap) (tk : Nat), Fr h₀ env.locals h m₁ → News h₀ env.locals h [] → Q .next { s with heap := h, toks := tk }) :
    wpAny (model prog w) A (pyIter (.ref l)) (fun it s₂ => LoopAtV prog w A h₀ env x body Q E it s₂) E s := by
  refine kdl_iter (news := [(l, W.listOf vs.toArray nn)]) (fun _ _ nx => nx = [(l, W.listOf vs.toArray nn)]) hh (.head _) F (fun p hp => by rw [List.mem_singleton.mp hp]; exact N _ hm) rfl ?_ ?_
  · rintro i v m₁ nx h tk own hv hoff _ rfl F₁ N₁
    have hi' : i < ns.length := by rw [← hi.length]; exact (List.getElem?_eq_some_iff.mp hv).1
    obtain ⟨t, hx⟩ := hi.get i (ns[i]'hi') (List.getElem?_eq_getElem hi')
    have ev : v = .int (ns[i]'hi') t := by rw [hx] at hv; exact (Option.some.inj hv).symm
    subst ev
    refine wpAny_mono (turn _ t m₁ h tk own (List.getElem_mem hi') F₁ N₁) (fun f s₂ p => ?_) fun _ _ x => x
    have up : (∃ h' tk' m' news', s₂ = { s with heap := h', toks := tk' } ∧ Fr h₀ env.locals h' m' ∧ News h₀ env.locals h' news' ∧ ∀ p ∈ (l, W.listOf vs.toArray nn) :: own, p ∈ news') →
        InvEndG h₀ env.locals (fun m' nx => (l, W.listOf vs.toArray nn) ∈ nx ∧ nx = [(l, W.listOf vs.toArray nn)]) own { s with heap := h, toks := tk } s₂ := by
      rintro ⟨h', tk', m', news', e, F', N', hs⟩
      exact ⟨h', tk', m', news', [(l, W.listOf vs.toArray nn)], e, F', N', fun p hp => hs p (by rw [List.mem_singleton.mp hp]; exact .head _), fun p hp => hs p (.tail _ hp), hoff, .head _, rfl⟩
    cases f with
    | ret v => exact p
    | brk => exact p
    | next => exact up p
    | cont => exact up p
  · rintro m₁ nx h tk rfl F₁ N₁
    exact done m₁ h tk F₁ fun _ hp => nomatch hp
/-- a list of the script's and a made one, one behind the other -/
theorem add_script {a b : Addr} {L : Addr} {m : Str → Option Value} {vs us : List Value} {k : Nat} {news : List (Addr × Obj)} {Q : Value → Shared → Prop} (F : Fr h₀ L s.heap m) (N : News h₀ L s.heap news) (ha : h₀.IsList a vs.toArray) (hb : (b, W.listOf us.toArray k) ∈ news)
    (hsz : vs.length + us.length ≤ sizeLine)
    (h : ∀ l h', Fr h₀ L h' m → News h₀ L h' ((l, W.listOf (vs ++ us).toArray 0) :: news) → (∀ p ∈ news, p.1 < l) → Q (.ref l) { s with heap := h' }) :
    wpAny (model prog w) A (binaryOp .Add (.ref a) (.ref b)) Q E s :=
  add_arrays (hsz := by rw [List.size_toArray, List.size_toArray]; exact hsz) F N (ha.at fun o e => F.keep a o e) ⟨_, (N _ hb).1, rfl, _, rfl⟩ fun h' F' N' => h _ h' F' (by simpa using N') fun p hp => Heap.lt_size (N p hp).1
end
section
variable {g g' h : Heap} {L : Addr} {m : Str → Option Value} {news : List (Addr × Obj)}
theorem turn_keep (T : KtsTurn [] g g') : ∀ b o, g.get? b = some o → g'.get? b = some o := fun b o e => T.other b o e (fun q => nomatch q)
theorem unturnF (T : KtsTurn [] g g') (F : Fr g' L h m) : Fr g L h m := ⟨F.ns, fun b o e => F.keep b o (turn_keep T b o e), by rw [← T.size]; exact F.above⟩
theorem unturnN (T : KtsTurn [] g g') (N : News g' L h news) : News g L h news := fun p hp => ⟨(N p hp).1, (N p hp).2.1, kts_none (turn_keep T) (N p hp).2.2⟩
end
theorem ints2 {a b : Int} {t u : Tok} : IntsAre [.int a t, .int b u] [a, b] := .cons _ _ (.cons _ _ .nil)
end Mine
end
section
namespace Mine
theorem mon_mod (y : Int) : monI y % 7 = 1 := by unfold monI; dsimp only; split <;> omega
theorem dby_gap {y y' : Int} (h : y < y') : dbyI y + 365 ≤ dbyI y' := by unfold dbyI; omega
theorem mon_mono {y y' : Int} (h : y < y') : monI (y + 1) ≤ monI y' := by
  rcases Int.lt_or_le (y + 1) y' with q | q
  · have a := mon_bounds (y + 1)
    have b := mon_bounds y'
    have c := dby_gap q
    omega
  · have : y + 1 = y' := by omega
    rw [this]; exact Int.le_refl _
theorem week_end {y w : Int} (h : WeekOk y w) : 1 ≤ w ∧ monI y + w * 7 ≤ monI (y + 1) := by
  have e := mon_succ y
  rcases h with ⟨h1, h2⟩ | ⟨h1, h2⟩
  · refine ⟨by omega, ?_⟩
    split at e <;> omega
  · have : WeekOk y 53 := .inr ⟨rfl, h2⟩
    rw [if_pos this] at e
    exact ⟨by omega, by omega⟩
theorem week_uniq {Y W Y' W' : Int} (h : WeekOk Y W) (h' : WeekOk Y' W') (e : monI Y + (W - 1) * 7 = monI Y' + (W' - 1) * 7) : Y = Y' ∧ W = W' := by
  have a := week_end h
  have b := week_end h'
  rcases Int.lt_trichotomy Y Y' with q | q | q
  · have := mon_mono q; omega
  · subst q; exact ⟨rfl, by omega⟩
  · have := mon_mono q; omega
theorem name_uniq {Y W k Y' W' k' n : Int} (h : WeekOk Y W) (h' : WeekOk Y' W') (k1 : 1 ≤ k) (k2 : k ≤ 7) (k1' : 1 ≤ k') (k2' : k' ≤ 7) (e : monI Y + (W - 1) * 7 + (k - 1) = n) (e' : monI Y' + (W' - 1) * 7 + (k' - 1) = n) : Y = Y' ∧ W = W' ∧ k = k' := by
  have a := mon_mod Y
  have b := mon_mod Y'
  have hk : k = k' := by omega
  subst hk
  have := week_uniq h h' (by omega)
  exact ⟨this.1, this.2, rfl⟩
theorem short_week {y : Int} {n W k : Int} (hn : n = ordI y 12 28) {Y : Int} (h : WeekOk Y W) (k1 : 1 ≤ k) (k2 : k ≤ 7) (e : monI Y + (W - 1) * 7 + (k - 1) = n) : W = 52 ↔ ¬ WeekOk y 53 := by
  have hd : dbmI y 12 = 334 + (if leapB y = true then 1 else 0) := by simp [dbmI]
  have hs := dby_succ y
  unfold ordI at hn
  unfold ylI at hs
  have m1 := mon_bounds y
  have m2 := mon_bounds (y + 1)
  have ms := mon_succ y
  have w1 := week_end h
  have hY : Y = y := by
    rcases Int.lt_trichotomy Y y with q | q | q
    · have := mon_mono q; split at hs <;> simp_all <;> omega
    · exact q
    · have := mon_mono q; split at hs <;> simp_all <;> omega
  subst hY
  by_cases hw : WeekOk Y 53
  · rw [if_pos hw] at ms
    refine ⟨fun e2 => ?_, fun f => absurd hw f⟩
    subst e2; split at hs <;> simp_all <;> omega
  · rw [if_neg hw] at ms
    refine ⟨fun _ => hw, fun _ => ?_⟩
    split at hs <;> simp_all <;> omega
end Mine
end
section
open PySem PySem.W PyProof.Rows PySem.Spec PySem.Calls PySem.SeqAt
namespace Mine
section
variable {prog : Program} {w : World} {A : Around} {E : Value → Shared → Prop} {s : Shared} {h₀ : Heap} {L a b : Addr} {news : List (Addr × Obj)}
theorem eq_type (n : String) : EqAt A s (.type n) (.type n) true := by
  intro prog w E Q h
  unfold eqBool
  refine wpAny_holding ?_
  refine wpAny_ite_split (fun hab => ?_) (fun hab => ?_)
  · exact wpAny_bind (wpAny_rule (wpAny_pure h))
  · exact absurd (beq_self_eq_true _) hab
theorem types_ne {n : String} {m : Nat} {Q : Value → Shared → Prop} (N : News h₀ L s.heap news) (ha : (a, LCg.lst [.type n, .type n, .type n]) ∈ news) (hb : (b, W.listOf #[.type n, .type n, .type n] m) ∈ news) (hu : A.units < cLine)
    (h : Q (.bool false) s) : wpAny (model prog w) A (compareOp .NotEq (.ref a) (.ref b)) Q E s := by
  refine cmp_ofNotEq ?_
  refine RcNeAt.lists (items := #[.type n, .type n, .type n]) (items2 := #[.type n, .type n, .type n]) (e := fun _ => true) ⟨_, (N _ ha).1, rfl, _, rfl⟩ ⟨_, (N _ hb).1, rfl, _, rfl⟩ rfl hu (fun j h1 h2 => ?_) prog w E Q h
  have : j = 0 ∨ j = 1 ∨ j = 2 := by simp at h1; omega
  rcases this with rfl | rfl | rfl <;> exact eq_type n
end
end Mine
end
section
namespace Mine
noncomputable abbrev lo : List Str := looseW Mine.viewK [Str.ofString "_DAYS_IN_MONTH", Str.ofString "_DAYS_BEFORE_MONTH", Str.ofString "_DI400Y", Str.ofString "_DI100Y", Str.ofString "_DI4Y"]
noncomputable abbrev C (w : World) (mean : ExcName → Option Value) (mg mb : Str → Option Value) (f : Addr) (d u : Nat) (vs : List Value) (C : Cont) : Prop := Ctr Challenge.rw_km0087_05.row.prog w (Mine.heapK w.params) Mine.viewK lo mean mg mb f d u vs C
end Mine
namespace Mine
set_option maxHeartbeats 16000000 in
theorem c_leap (w : World) (mean : ExcName → Option Value) (mg mb : Str → Option Value) (y : Int) (t : Tok) : C w mean mg mb 28 2 8 [.int y t] (cBool (leapB y)) := by
  w_top off
  k_with_none
  unfold C Ctr; k_fill
  intro dp un gd cn cs a ccd cl outer A₀ base h₀ L m news s Q E B F X N T hk hd hu hret
  have D0 : KtsDicts [] h₀ := ktsDicts_nil
  refine wpAny_call ?_
  k_dflt cell_enter
  k_steps
  all_goals (refine' endB (Q := Q) (s := s) hret ?e ?F ?N ?S; (case F => k_asm); (case N => k_asm); (case S => kcj_all); (case e => (simp only [leapB]; simp only [fm] at *; simp_all)))
set_option maxHeartbeats 16000000 in
theorem c_dby (w : World) (mean : ExcName → Option Value) (mg mb : Str → Option Value) (y : Int) (t : Tok) : C w mean mg mb 35 2 8 [.int y t] (cInt (dbyI y)) := by
  w_top off
  k_with_none
  unfold C Ctr; k_fill
  intro dp un gd cn cs a ccd cl outer A₀ base h₀ L m news s Q E B F X N T hk hd hu hret
  have D0 : KtsDicts [] h₀ := ktsDicts_nil
  refine wpAny_call ?_
  k_dflt cell_enter
  k_steps
  all_goals (refine' endI (Q := Q) (s := s) hret ?e ?F ?N ?S; (case F => k_asm); (case N => k_asm); (case S => kcj_all); (case e => (simp only [dbyI]; simp only [fm] at *)))
set_option maxHeartbeats 16000000 in
theorem c_dim (w : World) (mean : ExcName → Option Value) (mg mb : Str → Option Value) (y m9 : Int) (t t2 : Tok) (h1 : 1 ≤ m9) (h2 : m9 ≤ 12) : C w mean mg mb 42 4 16 [.int y t, .int m9 t2] (cInt (dimI y m9)) := by
  w_top off
  k_with_none
  (k_with "call ref" => (k_dflt ( (refine' use ?wq7c ?wq7k1 ?wq7k2 ?wq7k3 ?wq7k4 ?wq7k5 ?wq7k6 ?wq7k7 ?wq7k8 ?_); (case wq7k2 => k_asm); (case wq7k1 => k_asm); (case wq7k3 => k_asm); (case wq7k4 => k_asm); (case wq7k5 => k_asm); (case wq7c => first  | exact c_leap _ _ _ _ _ _); (case wq7k6 => first | exact rfl | assumption); (case wq7k7 => ktr_room); (case wq7k8 => ktr_units); (intro t9 h9 tk9 F9 N9; (try dsimp only); (try k_fold)))))
  (k_with "subscriptTail" => (k_here; k_dflt ( (refine' top_item ?wq7F ?wq7X ?wq7l ?wq7hi ?wq7h0 ?wq7h1 ?wq7h2 ?_); (case wq7F => k_asm); (case wq7X => k_asm); (case wq7l => k_is); (case wq7hi => exact ints13); (case wq7h0 => first | omega | (rw [sh5]; omega)); (case wq7h1 => (simp only [List.length_cons, List.length_nil]; first | omega | (rw [sh5]; omega))); (case wq7h2 => decide); k_whole; intro t9)))
  unfold C Ctr; k_fill
  intro dp un gd cn cs a ccd cl outer A₀ base h₀ L m news s Q E B F X N T hk hd hu hret
  have D0 : KtsDicts [] h₀ := ktsDicts_nil
  refine wpAny_call ?_
  k_dflt cell_enter
  k_steps
  all_goals (refine' endI (Q := Q) (s := s) hret ?e ?F ?N ?S; (case F => k_asm); (case N => k_asm); (case S => kcj_all); (case e => (simp only [dimI]; simp_all)))
set_option maxHeartbeats 16000000 in
theorem c_dbm (w : World) (mean : ExcName → Option Value) (mg mb : Str → Option Value) (y m9 : Int) (t t2 : Tok) (h1 : 1 ≤ m9) (h2 : m9 ≤ 12) : C w mean mg mb 49 4 16 [.int y t, .int m9 t2] (cInt (dbmI y m9)) := by
  w_top off
  k_with_none
  (k_with "call ref" => (k_dflt ( (refine' use ?wq7c ?wq7k1 ?wq7k2 ?wq7k3 ?wq7k4 ?wq7k5 ?wq7k6 ?wq7k7 ?wq7k8 ?_); (case wq7k2 => k_asm); (case wq7k1 => k_asm); (case wq7k3 => k_asm); (case wq7k4 => k_asm); (case wq7k5 => k_asm); (case wq7c => first  | exact c_leap _ _ _ _ _ _); (case wq7k6 => first | exact rfl | assumption); (case wq7k7 => ktr_room); (case wq7k8 => ktr_units); (intro t9 h9 tk9 F9 N9; (try dsimp only); (try k_fold)))))
  (k_with "subscriptTail" => (k_here; k_dflt ( (refine' top_item ?wq7F ?wq7X ?wq7l ?wq7hi ?wq7h0 ?wq7h1 ?wq7h2 ?_); (case wq7F => k_asm); (case wq7X => k_asm); (case wq7l => k_is); (case wq7hi => exact ints13); (case wq7h0 => first | omega | (rw [sh5]; omega)); (case wq7h1 => (simp only [List.length_cons, List.length_nil]; first | omega | (rw [sh5]; omega))); (case wq7h2 => decide); k_whole; intro t9)))
  unfold C Ctr; k_fill
  intro dp un gd cn cs a ccd cl outer A₀ base h₀ L m news s Q E B F X N T hk hd hu hret
  have D0 : KtsDicts [] h₀ := ktsDicts_nil
  refine wpAny_call ?_
  k_dflt cell_enter
  k_steps
  all_goals (refine' endI (Q := Q) (s := s) hret ?e ?F ?N ?S; (case F => k_asm); (case N => k_asm); (case S => kcj_all); (case e => (simp only [dbmI]; first | (simp_all; done) | (simp_all; (repeat' split) <;> omega))))
set_option maxHeartbeats 16000000 in
theorem c_ymd (w : World) (mean : ExcName → Option Value) (mg mb : Str → Option Value) (y m9 d9 : Int) (t t2 t3 : Tok) (h1 : 1 ≤ m9) (h2 : m9 ≤ 12) (h3 : 1 ≤ d9) (h4 : d9 ≤ dimI y m9) : C w mean mg mb 56 8 32 [.int y t, .int m9 t2, .int d9 t3] (cInt (dbyI y + dbmI y m9 + d9)) := by
  w_top off
  k_with_none
  (k_with "call ref" => (k_dflt ( (refine' use ?wq7c ?wq7k1 ?wq7k2 ?wq7k3 ?wq7k4 ?wq7k5 ?wq7k6 ?wq7k7 ?wq7k8 ?_); (case wq7k2 => k_asm); (case wq7k1 => k_asm); (case wq7k3 => k_asm); (case wq7k4 => k_asm); (case wq7k5 => k_asm); (case wq7c => first  | exact c_leap _ _ _ _ _ _); (case wq7k6 => first | exact rfl | assumption); (case wq7k7 => ktr_room); (case wq7k8 => ktr_units); (intro t9 h9 tk9 F9 N9; (try dsimp only); (try k_fold)))))
  (k_with "subscriptTail" => (k_here; k_dflt ( (refine' top_item ?wq7F ?wq7X ?wq7l ?wq7hi ?wq7h0 ?wq7h1 ?wq7h2 ?_); (case wq7F => k_asm); (case wq7X => k_asm); (case wq7l => k_is); (case wq7hi => exact ints13); (case wq7h0 => first | omega | (rw [sh5]; omega)); (case wq7h1 => (simp only [List.length_cons, List.length_nil]; first | omega | (rw [sh5]; omega))); (case wq7h2 => decide); k_whole; intro t9)))
  (k_with "call ref" => (k_dflt ( (refine' use ?wq7c ?wq7k1 ?wq7k2 ?wq7k3 ?wq7k4 ?wq7k5 ?wq7k6 ?wq7k7 ?wq7k8 ?_); (case wq7k2 => k_asm); (case wq7k1 => k_asm); (case wq7k3 => k_asm); (case wq7k4 => k_asm); (case wq7k5 => k_asm); (case wq7c => first  | exact c_dby _ _ _ _ _ _ | exact c_dim _ _ _ _ _ _ _ _ (by omega) (by omega) | exact c_dbm _ _ _ _ _ _ _ _ (by omega) (by omega)); (case wq7k6 => first | exact rfl | assumption); (case wq7k7 => ktr_room); (case wq7k8 => ktr_units); (intro t9 h9 tk9 F9 N9; (try dsimp only); (try k_fold)))))
  unfold C Ctr; k_fill
  intro dp un gd cn cs a ccd cl outer A₀ base h₀ L m news s Q E B F X N T hk hd hu hret
  have D0 : KtsDicts [] h₀ := ktsDicts_nil
  refine wpAny_call ?_
  k_dflt cell_enter
  k_steps
  all_goals (refine' endI (Q := Q) (s := s) hret ?e ?F ?N ?S; (case F => k_asm); (case N => k_asm); (case S => kcj_all); (case e => (rfl)))
set_option maxHeartbeats 16000000 in
theorem c_mon1 (w : World) (mean : ExcName → Option Value) (mg mb : Str → Option Value) (y : Int) (t : Tok) : C w mean mg mb 87 12 48 [.int y t] (cInt (monI y)) := by
  w_top off
  k_with_none
  (k_with "call ref" => (k_dflt ( (refine' use ?wq7c ?wq7k1 ?wq7k2 ?wq7k3 ?wq7k4 ?wq7k5 ?wq7k6 ?wq7k7 ?wq7k8 ?_); (case wq7k2 => k_asm); (case wq7k1 => k_asm); (case wq7k3 => k_asm); (case wq7k4 => k_asm); (case wq7k5 => k_asm); (case wq7c => first  | exact c_leap _ _ _ _ _ _); (case wq7k6 => first | exact rfl | assumption); (case wq7k7 => ktr_room); (case wq7k8 => ktr_units); (intro t9 h9 tk9 F9 N9; (try dsimp only); (try k_fold)))))
  (k_with "subscriptTail" => (k_here; k_dflt ( (refine' top_item ?wq7F ?wq7X ?wq7l ?wq7hi ?wq7h0 ?wq7h1 ?wq7h2 ?_); (case wq7F => k_asm); (case wq7X => k_asm); (case wq7l => k_is); (case wq7hi => exact ints13); (case wq7h0 => first | omega | (rw [sh5]; omega)); (case wq7h1 => (simp only [List.length_cons, List.length_nil]; first | omega | (rw [sh5]; omega))); (case wq7h2 => decide); k_whole; intro t9)))
  (k_with "call ref" => (k_dflt ( (refine' use ?wq7c ?wq7k1 ?wq7k2 ?wq7k3 ?wq7k4 ?wq7k5 ?wq7k6 ?wq7k7 ?wq7k8 ?_); (case wq7k2 => k_asm); (case wq7k1 => k_asm); (case wq7k3 => k_asm); (case wq7k4 => k_asm); (case wq7k5 => k_asm); (case wq7c => first  | exact c_dby _ _ _ _ _ _ | exact c_dim _ _ _ _ _ _ _ _ (by omega) (by omega) | exact c_dbm _ _ _ _ _ _ _ _ (by omega) (by omega)); (case wq7k6 => first | exact rfl | assumption); (case wq7k7 => ktr_room); (case wq7k8 => ktr_units); (intro t9 h9 tk9 F9 N9; (try dsimp only); (try k_fold)))))
  (k_with "call ref" => (k_dflt ( (refine' use ?wq7c ?wq7k1 ?wq7k2 ?wq7k3 ?wq7k4 ?wq7k5 ?wq7k6 ?wq7k7 ?wq7k8 ?_); (case wq7k2 => k_asm); (case wq7k1 => k_asm); (case wq7k3 => k_asm); (case wq7k4 => k_asm); (case wq7k5 => k_asm); (case wq7c => first  | exact c_ymd _ _ _ _ _ _ _ _ _ _ (by omega) (by omega) (by omega) (by first | omega | (rw [dim1]; decide))); (case wq7k6 => first | exact rfl | assumption); (case wq7k7 => ktr_room); (case wq7k8 => ktr_units); (intro t9 h9 tk9 F9 N9; (try dsimp only); (try k_fold)))))
  unfold C Ctr; k_fill
  intro dp un gd cn cs a ccd cl outer A₀ base h₀ L m news s Q E B F X N T hk hd hu hret
  have D0 : KtsDicts [] h₀ := ktsDicts_nil
  refine wpAny_call ?_
  k_dflt cell_enter
  k_steps
  all_goals (refine' endI (Q := Q) (s := s) hret ?e ?F ?N ?S; (case F => k_asm); (case N => k_asm); (case S => kcj_all); (case e => (simp only [monI]; simp only [dbm1, fm] at *; (repeat' split) <;> omega)))
end Mine
end
section
namespace Mine
set_option maxHeartbeats 16000000 in
theorem c_ord (w : World) (mean : ExcName → Option Value) (mg mb : Str → Option Value) (n : Int) (t : Tok) : C w mean mg mb 66 8 32 [.int n t] (cNew (IsYmd n)) := by
  w_top off
  k_with_none
  (k_with "eval Call" => (k_here; (with_reducible show wpAny _ _ (eval (PySem.Expr.Call (PySem.Expr.Name _ _) _ [] _) _) _ _ _); refine Call_ ?_))
  (k_with "eval BoolOp" => (k_here; (with_reducible show wpAny _ _ (eval (PySem.Expr.BoolOp _ [PySem.Expr.Compare (PySem.Expr.Name (PySem.Str.ofString "n1") _) [PySem.CmpOp.Eq] _ _, _] _) _) _ _ _); (fail_if_success (with_reducible rename JMark => jM')); k_dflt ((refine' joinA ?wq7h0 ?wq7h1 ?wq7h2 ?wq7F ?wq7N ?_ ?_); (case wq7F => k_asm); (case wq7N => k_asm); (case wq7h0 => rfl); (case wq7h1 => rfl); (case wq7h2 => rfl); skip); (rotate_left 1; (intro h9 tk9 F9 N9; (try dsimp only); (try k_sweep)); rotate_right 1; intro jM')))
  (k_with "eval BoolOp" => (k_here; (with_reducible show wpAny _ _ (eval (PySem.Expr.BoolOp _ [PySem.Expr.Compare (PySem.Expr.Name (PySem.Str.ofString "month") _) [PySem.CmpOp.Gt] _ _, _] _) _) _ _ _); (fail_if_success (with_reducible rename JMark => jM')); k_dflt ((refine' joinB ?wq7h0 ?wq7h1 ?wq7F ?wq7N ?_ ?_); (case wq7F => k_asm); (case wq7N => k_asm); (case wq7h0 => rfl); (case wq7h1 => rfl); skip); (rotate_left 1; (intro h9 tk9 F9 N9; (try dsimp only); (try k_sweep)); rotate_right 1; intro jM')))
  (k_with "eval BoolOp" => (k_here; (with_reducible show wpAny _ _ (eval (PySem.Expr.BoolOp _ [PySem.Expr.Compare (PySem.Expr.Name (PySem.Str.ofString "month") _) [PySem.CmpOp.Eq] _ _, _] _) _) _ _ _); (fail_if_success (with_reducible rename JMark => jM')); k_dflt ((refine' joinC ?wq7h0 ?wq7h1 ?wq7F ?wq7N ?_ ?_); (case wq7F => k_asm); (case wq7N => k_asm); (case wq7h0 => rfl); (case wq7h1 => rfl); skip); (rotate_left 1; (intro h9 tk9 F9 N9; (try dsimp only); (try k_sweep)); rotate_right 1; intro jM')))
  (k_with "JB" => (k_dflt ((refine' JB.intro ?wq7e ?wq7F ?wq7N ?wq7S); (case wq7F => k_asm); (case wq7N => k_asm); (case wq7S => first | exact fun _ hp => hp | kcj_all); (case wq7e => (first | exact jb1 (by with_reducible assumption) | exact jb2 (by with_reducible assumption) | exact jb3 (by with_reducible assumption) | exact jb4 (by with_reducible assumption) (by with_reducible assumption) | exact jb5 (by with_reducible assumption) (by with_reducible assumption) | exact jb6 (by with_reducible assumption))))))
  (k_with "call builtin:divmod" => (k_here; (with_reducible show wpAny _ _ (call (Value.builtin _) [Value.int _ _, Value.int _ _]) _ _ _); k_dflt ( (refine' divmod_G ?wq7F ?wq7N ?wq7b ?_ ?wq7hp); (case wq7F => k_asm); (case wq7N => k_asm); (case wq7b => omega); (case wq7hp => first | exact Or.inl (PyProof.noPylong_of_log2 (by decide +kernel)) | exact Or.inl (PyProof.noPylong_small (by omega)) | exact Or.inr (PySem.PylongRoom.of (by first | assumption | (refine PySem.Heap.NoLimit.keeps ?_ (PyProof.Rows.Fr.keep (by assumption)); exact PyProof.Rows.Top.nolimit (by assumption))) (of_decide_eq_true (by with_unfolding_all rfl)))); k_whole; intro h' D' q' r' t1' t2' tk' F' N' l1 e1' e2' e3'; (try k_lt l1); (try k_sweep); (try dsimp only))))
  (k_with "call ref" => (k_dflt ( (refine' use ?wq7c ?wq7k1 ?wq7k2 ?wq7k3 ?wq7k4 ?wq7k5 ?wq7k6 ?wq7k7 ?wq7k8 ?_); (case wq7k2 => k_asm); (case wq7k1 => k_asm); (case wq7k3 => k_asm); (case wq7k4 => k_asm); (case wq7k5 => k_asm); (case wq7c => first  | exact c_leap _ _ _ _ _ _ | exact c_dim _ _ _ _ _ _ _ _ (by first | omega | (rw [sh5]; omega) | exact pre1 (by assumption) rfl (by assumption) (by assumption)) (by first | omega | (rw [sh5]; omega))); (case wq7k6 => first | exact rfl | assumption); (case wq7k7 => ktr_room); (case wq7k8 => ktr_units); (intro t9 h9 tk9 F9 N9; (try dsimp only); (try k_fold)))))
  (k_with "subscriptTail" => (k_here; k_dflt ( (refine' top_item ?wq7F ?wq7X ?wq7l ?wq7hi ?wq7h0 ?wq7h1 ?wq7h2 ?_); (case wq7F => k_asm); (case wq7X => k_asm); (case wq7l => k_is); (case wq7hi => exact ints13); (case wq7h0 => first | omega | (rw [sh5]; omega)); (case wq7h1 => (simp only [List.length_cons, List.length_nil]; first | omega | (rw [sh5]; omega))); (case wq7h2 => decide); k_whole; intro t9)))
  unfold C Ctr; k_fill
  intro dp un gd cn cs a ccd cl outer A₀ base h₀ L m news s Q E B F X N T hk hd hu hret
  have D0 : KtsDicts [] h₀ := ktsDicts_nil
  refine wpAny_call ?_
  k_dflt cell_enter
  k_steps
  all_goals (try k_data)
  all_goals first
  | (refine' endN (Q := Q) (s := s) hret ?e ?F ?N ?S ?l; (case F => k_asm); (case N => k_asm); (case S => kcj_all); (case l => first | assumption | exact lt0 (by assumption) | exact lt1 (by assumption) | exact lt2 (by assumption) | exact lt3 (by assumption) | exact lt4 (by assumption) | exact lt5 (by assumption) | exact lt6 (by assumption)); (case e => (first | exact (ord_last (by assumption) (by assumption) (by assumption) (by assumption) (by assumption) (by assumption) (by assumption) (by assumption) (by assumption) (by assumption) (by assumption) (by assumption) (by first | exact Or.inl (by assumption) | exact Or.inr (by assumption)) _ _ _).2 | exact good1 (by assumption) (by assumption) rfl (by assumption) (by assumption) (ord_n (by assumption) (by assumption) (by assumption) (by assumption) (by assumption) (by assumption) (by assumption) (by assumption) (by assumption) (by assumption) (by assumption) (by assumption) (by assumption) (by assumption)) | exact good2 (by assumption) (by assumption) rfl (by assumption) (by assumption) (ord_n (by assumption) (by assumption) (by assumption) (by assumption) (by assumption) (by assumption) (by assumption) (by assumption) (by assumption) (by assumption) (by assumption) (by assumption) (by assumption) (by assumption)))))
  | (exfalso; first | omega | exact bad1 (by assumption) (by assumption) rfl (by assumption) (by assumption) | exact bad2 (by assumption) (by assumption) (by assumption) rfl (by assumption) (by assumption) | exact bad4 (by assumption) (by assumption) (by assumption) rfl (by assumption) (by assumption) | exact bad0 (by assumption) (by assumption) (by assumption) (by assumption) (by assumption) (by assumption) (by assumption) (by assumption) (by assumption) (by assumption) (by assumption) (by assumption))
end Mine
end
section
namespace Mine
set_option maxHeartbeats 16000000 in
theorem c_greg (w : World) (mean : ExcName → Option Value) (mg mb : Str → Option Value) (y w9 d9 : Int) (t t2 t3 : Tok) (b1 : -100000 < y) (b2 : y < 100000) (b3 : -100000 < w9) (b4 : w9 < 100000) (b5 : -100000 < d9) (b6 : d9 < 100000) : C w mean mg mb 80 16 64 [.int y t, .int w9 t2, .int d9 t3] (cOr (badG y w9 d9) (cNew (IsYmd (monI y + ((w9 - 1) * 7 + (d9 - 1)))))) := by
  w_top off
  k_with_none
  (k_with "eval Call" => (k_here; (with_reducible show wpAny _ _ (eval (PySem.Expr.Call (PySem.Expr.Name _ _) _ [] _) _) _ _ _); refine Call_ ?_))
  (k_with "joinParts" => (k_here; (first | (with_reducible show wpAny _ _ (joinParts _ []) _ _ _) | (with_reducible show wpAny _ _ (joinParts _ (evalEach [] _)) _ _ _)); (try (with_reducible refine joinParts_nilE ?_)); (with_reducible refine' joinParts_nil ?_ ?wq7z); (case wq7z => first | ((with_reducible refine fit1 ?_) <;> (first | ((with_reducible refine leafI ?_ ?_) <;> k_dflt omega) | ((with_reducible refine leafL ?_); k_dflt (decide +kernel)) | (with_reducible exact leafS (by assumption) (by decide)))) | ((with_reducible refine fit2 ?_ ?_) <;> (first | ((with_reducible refine leafI ?_ ?_) <;> k_dflt omega) | ((with_reducible refine leafL ?_); k_dflt (decide +kernel)) | (with_reducible exact leafS (by assumption) (by decide)))) | ((with_reducible refine fit3 ?_ ?_ ?_) <;> (first | ((with_reducible refine leafI ?_ ?_) <;> k_dflt omega) | ((with_reducible refine leafL ?_); k_dflt (decide +kernel)) | (with_reducible exact leafS (by assumption) (by decide)))) | ((with_reducible refine fit4 ?_ ?_ ?_ ?_) <;> (first | ((with_reducible refine leafI ?_ ?_) <;> k_dflt omega) | ((with_reducible refine leafL ?_); k_dflt (decide +kernel)) | (with_reducible exact leafS (by assumption) (by decide)))) | ((with_reducible refine fit5 ?_ ?_ ?_ ?_ ?_) <;> (first | ((with_reducible refine leafI ?_ ?_) <;> k_dflt omega) | ((with_reducible refine leafL ?_); k_dflt (decide +kernel)) | (with_reducible exact leafS (by assumption) (by decide)))) | ((with_reducible refine fit6 ?_ ?_ ?_ ?_ ?_ ?_) <;> (first | ((with_reducible refine leafI ?_ ?_) <;> k_dflt omega) | ((with_reducible refine leafL ?_); k_dflt (decide +kernel)) | (with_reducible exact leafS (by assumption) (by decide)))) | ((with_reducible refine fit7 ?_ ?_ ?_ ?_ ?_ ?_ ?_) <;> (first | ((with_reducible refine leafI ?_ ?_) <;> k_dflt omega) | ((with_reducible refine leafL ?_); k_dflt (decide +kernel)) | (with_reducible exact leafS (by assumption) (by decide)))))))
  (k_with "formatField int" => (k_here; (with_reducible show wpAny _ _ (formatField (Value.int _ _) PySem.Str.empty) _ _ _); k_dflt (refine wpAny_formatField_int (log_small (by omega) (by omega)) ?_)))
  (k_with "formatField int" => (k_here; (with_reducible show wpAny _ _ (formatField (Value.int _ _) (PySem.Str.ofString _)) _ _ _); k_dflt ((refine' KXf.field_sym (Heap.NoDigits.keeps (Top.nodigits ?wq7T) (Fr.keep ?wq7F)) ?wq7a ?wq7b ?wq7c ?wq7d ?wq7e ?_); (case wq7F => k_asm); (case wq7T => k_asm); (case wq7c => decide +kernel); (case wq7d => kxf_nat); (case wq7e => decide +kernel); (case wq7a => omega); (case wq7b => omega)); intro _ _ kxfF kxfLo kxfHi))
  (k_with "call ref" => (k_dflt ( (refine' use ?wq7c ?wq7k1 ?wq7k2 ?wq7k3 ?wq7k4 ?wq7k5 ?wq7k6 ?wq7k7 ?wq7k8 ?_); (case wq7k2 => k_asm); (case wq7k1 => k_asm); (case wq7k3 => k_asm); (case wq7k4 => k_asm); (case wq7k5 => k_asm); (case wq7c => first  | exact c_leap _ _ _ _ _ _ | exact c_ymd _ _ _ _ _ _ _ _ _ _ (by omega) (by omega) (by omega) (by first | omega | (rw [dim1]; decide)) | exact c_mon1 _ _ _ _ _ _); (case wq7k6 => first | exact rfl | assumption); (case wq7k7 => ktr_room); (case wq7k8 => ktr_units); (intro t9 h9 tk9 F9 N9; (try dsimp only); (try k_fold)))))
  (k_with "call ref" => (k_dflt ( (refine' use ?wq7c ?wq7k1 ?wq7k2 ?wq7k3 ?wq7k4 ?wq7k5 ?wq7k6 ?wq7k7 ?wq7k8 ?_); (case wq7k2 => k_asm); (case wq7k1 => k_asm); (case wq7k3 => k_asm); (case wq7k4 => k_asm); (case wq7k5 => k_asm); (case wq7c => first  | exact c_ord _ _ _ _ _ _); (case wq7k6 => first | exact rfl | assumption); (case wq7k7 => ktr_room); (case wq7k8 => ktr_units); (intro l9 o9 h9 tk9 P9 F9 N9 l1; obtain ⟨yy, mm, dd, ty, tm, td, eo, i1, i2, i3, i4, i5⟩ := P9; subst eo; (try dsimp only); (try k_fold); (try k_lt l1)))))
  unfold C Ctr; k_fill
  intro dp un gd cn cs a ccd cl outer A₀ base h₀ L m news s Q E B F X N T hk hd hu hret
  have D0 : KtsDicts [] h₀ := ktsDicts_nil
  refine wpAny_call ?_
  k_dflt cell_enter
  k_steps
  all_goals (try k_data)
  all_goals first
  | (refine' endN (Q := Q) (s := s) (hret.2 (gN (by omega) (by omega) (by first | exact wk1 (by omega) (by omega) | exact wk2 (by assumption) (by assumption) | exact wk3 (by assumption) (by assumption) (by assumption)) (by omega) (by omega))) ?e ?F ?N ?S ?l; (case F => k_asm); (case N => k_asm); (case S => kcj_all); (case l => first | assumption | exact lt0 (by assumption) | exact lt1 (by assumption) | exact lt2 (by assumption) | exact lt3 (by assumption) | exact lt4 (by assumption) | exact lt5 (by assumption) | exact lt6 (by assumption)); (case e => (exact ⟨_, _, _, _, _, _, rfl, by assumption, by assumption, by assumption, by assumption, by assumption⟩)))
  | (refine' endX (Q := Q) (E := E) (s := s) (hret.1 _ ?r) ?ev ?R ?F ?U ?S; (case R => assumption); (case ev => rfl); (case F => assumption); (case U => assumption); (case S => kcj_all); (case r => (first | ((with_reducible refine gY ?_); omega) | ((with_reducible refine gW ?_ ?_ ?_); omega; omega; exact (by first | exact nw1 (by omega) (by omega) | exact nw2 (by assumption) (by assumption) (by assumption) | exact nw3 (by assumption) (by assumption) (by assumption))) | ((with_reducible refine gD ?_ ?_ ?_ ?_); omega; omega; exact (by first | exact wk1 (by omega) (by omega) | exact wk2 (by assumption) (by assumption) | exact wk3 (by assumption) (by assumption) (by assumption)); omega))))
end Mine
end
section
namespace Mine
set_option maxHeartbeats 16000000 in
theorem c_parseWs (w : World) (mean : ExcName → Option Value) (mg mb : Str → Option Value) (x : PySem.Str) (t : Tok) (y w9 : Int) (hL1 : 7 ≤ x.length) (hL2 : x.length ≤ 10) (hl : ([7, 8, 10].any fun k => k == (x.length : Int)) = true) (hy : PySem.intText? (PySem.Txt.slice x (some 0) (some 4)) = some y) (b1 : -100000 < y) (b2 : y < 100000) (hw : (PySem.Txt.slice x (some (4 + (if (PySem.Txt.item x 4 == PySem.Str.ofString "-") = true then 1 else 0))) (some ((4 + (if (PySem.Txt.item x 4 == PySem.Str.ofString "-") = true then 1 else 0)) + 1)) == PySem.Str.ofString "W") = true) (hW : PySem.intText? (PySem.Txt.slice x (some ((4 + (if (PySem.Txt.item x 4 == PySem.Str.ofString "-") = true then 1 else 0)) + 1)) (some ((4 + (if (PySem.Txt.item x 4 == PySem.Str.ofString "-") = true then 1 else 0)) + 1 + 2))) = some w9) (b3 : -100000 < w9) (b4 : w9 < 100000) (hs : ¬ (4 + (if (PySem.Txt.item x 4 == PySem.Str.ofString "-") = true then 1 else 0)) + 1 + 2 < (x.length : Int)) : C w mean mg mb 73 24 96 [.str x t] (cOr (badG y w9 1) (cNew (IsLst (monI y + ((w9 - 1) * 7 + (1 - 1)))))) := by
  w_top off
  k_with_none
  (k_with "eval Call" => (k_here; (with_reducible show wpAny _ _ (eval (PySem.Expr.Call (PySem.Expr.Name _ _) _ [] _) _) _ _ _); refine Call_ ?_))
  (k_with "newList" => (k_here; k_dflt ((refine' newList_K ?wq7k1 ?wq7k2 ?_ ?wq7z); (case wq7k1 => k_asm); (case wq7k2 => k_asm); (case wq7z => (rw [sizeLine_eq]; simp only [List.length_cons, List.length_nil]; omega)); k_whole); intro l' h' F' N' l1; (try k_lt l1); (try k_sweep)))
  (k_with "compareOp NotIn int ref" => (k_here; k_dflt ((refine' notin_tuple_ints ?wq7t ?wq7i ?_); (case wq7t => exact News.isTup (by k_asm) (by k_mem)); (case wq7i => with_unfolding_all (repeat constructor)))))
  (k_with "joinParts" => (k_here; (first | (with_reducible show wpAny _ _ (joinParts _ []) _ _ _) | (with_reducible show wpAny _ _ (joinParts _ (evalEach [] _)) _ _ _)); (try (with_reducible refine joinParts_nilE ?_)); (with_reducible refine' joinParts_nil ?_ ?wq7z); (case wq7z => first | ((with_reducible refine fit1 ?_) <;> (first | ((with_reducible refine leafI ?_ ?_) <;> k_dflt omega) | ((with_reducible refine leafL ?_); k_dflt (decide +kernel)) | (with_reducible exact leafS (by assumption) (by decide)))) | ((with_reducible refine fit2 ?_ ?_) <;> (first | ((with_reducible refine leafI ?_ ?_) <;> k_dflt omega) | ((with_reducible refine leafL ?_); k_dflt (decide +kernel)) | (with_reducible exact leafS (by assumption) (by decide)))) | ((with_reducible refine fit3 ?_ ?_ ?_) <;> (first | ((with_reducible refine leafI ?_ ?_) <;> k_dflt omega) | ((with_reducible refine leafL ?_); k_dflt (decide +kernel)) | (with_reducible exact leafS (by assumption) (by decide)))) | ((with_reducible refine fit4 ?_ ?_ ?_ ?_) <;> (first | ((with_reducible refine leafI ?_ ?_) <;> k_dflt omega) | ((with_reducible refine leafL ?_); k_dflt (decide +kernel)) | (with_reducible exact leafS (by assumption) (by decide)))) | ((with_reducible refine fit5 ?_ ?_ ?_ ?_ ?_) <;> (first | ((with_reducible refine leafI ?_ ?_) <;> k_dflt omega) | ((with_reducible refine leafL ?_); k_dflt (decide +kernel)) | (with_reducible exact leafS (by assumption) (by decide)))) | ((with_reducible refine fit6 ?_ ?_ ?_ ?_ ?_ ?_) <;> (first | ((with_reducible refine leafI ?_ ?_) <;> k_dflt omega) | ((with_reducible refine leafL ?_); k_dflt (decide +kernel)) | (with_reducible exact leafS (by assumption) (by decide)))) | ((with_reducible refine fit7 ?_ ?_ ?_ ?_ ?_ ?_ ?_) <;> (first | ((with_reducible refine leafI ?_ ?_) <;> k_dflt omega) | ((with_reducible refine leafL ?_); k_dflt (decide +kernel)) | (with_reducible exact leafS (by assumption) (by decide)))))))
  (k_with "formatField int" => (k_here; (with_reducible show wpAny _ _ (formatField (Value.int _ _) PySem.Str.empty) _ _ _); k_dflt (refine wpAny_formatField_int (log_small (by omega) (by omega)) ?_)))
  (k_with "formatField int" => (k_here; (with_reducible show wpAny _ _ (formatField (Value.int _ _) (PySem.Str.ofString _)) _ _ _); k_dflt ((refine' KXf.field_sym (Heap.NoDigits.keeps (Top.nodigits ?wq7T) (Fr.keep ?wq7F)) ?wq7a ?wq7b ?wq7c ?wq7d ?wq7e ?_); (case wq7F => k_asm); (case wq7T => k_asm); (case wq7c => decide +kernel); (case wq7d => kxf_nat); (case wq7e => decide +kernel); (case wq7a => omega); (case wq7b => omega)); intro _ _ kxfF kxfLo kxfHi))
  (k_with "call ref" => (k_dflt ( (refine' use ?wq7c ?wq7k1 ?wq7k2 ?wq7k3 ?wq7k4 ?wq7k5 ?wq7k6 ?wq7k7 ?wq7k8 ?_); (case wq7k2 => k_asm); (case wq7k1 => k_asm); (case wq7k3 => k_asm); (case wq7k4 => k_asm); (case wq7k5 => k_asm); (case wq7c => first  | exact c_greg _ _ _ _ _ _ _ _ _ _ (by omega) (by omega) (by omega) (by omega) (by omega) (by omega)); (case wq7k6 => first | exact rfl | assumption); (case wq7k7 => ktr_room); (case wq7k8 => ktr_units); (refine ⟨fun msg9 hm9 => ?_, fun hm9 => ?_⟩; (intro e9 t9 k9 h9 G9 tk9 R9 F9 U9; (try dsimp only); (try k_fold)); rotate_left 1; (intro l9 o9 h9 tk9 P9 F9 N9 l1; obtain ⟨yy, mm, dd, ty, tm, td, eo, i1, i2, i3, i4, i5⟩ := P9; subst eo; (try dsimp only); (try k_fold); (try k_lt l1)); rotate_right 1))))
  unfold C Ctr; k_fill
  intro dp un gd cn cs a ccd cl outer A₀ base h₀ L m news s Q E B F X N T hk hd hu hret
  have D0 : KtsDicts [] h₀ := ktsDicts_nil
  refine wpAny_call ?_
  k_dflt cell_enter
  k_steps
  all_goals (try k_data)
  all_goals first
  | (refine' endX (Q := Q) (E := E) (s := s) (hret.1 _ ?r) ?ev ?R ?F ?U ?S; (case R => assumption); (case ev => rfl); (case F => assumption); (case U => assumption); (case S => kcj_all); (case r => (assumption)))
  | (refine' endN (Q := Q) (s := s) (hret.2 (by assumption)) ?e ?F ?N ?S ?l; (case F => k_asm); (case N => k_asm); (case S => kcj_all); (case l => first | assumption | exact lt0 (by assumption) | exact lt1 (by assumption) | exact lt2 (by assumption) | exact lt3 (by assumption) | exact lt4 (by assumption) | exact lt5 (by assumption) | exact lt6 (by assumption)); (case e => (exact ⟨_, _, _, _, _, _, _, rfl, by assumption, by assumption, by assumption, by assumption, by assumption⟩)))
set_option maxHeartbeats 16000000 in
theorem c_parseWl (w : World) (mean : ExcName → Option Value) (mg mb : Str → Option Value) (x : PySem.Str) (t : Tok) (y w9 : Int) (hL1 : 7 ≤ x.length) (hL2 : x.length ≤ 10) (hl : ([7, 8, 10].any fun k => k == (x.length : Int)) = true) (hy : PySem.intText? (PySem.Txt.slice x (some 0) (some 4)) = some y) (b1 : -100000 < y) (b2 : y < 100000) (hw : (PySem.Txt.slice x (some (4 + (if (PySem.Txt.item x 4 == PySem.Str.ofString "-") = true then 1 else 0))) (some ((4 + (if (PySem.Txt.item x 4 == PySem.Str.ofString "-") = true then 1 else 0)) + 1)) == PySem.Str.ofString "W") = true) (hW : PySem.intText? (PySem.Txt.slice x (some ((4 + (if (PySem.Txt.item x 4 == PySem.Str.ofString "-") = true then 1 else 0)) + 1)) (some ((4 + (if (PySem.Txt.item x 4 == PySem.Str.ofString "-") = true then 1 else 0)) + 1 + 2))) = some w9) (b3 : -100000 < w9) (b4 : w9 < 100000) (d9 : Int) (hs : (4 + (if (PySem.Txt.item x 4 == PySem.Str.ofString "-") = true then 1 else 0)) + 1 + 2 < (x.length : Int)) (hd : (((PySem.Txt.slice x (some ((4 + (if (PySem.Txt.item x 4 == PySem.Str.ofString "-") = true then 1 else 0)) + 1 + 2)) (some ((4 + (if (PySem.Txt.item x 4 == PySem.Str.ofString "-") = true then 1 else 0)) + 1 + 2 + 1))) == PySem.Str.ofString "-") != (PySem.Txt.item x 4 == PySem.Str.ofString "-")) = false) (hD : PySem.intText? (PySem.Txt.slice x (some ((4 + (if (PySem.Txt.item x 4 == PySem.Str.ofString "-") = true then 1 else 0)) + 1 + 2 + (if (PySem.Txt.item x 4 == PySem.Str.ofString "-") = true then 1 else 0))) (some ((4 + (if (PySem.Txt.item x 4 == PySem.Str.ofString "-") = true then 1 else 0)) + 1 + 2 + (if (PySem.Txt.item x 4 == PySem.Str.ofString "-") = true then 1 else 0) + 1))) = some d9) (b5 : -100000 < d9) (b6 : d9 < 100000) : C w mean mg mb 73 24 96 [.str x t] (cOr (badG y w9 d9) (cNew (IsLst (monI y + ((w9 - 1) * 7 + (d9 - 1)))))) := by
  w_top off
  k_with_none
  (k_with "eval Call" => (k_here; (with_reducible show wpAny _ _ (eval (PySem.Expr.Call (PySem.Expr.Name _ _) _ [] _) _) _ _ _); refine Call_ ?_))
  (k_with "newList" => (k_here; k_dflt ((refine' newList_K ?wq7k1 ?wq7k2 ?_ ?wq7z); (case wq7k1 => k_asm); (case wq7k2 => k_asm); (case wq7z => (rw [sizeLine_eq]; simp only [List.length_cons, List.length_nil]; omega)); k_whole); intro l' h' F' N' l1; (try k_lt l1); (try k_sweep)))
  (k_with "compareOp NotIn int ref" => (k_here; k_dflt ((refine' notin_tuple_ints ?wq7t ?wq7i ?_); (case wq7t => exact News.isTup (by k_asm) (by k_mem)); (case wq7i => with_unfolding_all (repeat constructor)))))
  (k_with "joinParts" => (k_here; (first | (with_reducible show wpAny _ _ (joinParts _ []) _ _ _) | (with_reducible show wpAny _ _ (joinParts _ (evalEach [] _)) _ _ _)); (try (with_reducible refine joinParts_nilE ?_)); (with_reducible refine' joinParts_nil ?_ ?wq7z); (case wq7z => first | ((with_reducible refine fit1 ?_) <;> (first | ((with_reducible refine leafI ?_ ?_) <;> k_dflt omega) | ((with_reducible refine leafL ?_); k_dflt (decide +kernel)) | (with_reducible exact leafS (by assumption) (by decide)))) | ((with_reducible refine fit2 ?_ ?_) <;> (first | ((with_reducible refine leafI ?_ ?_) <;> k_dflt omega) | ((with_reducible refine leafL ?_); k_dflt (decide +kernel)) | (with_reducible exact leafS (by assumption) (by decide)))) | ((with_reducible refine fit3 ?_ ?_ ?_) <;> (first | ((with_reducible refine leafI ?_ ?_) <;> k_dflt omega) | ((with_reducible refine leafL ?_); k_dflt (decide +kernel)) | (with_reducible exact leafS (by assumption) (by decide)))) | ((with_reducible refine fit4 ?_ ?_ ?_ ?_) <;> (first | ((with_reducible refine leafI ?_ ?_) <;> k_dflt omega) | ((with_reducible refine leafL ?_); k_dflt (decide +kernel)) | (with_reducible exact leafS (by assumption) (by decide)))) | ((with_reducible refine fit5 ?_ ?_ ?_ ?_ ?_) <;> (first | ((with_reducible refine leafI ?_ ?_) <;> k_dflt omega) | ((with_reducible refine leafL ?_); k_dflt (decide +kernel)) | (with_reducible exact leafS (by assumption) (by decide)))) | ((with_reducible refine fit6 ?_ ?_ ?_ ?_ ?_ ?_) <;> (first | ((with_reducible refine leafI ?_ ?_) <;> k_dflt omega) | ((with_reducible refine leafL ?_); k_dflt (decide +kernel)) | (with_reducible exact leafS (by assumption) (by decide)))) | ((with_reducible refine fit7 ?_ ?_ ?_ ?_ ?_ ?_ ?_) <;> (first | ((with_reducible refine leafI ?_ ?_) <;> k_dflt omega) | ((with_reducible refine leafL ?_); k_dflt (decide +kernel)) | (with_reducible exact leafS (by assumption) (by decide)))))))
  (k_with "formatField int" => (k_here; (with_reducible show wpAny _ _ (formatField (Value.int _ _) PySem.Str.empty) _ _ _); k_dflt (refine wpAny_formatField_int (log_small (by omega) (by omega)) ?_)))
  (k_with "formatField int" => (k_here; (with_reducible show wpAny _ _ (formatField (Value.int _ _) (PySem.Str.ofString _)) _ _ _); k_dflt ((refine' KXf.field_sym (Heap.NoDigits.keeps (Top.nodigits ?wq7T) (Fr.keep ?wq7F)) ?wq7a ?wq7b ?wq7c ?wq7d ?wq7e ?_); (case wq7F => k_asm); (case wq7T => k_asm); (case wq7c => decide +kernel); (case wq7d => kxf_nat); (case wq7e => decide +kernel); (case wq7a => omega); (case wq7b => omega)); intro _ _ kxfF kxfLo kxfHi))
  (k_with "call ref" => (k_dflt ( (refine' use ?wq7c ?wq7k1 ?wq7k2 ?wq7k3 ?wq7k4 ?wq7k5 ?wq7k6 ?wq7k7 ?wq7k8 ?_); (case wq7k2 => k_asm); (case wq7k1 => k_asm); (case wq7k3 => k_asm); (case wq7k4 => k_asm); (case wq7k5 => k_asm); (case wq7c => first  | exact c_greg _ _ _ _ _ _ _ _ _ _ (by omega) (by omega) (by omega) (by omega) (by omega) (by omega)); (case wq7k6 => first | exact rfl | assumption); (case wq7k7 => ktr_room); (case wq7k8 => ktr_units); (refine ⟨fun msg9 hm9 => ?_, fun hm9 => ?_⟩; (intro e9 t9 k9 h9 G9 tk9 R9 F9 U9; (try dsimp only); (try k_fold)); rotate_left 1; (intro l9 o9 h9 tk9 P9 F9 N9 l1; obtain ⟨yy, mm, dd, ty, tm, td, eo, i1, i2, i3, i4, i5⟩ := P9; subst eo; (try dsimp only); (try k_fold); (try k_lt l1)); rotate_right 1))))
  unfold C Ctr; k_fill
  intro dp un gd cn cs a ccd cl outer A₀ base h₀ L m news s Q E B F X N T hk hd hu hret
  have D0 : KtsDicts [] h₀ := ktsDicts_nil
  refine wpAny_call ?_
  k_dflt cell_enter
  k_steps
  all_goals (try k_data)
  all_goals first
  | (refine' endX (Q := Q) (E := E) (s := s) (hret.1 _ ?r) ?ev ?R ?F ?U ?S; (case R => assumption); (case ev => rfl); (case F => assumption); (case U => assumption); (case S => kcj_all); (case r => (assumption)))
  | (refine' endN (Q := Q) (s := s) (hret.2 (by assumption)) ?e ?F ?N ?S ?l; (case F => k_asm); (case N => k_asm); (case S => kcj_all); (case l => first | assumption | exact lt0 (by assumption) | exact lt1 (by assumption) | exact lt2 (by assumption) | exact lt3 (by assumption) | exact lt4 (by assumption) | exact lt5 (by assumption) | exact lt6 (by assumption)); (case e => (exact ⟨_, _, _, _, _, _, _, rfl, by assumption, by assumption, by assumption, by assumption, by assumption⟩)))
end Mine
end
section
namespace Mine
noncomputable abbrev CT (w : World) (mean : ExcName → Option Value) (mg mb : Str → Option Value) (f : Addr) (d u : Nat) (vs : List Value) (pre : List (Addr × Obj) → Prop) (P : Value → List (Addr × Obj) → Prop) : Prop := CtrT Challenge.rw_km0087_05.row.prog w (Mine.heapK w.params) Mine.viewK lo mean mg mb f d u vs pre P
end Mine
namespace Mine
def ReadP (r : Option PySem.Str) (n : Int) (v : Value) (new : List (Addr × Obj)) : Prop := ∃ l o, v = .ref l ∧ new = [(l, o)] ∧ ((∃ msg k, r = some msg ∧ Caught [.str msg k] o) ∨ (r = none ∧ IsLst n o))
set_option maxHeartbeats 16000000 in
theorem c_read (w : World) (mean : ExcName → Option Value) (mg mb : Str → Option Value) (x : PySem.Str) (r : Option PySem.Str) (n : Int) (H : ∀ t, C w mean mg mb 73 24 96 [.str x t] (cOr r (cNew (IsLst n)))) (t : Tok) : CT w mean mg mb 94 28 112 [.str x t] (fun _ => True) (ReadP r n) := by
  w_top off
  k_with_none
  (k_with "noteFrame ref" => (k_here; (with_reducible show wpAny _ _ (noteFrame _ _) (fun _ s₂ => wpAny _ _ (setFlight _ none) (fun _ s₃ => wpAny _ _ (handleBy _ _ (PySem.ExceptHandler.ExceptHandler (some (PySem.Expr.Name ("ValueError" : PySem.Str) _)) (some _) _ _ :: _)) _ _ s₃) _ s₂) _ _); k_dflt (refine' caughtV ?wq7R ?wq7F ?wq7K ?wq7U ?wq7XB ?wq7TB ?wq7D ?wq7T0 ?wq7ex PyProof.Rows.Boot.«ValueError» ?wq7hn PySem.F.isExc_ValueError PySem.F.notTuple_ValueError ?wq7hs ?_; (case wq7R => assumption); (case wq7F => assumption); (case wq7K => assumption); (case wq7U => assumption); (case wq7XB => assumption); (case wq7TB => assumption); (case wq7D => assumption); (case wq7T0 => first | assumption | exact KtsTurn.refl); (case wq7hs => kts_sub); (case wq7ex => k_is); (case wq7hn => decide); k_whole); intro h' g' n₂ ot tk' T' F' N₂ G' C' N' l' K' X' P' D'; (try k_lift K'); (try k_sweep)))
  (k_with "call ref" => (k_dflt ( (refine' use ?wq7c ?wq7k1 ?wq7k2 ?wq7k3 ?wq7k4 ?wq7k5 ?wq7k6 ?wq7k7 ?wq7k8 ?_); (case wq7k2 => k_asm); (case wq7k1 => k_asm); (case wq7k3 => k_asm); (case wq7k4 => k_asm); (case wq7k5 => k_asm); (case wq7c => first  | exact (‹∀ t, C _ _ _ _ 73 24 96 [PySem.Value.str _ t] _› _)); (case wq7k6 => first | exact rfl | assumption); (case wq7k7 => ktr_room); (case wq7k8 => ktr_units); (refine ⟨fun msg9 hm9 => ?_, fun hm9 => ?_⟩; (intro e9 t9 k9 h9 G9 tk9 R9 F9 U9; (try dsimp only); (try k_fold)); rotate_left 1; (intro l9 o9 h9 tk9 P9 F9 N9 l1; (try dsimp only); (try k_fold); (try k_lt l1)); rotate_right 1))))
  unfold CT CtrT; k_fill
  intro dp un gd cn cs a ccd cl outer A₀ base h₀ g₀ L m news s Q E B F X N T XB TB D T0 hk hd hu hpre hret
  refine wpAny_call ?_
  k_dflt (refine' enterT ?k1 ?k2 ?k3 ?k4 ?k5 ?XB ?TB ?D ?T0 ?kA ?kF ?kK ?k6 ?k7 ?k8 ?k9 ?kB ?_ ?c2 ?c3 ?c4 ?c5; (case kA => exact rfl); (case kF => exact rfl); (case kK => assumption); (case k1 => k_asm); (case k2 => k_asm); (case k3 => k_asm); (case k4 => k_asm); (case k5 => k_asm); (case XB => assumption); (case TB => assumption); (case D => assumption); (case T0 => assumption); (case k6 => k_is); (case k7 => k_is); (case k8 => ktr_room); (case k9 => exact BindsTo.of_eq rfl); (case c5 => decide); (case kB => exact locs rfl); (case c2 => exact rfl); (case c3 => exact rfl); (case c4 => exact rfl); k_whole; intro g' L' h' FG' F' N' B' X' T' D'; (try dsimp only); (try k_lift B'); (try k_fold))
  k_steps
  all_goals (try k_data)
  all_goals first
  | (refine' endT (Q := Q) (s := s) hret [_] (⟨_, _, rfl, rfl, .inl ⟨_, _, by assumption, by assumption⟩⟩) ?eT ?eF ?eN ?eS ?el ?eB ?eX ?eP ?eD; (case eF => k_asm); (case eN => k_asm); (case eT => first | assumption | exact KtsTurn.refl); (case eS => kcj_all); (case el => first | exact off1 (by assumption) | exact off1' (by assumption)); (case eB => assumption); (case eX => assumption); (case eP => assumption); (case eD => assumption))
  | (refine' endT (Q := Q) (s := s) hret [_] (⟨_, _, rfl, rfl, .inr ⟨by assumption, by assumption⟩⟩) ?eT ?eF ?eN ?eS ?el ?eB ?eX ?eP ?eD; (case eF => k_asm); (case eN => k_asm); (case eT => first | assumption | exact KtsTurn.refl); (case eS => kcj_all); (case el => first | exact off1 (by assumption) | exact off1' (by assumption)); (case eB => assumption); (case eX => assumption); (case eP => assumption); (case eD => assumption))
end Mine
end
section
namespace Mine
/-- a list that is a date -/
def IsDay (o : Obj) : Prop := ∃ (y m d : Int) (ty tm td : Tok) (k : Nat), o = W.listOf #[.int y ty, .int m tm, .int d td] k ∧ 1 ≤ y ∧ y ≤ 9999 ∧ 1 ≤ m ∧ m ≤ 12 ∧ 1 ≤ d ∧ d ≤ dimI y m
theorem len_feb {y : Int} : dimI y 2 = if y.fmod 16 = 0 ∨ (y.fmod 4 = 0 ∧ y.fmod 25 ≠ 0) then 29 else 28 := by
  rw [Int.fmod_eq_emod_of_nonneg _ (by decide), Int.fmod_eq_emod_of_nonneg _ (by decide), Int.fmod_eq_emod_of_nonneg _ (by decide)]
  have h := leap_iff y
  unfold dimI
  by_cases hb : leapB y = true
  · rw [if_pos ⟨rfl, hb⟩, if_pos (by have := h.mp hb; omega)]
  · rw [if_neg (fun q => hb q.2), if_neg (fun q => hb (h.mpr (by omega)))]; rfl
theorem len_f1 {y : Int} (h : y.fmod 16 = 0) : 29 = dimI y 2 := by rw [len_feb, if_pos (.inl h)]
theorem len_f2 {y : Int} (h : y.fmod 4 = 0) (h' : y.fmod 25 ≠ 0) : 29 = dimI y 2 := by rw [len_feb, if_pos (.inr ⟨h, h'⟩)]
theorem len_f3 {y : Int} (h : y.fmod 16 ≠ 0) (h' : y.fmod 4 ≠ 0) : 28 = dimI y 2 := by rw [len_feb, if_neg (by omega)]
theorem len_f4 {y : Int} (h : y.fmod 16 ≠ 0) (h' : y.fmod 25 = 0) : 28 = dimI y 2 := by rw [len_feb, if_neg (by omega)]
theorem len_m {y m : Int} (h0 : 1 ≤ m) (h1 : m ≤ 12) (h2 : m ≠ 2) : 31 - ((m - 1).fmod 7).fmod 2 = dimI y m := by
  have e : m = 1 ∨ m = 3 ∨ m = 4 ∨ m = 5 ∨ m = 6 ∨ m = 7 ∨ m = 8 ∨ m = 9 ∨ m = 10 ∨ m = 11 ∨ m = 12 := by omega
  rcases e with rfl | rfl | rfl | rfl | rfl | rfl | rfl | rfl | rfl | rfl | rfl <;> simp [dimI]
theorem mo1 {r : Int} (h0 : 0 ≤ r) : 1 ≤ r.fdiv 31 + 1 := by rw [Int.fdiv_eq_ediv_of_nonneg _ (by decide)]; omega
theorem mo2 {r : Int} (h0 : ¬ 372 ≤ r) : r.fdiv 31 + 1 ≤ 12 := by rw [Int.fdiv_eq_ediv_of_nonneg _ (by decide)]; omega
theorem fq (r : Int) {b : Int} (h : 0 < b) : 0 ≤ r.fmod b ∧ r.fmod b < b := ⟨Int.fmod_nonneg_of_pos _ h, Int.fmod_lt_of_pos _ h⟩
theorem mo3 (r : Int) : 1 ≤ (r.fmod 372).fdiv 31 + 1 := mo1 (fq r (by decide)).1
theorem mo4 (r : Int) : (r.fmod 372).fdiv 31 + 1 ≤ 12 := mo2 (by have := (fq r (b := 372) (by decide)).2; omega)
theorem dim_bound {y m : Int} (h0 : 1 ≤ m) (h1 : m ≤ 12) : 28 ≤ dimI y m ∧ dimI y m ≤ 31 := by
  have e : m = 1 ∨ m = 2 ∨ m = 3 ∨ m = 4 ∨ m = 5 ∨ m = 6 ∨ m = 7 ∨ m = 8 ∨ m = 9 ∨ m = 10 ∨ m = 11 ∨ m = 12 := by omega
  rcases e with rfl | rfl | rfl | rfl | rfl | rfl | rfl | rfl | rfl | rfl | rfl | rfl <;> (simp [dimI]; try (split <;> omega))
theorem isDay {q r : Int} {t1 t2 t3 : Tok} {k : Nat} (h1 : 1 ≤ r.fdiv 31 + 1) (h2 : r.fdiv 31 + 1 ≤ 12) :
    IsDay (W.listOf #[.int (1 + q.fmod 9999) t1, .int (r.fdiv 31 + 1) t2, .int (if dimI (1 + q.fmod 9999) (r.fdiv 31 + 1) < r.fmod 31 + 1 then dimI (1 + q.fmod 9999) (r.fdiv 31 + 1) else r.fmod 31 + 1) t3] k) := by
  have hq := fq q (b := 9999) (by decide)
  have hr := fq r (b := 31) (by decide)
  have hd := dim_bound (y := 1 + q.fmod 9999) h1 h2
  exact ⟨_, _, _, _, _, _, _, rfl, by omega, by omega, h1, h2, by split <;> omega, by split <;> omega⟩
set_option maxHeartbeats 16000000 in
theorem c_length (w : World) (mean : ExcName → Option Value) (mg mb : Str → Option Value) (y m9 : Int) (t t2 : Tok) (h1 : 1 ≤ m9) (h2 : m9 ≤ 12) : C w mean mg mb 101 4 16 [.int y t, .int m9 t2] (cInt (dimI y m9)) := by
  w_top off
  k_with_none
  unfold C Ctr; k_fill
  intro dp un gd cn cs a ccd cl outer A₀ base h₀ L m news s Q E B F X N T hk hd hu hret
  have D0 : KtsDicts [] h₀ := ktsDicts_nil
  refine wpAny_call ?_
  k_dflt cell_enter
  k_steps
  all_goals first
  | (refine' endI (Q := Q) (s := s) hret ?e ?F ?N ?S; (case F => k_asm); (case N => k_asm); (case S => kcj_all); (case e => (subst ‹m9 = 2›; exact len_f1 (by assumption))))
  | (refine' endI (Q := Q) (s := s) hret ?e ?F ?N ?S; (case F => k_asm); (case N => k_asm); (case S => kcj_all); (case e => (subst ‹m9 = 2›; exact len_f2 (by assumption) (by assumption))))
  | (refine' endI (Q := Q) (s := s) hret ?e ?F ?N ?S; (case F => k_asm); (case N => k_asm); (case S => kcj_all); (case e => (subst ‹m9 = 2›; exact len_f3 (by assumption) (by assumption))))
  | (refine' endI (Q := Q) (s := s) hret ?e ?F ?N ?S; (case F => k_asm); (case N => k_asm); (case S => kcj_all); (case e => (subst ‹m9 = 2›; exact len_f4 (by assumption) (by assumption))))
  | (refine' endI (Q := Q) (s := s) hret ?e ?F ?N ?S; (case F => k_asm); (case N => k_asm); (case S => kcj_all); (case e => (exact len_m (by assumption) (by assumption) (by assumption))))
  | skip
set_option maxHeartbeats 16000000 in
theorem c_day (w : World) (mean : ExcName → Option Value) (mg mb : Str → Option Value) (n : Int) (t : Tok) : C w mean mg mb 108 8 32 [.int n t] (cNew IsDay) := by
  w_top off
  k_with_none
  (k_with "call ref" => (k_dflt ( (refine' use ?wq7c ?wq7k1 ?wq7k2 ?wq7k3 ?wq7k4 ?wq7k5 ?wq7k6 ?wq7k7 ?wq7k8 ?_); (case wq7k2 => k_asm); (case wq7k1 => k_asm); (case wq7k3 => k_asm); (case wq7k4 => k_asm); (case wq7k5 => k_asm); (case wq7c => first  | exact c_length _ _ _ _ _ _ _ _ (by first | omega | exact mo3 _ | exact mo1 (by assumption)) (by first | omega | exact mo4 _ | exact mo2 (by assumption))); (case wq7k6 => first | exact rfl | assumption); (case wq7k7 => ktr_room); (case wq7k8 => ktr_units); (intro t9 h9 tk9 F9 N9; (try dsimp only); (try k_fold)))))
  (k_with "call builtin:divmod" => (k_here; (with_reducible show wpAny _ _ (call (Value.builtin _) [Value.int _ _, Value.int _ _]) _ _ _); k_dflt ( (refine' divmod_G ?wq7F ?wq7N ?wq7b ?_ ?wq7hp); (case wq7F => k_asm); (case wq7N => k_asm); (case wq7b => omega); (case wq7hp => first | exact Or.inl (PyProof.noPylong_of_log2 (by decide +kernel)) | exact Or.inl (PyProof.noPylong_small (by omega)) | exact Or.inr (PySem.PylongRoom.of (by first | assumption | (refine PySem.Heap.NoLimit.keeps ?_ (PyProof.Rows.Fr.keep (by assumption)); exact PyProof.Rows.Top.nolimit (by assumption))) (of_decide_eq_true (by with_unfolding_all rfl)))); k_whole; intro h' D' q' r' t1' t2' tk' F' N' l1 e1' e2' e3'; (try k_lt l1); (try k_sweep); (try dsimp only))))
  unfold C Ctr; k_fill
  intro dp un gd cn cs a ccd cl outer A₀ base h₀ L m news s Q E B F X N T hk hd hu hret
  have D0 : KtsDicts [] h₀ := ktsDicts_nil
  refine wpAny_call ?_
  k_dflt cell_enter
  k_steps
  all_goals (try k_data)
  all_goals (refine' endN (Q := Q) (s := s) hret ?e ?F ?N ?S ?l; (case F => k_asm); (case N => k_asm); (case S => kcj_all); (case l => first | assumption | exact lt0 (by assumption) | exact lt1 (by assumption) | exact lt2 (by assumption) | exact lt3 (by assumption) | exact lt4 (by assumption) | exact lt5 (by assumption) | exact lt6 (by assumption)); (case e => (first | exact isDay (mo3 _) (mo4 _) | exact isDay (mo1 (by assumption)) (mo2 (by assumption)))))
end Mine
end
section
namespace Mine
theorem lit53 : PySem.intText? ⟨#[53, 51]⟩ = some 53 := read_digits (cs := [53, 51]) (by intro c hc; simp at hc; omega) (by simp) (by simp) (by rfl) (by decide)
theorem lit1 : PySem.intText? ⟨#[49]⟩ = some 1 := read_digits (cs := [49]) (by intro c hc; simp at hc; omega) (by simp) (by simp) (by rfl) (by decide)
theorem dg_ne (n : Nat) : dg n ≠ 45 := by have := dg_is n; omega
section
variable {y w9 k : Int} (h0 : 0 ≤ y) (h1 : y < 10000)
include h0 h1
theorem txA : PySem.Str.empty ++ intSpecTextOf (PySem.Str.ofString "04d") y ++ PySem.Str.ofString "-W53" = ⟨#[dg (y.toNat / 1000), dg (y.toNat / 100), dg (y.toNat / 10), dg y.toNat, 45, 87, 53, 51]⟩ := by
  rw [fmt4 h0 h1]
  refine Str.ext' (Array.toList_inj.mp ?_)
  simp only [Str.cps_append, Array.toList_append]
  rfl
theorem wfA : WkS (PySem.Str.empty ++ intSpecTextOf (PySem.Str.ofString "04d") y ++ PySem.Str.ofString "-W53") y 53 := by
  rw [txA h0 h1]
  exact wkS8 (yr_reads h0 h1) (lit53) (by omega) (by omega) (by omega) (by omega)
theorem txB (h2 : 0 ≤ w9) (h3 : w9 < 100) : PySem.Str.empty ++ intSpecTextOf (PySem.Str.ofString "04d") y ++ PySem.Str.ofString "W" ++ intSpecTextOf (PySem.Str.ofString "02d") w9 = ⟨#[dg (y.toNat / 1000), dg (y.toNat / 100), dg (y.toNat / 10), dg y.toNat, 87, dg (w9.toNat / 10), dg w9.toNat]⟩ := by
  rw [fmt4 h0 h1, fmt2 h2 h3]
  refine Str.ext' (Array.toList_inj.mp ?_)
  simp only [Str.cps_append, Array.toList_append]
  rfl
theorem wfB (h2 : 0 ≤ w9) (h3 : w9 < 100) : WkS (PySem.Str.empty ++ intSpecTextOf (PySem.Str.ofString "04d") y ++ PySem.Str.ofString "W" ++ intSpecTextOf (PySem.Str.ofString "02d") w9) y w9 := by
  rw [txB h0 h1 h2 h3]
  exact wkS7 (yr_reads h0 h1) (wk_reads h2 h3) (by omega) (by omega) (by omega) (by omega)
theorem txC (h2 : 0 ≤ w9) (h3 : w9 < 100) (h4 : 0 ≤ k) (h5 : k < 10) : PySem.Str.empty ++ intSpecTextOf (PySem.Str.ofString "04d") y ++ PySem.Str.ofString "W" ++ intSpecTextOf (PySem.Str.ofString "02d") w9 ++ PySem.Str.ofString (toString k) = ⟨#[dg (y.toNat / 1000), dg (y.toNat / 100), dg (y.toNat / 10), dg y.toNat, 87, dg (w9.toNat / 10), dg w9.toNat, dg k.toNat]⟩ := by
  rw [fmt4 h0 h1, fmt2 h2 h3, fmt1 h4 h5]
  refine Str.ext' (Array.toList_inj.mp ?_)
  simp only [Str.cps_append, Array.toList_append]
  rfl
theorem wfC (h2 : 0 ≤ w9) (h3 : w9 < 100) (h4 : 0 ≤ k) (h5 : k < 10) : WkL (PySem.Str.empty ++ intSpecTextOf (PySem.Str.ofString "04d") y ++ PySem.Str.ofString "W" ++ intSpecTextOf (PySem.Str.ofString "02d") w9 ++ PySem.Str.ofString (toString k)) y w9 k := by
  rw [txC h0 h1 h2 h3 h4 h5]
  exact wkL8 (yr_reads h0 h1) (wk_reads h2 h3) (dy_reads h4 h5) (dg_ne _) (by omega) (by omega) (by omega) (by omega) (by omega) (by omega)
theorem txD (h2 : 0 ≤ w9) (h3 : w9 < 100) (h4 : 0 ≤ k) (h5 : k < 10) : PySem.Str.empty ++ intSpecTextOf (PySem.Str.ofString "04d") y ++ PySem.Str.ofString "-W" ++ intSpecTextOf (PySem.Str.ofString "02d") w9 ++ PySem.Str.ofString "-" ++ PySem.Str.ofString (toString k) = ⟨#[dg (y.toNat / 1000), dg (y.toNat / 100), dg (y.toNat / 10), dg y.toNat, 45, 87, dg (w9.toNat / 10), dg w9.toNat, 45, dg k.toNat]⟩ := by
  rw [fmt4 h0 h1, fmt2 h2 h3, fmt1 h4 h5]
  refine Str.ext' (Array.toList_inj.mp ?_)
  simp only [Str.cps_append, Array.toList_append]
  rfl
theorem wfD (h2 : 0 ≤ w9) (h3 : w9 < 100) (h4 : 0 ≤ k) (h5 : k < 10) : WkL (PySem.Str.empty ++ intSpecTextOf (PySem.Str.ofString "04d") y ++ PySem.Str.ofString "-W" ++ intSpecTextOf (PySem.Str.ofString "02d") w9 ++ PySem.Str.ofString "-" ++ PySem.Str.ofString (toString k)) y w9 k := by
  rw [txD h0 h1 h2 h3 h4 h5]
  exact wkL10 (yr_reads h0 h1) (wk_reads h2 h3) (dy_reads h4 h5) (by omega) (by omega) (by omega) (by omega) (by omega) (by omega)
theorem txE (h2 : 0 ≤ w9) (h3 : w9 < 100) : PySem.Str.empty ++ intSpecTextOf (PySem.Str.ofString "04d") y ++ PySem.Str.ofString "-W" ++ intSpecTextOf (PySem.Str.ofString "02d") w9 = ⟨#[dg (y.toNat / 1000), dg (y.toNat / 100), dg (y.toNat / 10), dg y.toNat, 45, 87, dg (w9.toNat / 10), dg w9.toNat]⟩ := by
  rw [fmt4 h0 h1, fmt2 h2 h3]
  refine Str.ext' (Array.toList_inj.mp ?_)
  simp only [Str.cps_append, Array.toList_append]
  rfl
theorem wfE (h2 : 0 ≤ w9) (h3 : w9 < 100) : WkS (PySem.Str.empty ++ intSpecTextOf (PySem.Str.ofString "04d") y ++ PySem.Str.ofString "-W" ++ intSpecTextOf (PySem.Str.ofString "02d") w9) y w9 := by
  rw [txE h0 h1 h2 h3]
  exact wkS8 (yr_reads h0 h1) (wk_reads h2 h3) (by omega) (by omega) (by omega) (by omega)
theorem txF : PySem.Str.empty ++ intSpecTextOf (PySem.Str.ofString "04d") y ++ PySem.Str.ofString "W53" = ⟨#[dg (y.toNat / 1000), dg (y.toNat / 100), dg (y.toNat / 10), dg y.toNat, 87, 53, 51]⟩ := by
  rw [fmt4 h0 h1]
  refine Str.ext' (Array.toList_inj.mp ?_)
  simp only [Str.cps_append, Array.toList_append]
  rfl
theorem wfF : WkS (PySem.Str.empty ++ intSpecTextOf (PySem.Str.ofString "04d") y ++ PySem.Str.ofString "W53") y 53 := by
  rw [txF h0 h1]
  exact wkS7 (yr_reads h0 h1) (lit53) (by omega) (by omega) (by omega) (by omega)
theorem txG (h2 : 0 ≤ w9) (h3 : w9 < 100) : PySem.Str.empty ++ intSpecTextOf (PySem.Str.ofString "04d") y ++ PySem.Str.ofString "W" ++ intSpecTextOf (PySem.Str.ofString "02d") w9 ++ PySem.Str.ofString "1" = ⟨#[dg (y.toNat / 1000), dg (y.toNat / 100), dg (y.toNat / 10), dg y.toNat, 87, dg (w9.toNat / 10), dg w9.toNat, 49]⟩ := by
  rw [fmt4 h0 h1, fmt2 h2 h3]
  refine Str.ext' (Array.toList_inj.mp ?_)
  simp only [Str.cps_append, Array.toList_append]
  rfl
theorem wfG (h2 : 0 ≤ w9) (h3 : w9 < 100) : WkL (PySem.Str.empty ++ intSpecTextOf (PySem.Str.ofString "04d") y ++ PySem.Str.ofString "W" ++ intSpecTextOf (PySem.Str.ofString "02d") w9 ++ PySem.Str.ofString "1") y w9 1 := by
  rw [txG h0 h1 h2 h3]
  exact wkL8 (yr_reads h0 h1) (wk_reads h2 h3) (lit1) (by decide) (by omega) (by omega) (by omega) (by omega) (by omega) (by omega)
end
theorem rdA (w : World) (mean : ExcName → Option Value) (mg mb : Str → Option Value) (y : Int) (t : Tok) (h0 : 0 ≤ y) (h1 : y < 10000) : CT w mean mg mb 94 28 112 [.str (PySem.Str.empty ++ intSpecTextOf (PySem.Str.ofString "04d") y ++ PySem.Str.ofString "-W53") t] (fun _ => True) (ReadP (badG y 53 1) (monI y + ((53 - 1) * 7 + (1 - 1)))) :=
  have H := wfA h0 h1
  c_read w mean mg mb _ _ _ (fun t => c_parseWs w mean mg mb _ t y 53 H.l1 H.l2 H.len H.year H.b1 H.b2 H.w H.week H.b3 H.b4 H.ends) t
theorem rdB (w : World) (mean : ExcName → Option Value) (mg mb : Str → Option Value) (y w9 : Int) (t : Tok) (h0 : 0 ≤ y) (h1 : y < 10000) (h2 : 0 ≤ w9) (h3 : w9 < 100) : CT w mean mg mb 94 28 112 [.str (PySem.Str.empty ++ intSpecTextOf (PySem.Str.ofString "04d") y ++ PySem.Str.ofString "W" ++ intSpecTextOf (PySem.Str.ofString "02d") w9) t] (fun _ => True) (ReadP (badG y w9 1) (monI y + ((w9 - 1) * 7 + (1 - 1)))) :=
  have H := wfB h0 h1 h2 h3
  c_read w mean mg mb _ _ _ (fun t => c_parseWs w mean mg mb _ t y w9 H.l1 H.l2 H.len H.year H.b1 H.b2 H.w H.week H.b3 H.b4 H.ends) t
theorem rdC (w : World) (mean : ExcName → Option Value) (mg mb : Str → Option Value) (y w9 k : Int) (t : Tok) (h0 : 0 ≤ y) (h1 : y < 10000) (h2 : 0 ≤ w9) (h3 : w9 < 100) (h4 : 0 ≤ k) (h5 : k < 10) : CT w mean mg mb 94 28 112 [.str (PySem.Str.empty ++ intSpecTextOf (PySem.Str.ofString "04d") y ++ PySem.Str.ofString "W" ++ intSpecTextOf (PySem.Str.ofString "02d") w9 ++ PySem.Str.ofString (toString k)) t] (fun _ => True) (ReadP (badG y w9 k) (monI y + ((w9 - 1) * 7 + (k - 1)))) :=
  have H := wfC h0 h1 h2 h3 h4 h5
  c_read w mean mg mb _ _ _ (fun t => c_parseWl w mean mg mb _ t y w9 H.l1 H.l2 H.len H.year H.b1 H.b2 H.w H.week H.b3 H.b4 k H.goes H.dash H.day H.b5 H.b6) t
theorem rdD (w : World) (mean : ExcName → Option Value) (mg mb : Str → Option Value) (y w9 k : Int) (t : Tok) (h0 : 0 ≤ y) (h1 : y < 10000) (h2 : 0 ≤ w9) (h3 : w9 < 100) (h4 : 0 ≤ k) (h5 : k < 10) : CT w mean mg mb 94 28 112 [.str (PySem.Str.empty ++ intSpecTextOf (PySem.Str.ofString "04d") y ++ PySem.Str.ofString "-W" ++ intSpecTextOf (PySem.Str.ofString "02d") w9 ++ PySem.Str.ofString "-" ++ PySem.Str.ofString (toString k)) t] (fun _ => True) (ReadP (badG y w9 k) (monI y + ((w9 - 1) * 7 + (k - 1)))) :=
  have H := wfD h0 h1 h2 h3 h4 h5
  c_read w mean mg mb _ _ _ (fun t => c_parseWl w mean mg mb _ t y w9 H.l1 H.l2 H.len H.year H.b1 H.b2 H.w H.week H.b3 H.b4 k H.goes H.dash H.day H.b5 H.b6) t
theorem rdE (w : World) (mean : ExcName → Option Value) (mg mb : Str → Option Value) (y w9 : Int) (t : Tok) (h0 : 0 ≤ y) (h1 : y < 10000) (h2 : 0 ≤ w9) (h3 : w9 < 100) : CT w mean mg mb 94 28 112 [.str (PySem.Str.empty ++ intSpecTextOf (PySem.Str.ofString "04d") y ++ PySem.Str.ofString "-W" ++ intSpecTextOf (PySem.Str.ofString "02d") w9) t] (fun _ => True) (ReadP (badG y w9 1) (monI y + ((w9 - 1) * 7 + (1 - 1)))) :=
  have H := wfE h0 h1 h2 h3
  c_read w mean mg mb _ _ _ (fun t => c_parseWs w mean mg mb _ t y w9 H.l1 H.l2 H.len H.year H.b1 H.b2 H.w H.week H.b3 H.b4 H.ends) t
theorem rdF (w : World) (mean : ExcName → Option Value) (mg mb : Str → Option Value) (y : Int) (t : Tok) (h0 : 0 ≤ y) (h1 : y < 10000) : CT w mean mg mb 94 28 112 [.str (PySem.Str.empty ++ intSpecTextOf (PySem.Str.ofString "04d") y ++ PySem.Str.ofString "W53") t] (fun _ => True) (ReadP (badG y 53 1) (monI y + ((53 - 1) * 7 + (1 - 1)))) :=
  have H := wfF h0 h1
  c_read w mean mg mb _ _ _ (fun t => c_parseWs w mean mg mb _ t y 53 H.l1 H.l2 H.len H.year H.b1 H.b2 H.w H.week H.b3 H.b4 H.ends) t
theorem rdG (w : World) (mean : ExcName → Option Value) (mg mb : Str → Option Value) (y w9 : Int) (t : Tok) (h0 : 0 ≤ y) (h1 : y < 10000) (h2 : 0 ≤ w9) (h3 : w9 < 100) : CT w mean mg mb 94 28 112 [.str (PySem.Str.empty ++ intSpecTextOf (PySem.Str.ofString "04d") y ++ PySem.Str.ofString "W" ++ intSpecTextOf (PySem.Str.ofString "02d") w9 ++ PySem.Str.ofString "1") t] (fun _ => True) (ReadP (badG y w9 1) (monI y + ((w9 - 1) * 7 + (1 - 1)))) :=
  have H := wfG h0 h1 h2 h3
  c_read w mean mg mb _ _ _ (fun t => c_parseWl w mean mg mb _ t y w9 H.l1 H.l2 H.len H.year H.b1 H.b2 H.w H.week H.b3 H.b4 1 H.goes H.dash H.day H.b5 H.b6) t
end Mine
end
section
namespace Mine
section
open PySem.Calls
variable {prog : Program} {w : World} {A : Around} {E : Value → Shared → Prop} {s : Shared} {h₀ : Heap} {L a : Addr} {n : Nat} {news : List (Addr × Obj)}
theorem made_item {value slice : PySem.Expr} {l : List Value} {ns : List Int} {k : Int} {u : Tok} {Q : Value → Shared → Prop} (N : News h₀ L s.heap news) (hm : (a, W.listOf l.toArray n) ∈ news) (hi : IntsAre l ns)
    (h0 : 0 ≤ k) (h1 : k.toNat < ns.length) (h2 : ns.length ≤ 2 ^ 62) (h : ∀ t, Q (.int (ns.getD k.toNat 0) t) s)
    (hs : subscripted slice false (.ref a) (.int k u) = operate [.ref a, .int k u] (getItem (.ref a) (.int k u)) := by with_unfolding_all rfl) :
    wpAny (model prog w) A (subscriptTail value slice (.ref a) (.int k u)) Q E s := list_item ⟨_, (N _ hm).1, rfl, _, rfl⟩ hi h0 h1 h2 h hs
theorem ints12 {a b c d e f g h i j k l : Int} {t1 t2 t3 t4 t5 t6 t7 t8 t9 t10 t11 t12 : Tok} : IntsAre [.int a t1, .int b t2, .int c t3, .int d t4, .int e t5, .int f t6, .int g t7, .int h t8, .int i t9, .int j t10, .int k t11, .int l t12] [a, b, c, d, e, f, g, h, i, j, k, l] := by
  repeat (first | exact IntsAre.nil | refine IntsAre.cons _ _ ?_)
end
theorem ne_lt1 {news : List (Addr × Obj)} {L : Addr} (h : ∀ p ∈ news, p.1 < L) : ∀ p ∈ news, p.1 ≠ L + 1 := fun p hp => Nat.ne_of_lt (Nat.lt_succ_of_lt (h p hp))
local macro_rules | `(tactic| k_all) => `(tactic| exact ne_lt1 (by assumption))
set_option maxHeartbeats 16000000 in
theorem c_name (w : World) (mean : ExcName → Option Value) (mg mb : Str → Option Value) (y m9 d9 : Int) (t t2 t3 : Tok) (h1 : 1 ≤ y) (h2 : y ≤ 9999) (h3 : 1 ≤ m9) (h4 : m9 ≤ 12) (h5 : 1 ≤ d9) (h6 : d9 ≤ dimI y m9) : C w mean mg mb 113 8 32 [.int y t, .int m9 t2, .int d9 t3] (cNew (IsName (ordI y m9 d9))) := by
  w_top off
  k_with_none
  (k_with "execs cons" => ((with_reducible refine wpAny_execs_cons ?_); (try dsimp only)))
  (k_with "call ref" => (k_dflt ( (refine' use ?wq7c ?wq7k1 ?wq7k2 ?wq7k3 ?wq7k4 ?wq7k5 ?wq7k6 ?wq7k7 ?wq7k8 ?_); (case wq7k2 => k_asm); (case wq7k1 => k_asm); (case wq7k3 => k_asm); (case wq7k4 => k_asm); (case wq7k5 => k_asm); (case wq7c => first  | exact c_length _ _ _ _ _ _ _ _ (by omega) (by omega)); (case wq7k6 => first | exact rfl | assumption); (case wq7k7 => ktr_room); (case wq7k8 => ktr_units); (intro t9 h9 tk9 F9 N9; (try dsimp only); (try k_fold)))))
  (k_with "subscriptTail" => (k_here; (with_reducible show wpAny _ _ (subscriptTail (PySem.Expr.List _ _) _ (Value.ref _) (Value.int _ _)) _ _ _); k_dflt ( (refine' made_item ?wq7N ?wq7hm ?wq7hi ?wq7h0 ?wq7h1 ?wq7h2 ?_); (case wq7N => k_asm); (case wq7hm => k_mem); (case wq7hi => exact ints12); (case wq7h0 => omega); (case wq7h1 => (simp only [List.length_cons, List.length_nil]; omega)); (case wq7h2 => decide); k_whole; intro t9)))
  unfold C Ctr; k_fill
  intro dp un gd cn cs a ccd cl outer A₀ base h₀ L m news s Q E B F X N T hk hd hu hret
  have D0 : KtsDicts [] h₀ := ktsDicts_nil
  refine wpAny_call ?_
  k_dflt (refine' code_defC ?k1 ?k2 ?k3 ?k4 ?k5 ?kA ?kF ?kK ?k6 ?k7 ?k8 ?k9 ?kB ?kD ?_ ?c2 ?c3 ?c4; (case kA => exact rfl); (case kF => exact rfl); (case kK => assumption); (case k1 => k_asm); (case k2 => k_asm); (case k3 => k_asm); (case k4 => k_asm); (case k5 => k_asm); (case k6 => k_is); (case k7 => k_is); (case k8 => ktr_room); (case k9 => exact BindsTo.of_eq rfl); (case kB => exact rfl); (case kD => decide +kernel); (case c2 => exact rfl); (case c3 => exact rfl); (case c4 => exact rfl); k_whole; intro g' L' h' tk' cells' FG' F' N' Y' B' X' T' l1; (try k_lt l1); k_cells Y'; (try simp only [List.cons_append, List.nil_append] at N'); (try dsimp only); (try k_lift B'); (try k_fold))
  k_steps
  all_goals (try k_data)
  all_goals (refine' endN (Q := Q) (s := s) hret ?e ?F ?N ?S ?l; (case F => k_asm); (case N => k_asm); (case S => kcj_all); (case l => first | assumption | exact lt0 (by assumption) | exact lt1 (by assumption) | exact lt2 (by assumption) | exact lt3 (by assumption) | exact lt4 (by assumption) | exact lt5 (by assumption) | exact lt6 (by assumption)); (case e => (first | with_reducible exact name_b (p := y - 1) h1 h2 h3 h4 h5 h6 (by unfold sumI; with_reducible rfl) (by unfold wdI; with_reducible rfl) (.inl ⟨rfl, by with_reducible assumption⟩) (by with_reducible assumption) | with_reducible exact name_b (p := y) h1 h2 h3 h4 h5 h6 (by unfold sumI; with_reducible rfl) (by unfold wdI; with_reducible rfl) (.inr ⟨rfl, by with_reducible assumption⟩) (by with_reducible assumption) | with_reducible exact name_a (p := y - 1) h1 h2 h3 h4 h5 h6 (by unfold sumI; with_reducible rfl) (by unfold wdI; with_reducible rfl) (.inl ⟨rfl, by with_reducible assumption⟩) (by with_reducible assumption) | with_reducible exact name_a (p := y) h1 h2 h3 h4 h5 h6 (by unfold sumI; with_reducible rfl) (by unfold wdI; with_reducible rfl) (.inr ⟨rfl, by with_reducible assumption⟩) (by with_reducible assumption) | with_reducible exact name_s (p := y - 1) h1 h2 h3 h4 h5 h6 (by unfold sumI; with_reducible rfl) (by unfold wdI; with_reducible rfl) (.inl ⟨rfl, by with_reducible assumption⟩) (by with_reducible assumption) (by with_reducible assumption) | with_reducible exact name_s (p := y) h1 h2 h3 h4 h5 h6 (by unfold sumI; with_reducible rfl) (by unfold wdI; with_reducible rfl) (.inr ⟨rfl, by with_reducible assumption⟩) (by with_reducible assumption) (by with_reducible assumption))))
end Mine
end
section
namespace Mine
theorem AllHas.length9 {a : Int} {tl : List (Addr × Obj)} {ys : List Value} {y : Int} {n : Nat} (h : AllHas PairIn tl ys ((rangeKs a n).map fun k => (y, k))) : ys.length = n := by
  rw [h.1]; simp [rangeKs]
theorem le_days {prog : Program} {w : World} {A : Around} {E : Value → Shared → Prop} {s : Shared} {h₀ : Heap} {L a b : Addr} {news : List (Addr × Obj)} {yy mm dd y m d n : Int} {t u v t' u' v' : Tok} {k k' : Nat} {Q : Value → Shared → Prop} (N : News h₀ L s.heap news) (ha : (a, W.listOf #[.int yy t, .int mm u, .int dd v] k) ∈ news) (hb : (b, W.listOf #[.int y t', .int m u', .int d v'] k') ∈ news)
    (i1 : 1 ≤ mm) (i2 : mm ≤ 12) (i3 : 1 ≤ dd) (i4 : dd ≤ dimI yy mm) (i5 : dbyI yy + dbmI yy mm + dd = n) (j1 : 1 ≤ m) (j2 : m ≤ 12) (j3 : 1 ≤ d) (j4 : d ≤ dimI y m) (hu : A.units < cLine) (h : Q (.bool (decide (n ≤ ordI y m d))) s) : wpAny (model prog w) A (compareOp .LtE (.ref a) (.ref b)) Q E s :=
  le_lists (vs := [.int yy t, .int mm u, .int dd v]) (us := [.int y t', .int m u', .int d v']) N ha hb ints3 ints3 rfl hu (by rw [lex_le i1 i2 i3 i4 j1 j2 j3 j4]; unfold ordI at h ⊢; rw [i5]; exact h)
theorem eq_yes {yy mm dd y m d n : Int} (h : [yy, mm, dd] = [y, m, d]) (i5 : dbyI yy + dbmI yy mm + dd = n) : n = ordI y m d := by
  simp only [List.cons.injEq, and_true] at h
  obtain ⟨rfl, rfl, rfl⟩ := h
  exact i5.symm
theorem eq_no {yy mm dd y m d n : Int} (h : ¬ [yy, mm, dd] = [y, m, d]) (i5 : dbyI yy + dbmI yy mm + dd = n) (i1 : 1 ≤ mm) (i2 : mm ≤ 12) (i3 : 1 ≤ dd) (i4 : dd ≤ dimI yy mm) (j1 : 1 ≤ m) (j2 : m ≤ 12) (j3 : 1 ≤ d) (j4 : d ≤ dimI y m) : ¬ n = ordI y m d := fun e => h (lex_eq i1 i2 i3 i4 j1 j2 j3 j4 (i5.trans e))
theorem week_yes {y w d : Int} (h : badG y w d = none) : WeekOk y w := by
  unfold badG at h
  by_cases hw : WeekOk y w
  · exact hw
  · rw [if_pos hw] at h; split at h <;> cases h
theorem week_no {y w : Int} {m : PySem.Str} (h1 : 0 < y) (h2 : y < 10000) (h : badG y w 1 = some m) : ¬ WeekOk y w := fun hw => by
  rw [gN (by omega) (by omega) hw (by decide) (by decide)] at h; cases h
theorem ne_lt1' {news : List (Addr × Obj)} {L : Addr} (h : ∀ p ∈ news, p.1 < L) : ∀ p ∈ news, p.1 ≠ L + 1 := fun p hp => Nat.ne_of_lt (Nat.lt_succ_of_lt (h p hp))
section
open PySem.Calls
variable {prog : Program} {w : World} {A : Around} {E : Value → Shared → Prop} {s : Shared} {h₀ : Heap} {L a : Addr} {n : Nat} {news : List (Addr × Obj)}
theorem day0 {value slice : PySem.Expr} {v₀ v₁ v₂ : Value} {u : Tok} {Q : Value → Shared → Prop} (N : News h₀ L s.heap news) (hm : (a, W.listOf #[v₀, v₁, v₂] n) ∈ news) (h : Q v₀ s)
    (hs : subscripted slice false (.ref a) (.int 0 u) = operate [.ref a, .int 0 u] (getItem (.ref a) (.int 0 u)) := by with_unfolding_all rfl) :
    wpAny (model prog w) A (subscriptTail value slice (.ref a) (.int 0 u)) Q E s :=
  have hL : s.heap.IsList a #[v₀, v₁, v₂] := ⟨_, (N _ hm).1, rfl, _, rfl⟩
  tail_any hL.typeIs slot_list_getitem.lookup (wpAny_getItem_list hL (by decide) (by decide) rfl h) hs
end
noncomputable abbrev CU (w : World) (mean : ExcName → Option Value) (mg mb : Str → Option Value) (f : Addr) (d u : Nat) (vs : List Value) (pre : List (Addr × Obj) → Prop) (P : Value → List (Addr × Obj) → Prop) : Prop := CtrU Challenge.rw_km0087_05.row.prog w (Mine.heapK w.params) Mine.viewK lo mean mg mb f d u vs pre P
set_option maxHeartbeats 16000000 in
theorem c_looked (w : World) (mean : ExcName → Option Value) (mg mb : Str → Option Value) (da : Addr) (y m9 d9 : Int) (ty tm td : Tok) (kd : Nat) (h1 : 1 ≤ y) (h2 : y ≤ 9999) (h3 : 1 ≤ m9) (h4 : m9 ≤ 12) (h5 : 1 ≤ d9) (h6 : d9 ≤ dimI y m9) (s₀ : Int) (hch : Chain s₀ (List.filter qb (List.filter qa (rowI y)))) (hs1 : s₀ ≤ ordI y m9 d9) (hs2 : ordI y m9 d9 < s₀ + 7 * ((List.filter qb (List.filter qa (rowI y))).length : Int)) : CU w mean mg mb 118 40 160 [.ref da] (fun news => (da, W.listOf #[.int y ty, .int m9 tm, .int d9 td] kd) ∈ news) (IsFound (ordI y m9 d9)) := by
  w_top off
  k_with_none
  (k_with "eval Name" => (k_here; (with_reducible show wpAny _ _ (eval (PySem.Expr.Name _ _) (compEnvC _ _ _ _)) _ _ _); (trace "A"); k_dflt (refine' kcf_cell ?wq7N ?wq7c ?wq7m ?wq7d ?_ ?wq7k ?wq7x ?wq7b; (case wq7N => k_asm); (case wq7c => exact rfl); (trace "B"); (case wq7m => (repeat (first | (exact List.mem_cons_self) | (with_reducible assumption) | (with_reducible refine List.mem_cons_of_mem _ ?_) | (with_reducible refine List.mem_append_left _ ?_)))); (trace "C"); (case wq7d => assumption); (trace "D"); (case wq7k => exact rfl); (case wq7x => exact rfl); (case wq7b => exact rfl); trace "E")))
  (k_with "subscriptTail" => (k_here; (with_reducible show wpAny _ _ (subscriptTail _ _ (Value.ref _) (Value.int 0 _)) _ _ _); k_dflt (refine' day0 ?wq7N ?wq7hm ?_; (case wq7N => k_asm); (case wq7hm => (repeat (first | (exact List.mem_cons_self) | (with_reducible assumption) | (with_reducible refine List.mem_cons_of_mem _ ?_) | (with_reducible refine List.mem_append_left _ ?_)))); k_whole)))
  (k_with "eval ListComp" => (k_here; (with_reducible show wpAny _ _ (eval (PySem.Expr.ListComp (PySem.Expr.Tuple [PySem.Expr.Subscript _ _ _, PySem.Expr.Name _ _] _ _) _ _ _) _) _ _ _); k_dflt (refine LCg.ListComp_U (F₀ := by k_asm) (by with_unfolding_all rfl) (by decide) (by rfl) (by decide) (by rfl) ?_)))
  (k_with "CompSrc" => (k_here; k_dflt (refine LCg.CompSrc.range (n := 53) (by rfl) (by k_asm) (by k_asm) (by assumption) (by decide) (by rfl) (by decide) ?_; (with_reducible rename (_, W.listOf #[PySem.Value.int _ _, PySem.Value.int _ _, PySem.Value.int _ _] _) ∈ _ => hp9); intro g'; (refine' tup_day hp9 (fun k' t' I' oI' C' oC' D' m' ys' tl' h' tk' E' hlo' hhi' hC' hx' F' N' off' ne' => ?_) (fun ys' tl' hA' => ?_)); (all_goals (try simp only [List.cons_append, List.nil_append] at N')))))
  (k_with "CompEnd" => (k_dflt (refine' tup_end ?wq7eF ?wq7eN ?wq7eo ?wq7eT ?wq7er; (case wq7eF => assumption); (case wq7eN => assumption); (case wq7eo => assumption); (case wq7eT => omega); (case wq7er => rfl))))
  (k_with "exec Assign cons ListComp" => (k_here; k_dflt (refine' Assign_pairs ?wq7eF ?wq7W ?wq7l ?wq7sw ?wq7cl ?wq7ce ?wq7ki ?wq7na ?wq7x ?wq7x2 ?wq7xx ?wq7y ?wq7p ?_ ?wq7fs; (case wq7eF => k_asm); (case wq7W => exact WdOf.mk (by assumption) (by assumption) (by assumption) (by assumption) (by first | assumption | exact KtsTurn.refl)); (case wq7l => exact rfl); (case wq7sw => with_unfolding_all rfl); (case wq7cl => with_unfolding_all rfl); (case wq7ce => decide); (case wq7ki => exact rfl); (case wq7na => decide); (case wq7x => exact rfl); (case wq7x2 => exact rfl); (case wq7xx => decide); (case wq7y => exact rfl); (case wq7p => exact rfl); (case wq7fs => intro _; rfl))))
  (k_with "PairSrc" => (k_here; (with_reducible show PairSrc _ _ _ _ _ _ _ (PySem.Expr.Compare _ _ _ _) _ _ _ _ _ _ _ _ _); k_dflt (refine' PairSrc.intro qa ?wq7h ?wq7eF ?wq7W ?wq7N ?wq7m ?wq7A ?wq7z ?_ ?_; (case wq7h => exact rfl); (case wq7eF => k_asm); (case wq7W => exact WdOf.mk (by assumption) (by assumption) (by assumption) (by assumption) (by first | assumption | exact KtsTurn.refl)); (case wq7N => k_asm); (case wq7m => (repeat (first | (exact List.mem_cons_self) | (with_reducible assumption) | (with_reducible refine List.mem_cons_of_mem _ ?_) | (with_reducible refine List.mem_append_left _ ?_)))); (case wq7A => (refine' row_has ?wq7r1 ?wq7r2 ?wq7r3 (by assumption) ?wq7r4; (case wq7r1 => (repeat (first | (exact List.mem_cons_self) | (with_reducible assumption) | (with_reducible refine List.mem_cons_of_mem _ ?_) | (with_reducible refine List.mem_append_left _ ?_)))); (case wq7r2 => (repeat (first | (exact List.mem_cons_self) | (with_reducible assumption) | (with_reducible refine List.mem_cons_of_mem _ ?_) | (with_reducible refine List.mem_append_left _ ?_)))); (case wq7r3 => (repeat (first | (exact List.mem_cons_self) | (with_reducible assumption) | (with_reducible refine List.mem_cons_of_mem _ ?_) | (with_reducible refine List.mem_append_left _ ?_)))); (case wq7r4 => (intro e he; (repeat (first | exact List.mem_append_right _ he | (refine List.mem_cons_of_mem _ ?_))))))); (case wq7z => exact rowI_len _)); (rotate_left 1; (intro D' g' h' tk' ys' tl' hA' hW' F' N' o1'; obtain ⟨B', X', T', D', K'⟩ := hW'; (try simp only [List.cons_append, List.nil_append] at N'); (try dsimp only); (try k_lift B'); (try k_fold)); rotate_right 1; (intro p' t' u' I' oI' C' oC' D' m' ys' tl' g' h' tk' E' hp' hx' hy' hC' hW' F' N' off' ne'; obtain ⟨B', X', T', D', K'⟩ := hW'; (try simp only [List.cons_append, List.nil_append] at N'); (try dsimp only at hx' hy' ⊢); (try k_lift B'); (try k_fold)))))
  (k_with "PairSrc" => (k_here; (with_reducible show PairSrc _ _ _ _ _ _ _ (PySem.Expr.BoolOp _ _ _) _ _ _ _ _ _ _ _ _); k_dflt (refine' PairSrc.intro qb ?wq7h ?wq7eF ?wq7W ?wq7N ?wq7m ?wq7A ?wq7z ?_ ?_; (case wq7h => exact rfl); (case wq7eF => k_asm); (case wq7W => exact WdOf.mk (by assumption) (by assumption) (by assumption) (by assumption) (by first | assumption | exact KtsTurn.refl)); (case wq7N => k_asm); (case wq7m => (repeat (first | (exact List.mem_cons_self) | (with_reducible assumption) | (with_reducible refine List.mem_cons_of_mem _ ?_) | (with_reducible refine List.mem_append_left _ ?_)))); (case wq7A => exact AllHas.more (fun v x => PairIn.mono _ _ v x (by (intro e he; (repeat (first | exact List.mem_append_right _ he | (refine List.mem_cons_of_mem _ ?_)))))) (by assumption)); (case wq7z => exact filter_len (rowI_len _))); (rotate_left 1; (intro D' g' h' tk' ys' tl' hA' hW' F' N' o1'; obtain ⟨B', X', T', D', K'⟩ := hW'; (try simp only [List.cons_append, List.nil_append] at N'); (try dsimp only); (try k_lift B'); (try k_fold)); rotate_right 1; (intro p' t' u' I' oI' C' oC' D' m' ys' tl' g' h' tk' E' hp' hx' hy' hC' hW' F' N' off' ne'; obtain ⟨B', X', T', D', K'⟩ := hW'; (obtain ⟨hq1', hq2'⟩ := of_decide_eq_true (List.mem_filter.mp hp').2); (try simp only [List.cons_append, List.nil_append] at N'); (try dsimp only at hx' hy' ⊢); (try k_lift B'); (try k_fold)))))
  (k_with "joinParts" => (k_here; (first | (with_reducible show wpAny _ _ (joinParts _ []) _ _ _) | (with_reducible show wpAny _ _ (joinParts _ (evalEach [] _)) _ _ _)); (try (with_reducible refine joinParts_nilE ?_)); (with_reducible refine' joinParts_nil ?_ ?wq7z); (case wq7z => first | ((with_reducible refine fit1 ?_) <;> (first | ((with_reducible refine leafI ?_ ?_) <;> k_dflt omega) | ((with_reducible refine leafL ?_); k_dflt (decide +kernel)) | (with_reducible exact leafS (by assumption) (by decide)))) | ((with_reducible refine fit2 ?_ ?_) <;> (first | ((with_reducible refine leafI ?_ ?_) <;> k_dflt omega) | ((with_reducible refine leafL ?_); k_dflt (decide +kernel)) | (with_reducible exact leafS (by assumption) (by decide)))) | ((with_reducible refine fit3 ?_ ?_ ?_) <;> (first | ((with_reducible refine leafI ?_ ?_) <;> k_dflt omega) | ((with_reducible refine leafL ?_); k_dflt (decide +kernel)) | (with_reducible exact leafS (by assumption) (by decide)))) | ((with_reducible refine fit4 ?_ ?_ ?_ ?_) <;> (first | ((with_reducible refine leafI ?_ ?_) <;> k_dflt omega) | ((with_reducible refine leafL ?_); k_dflt (decide +kernel)) | (with_reducible exact leafS (by assumption) (by decide)))) | ((with_reducible refine fit5 ?_ ?_ ?_ ?_ ?_) <;> (first | ((with_reducible refine leafI ?_ ?_) <;> k_dflt omega) | ((with_reducible refine leafL ?_); k_dflt (decide +kernel)) | (with_reducible exact leafS (by assumption) (by decide)))) | ((with_reducible refine fit6 ?_ ?_ ?_ ?_ ?_ ?_) <;> (first | ((with_reducible refine leafI ?_ ?_) <;> k_dflt omega) | ((with_reducible refine leafL ?_); k_dflt (decide +kernel)) | (with_reducible exact leafS (by assumption) (by decide)))) | ((with_reducible refine fit7 ?_ ?_ ?_ ?_ ?_ ?_ ?_) <;> (first | ((with_reducible refine leafI ?_ ?_) <;> k_dflt omega) | ((with_reducible refine leafL ?_); k_dflt (decide +kernel)) | (with_reducible exact leafS (by assumption) (by decide)))))))
  (k_with "formatField int" => (k_here; (with_reducible show wpAny _ _ (formatField (Value.int _ _) PySem.Str.empty) _ _ _); k_dflt (refine wpAny_formatField_int (log_small (by omega) (by omega)) ?_)))
  (k_with "formatField int" => (k_here; (with_reducible show wpAny _ _ (formatField (Value.int _ _) (PySem.Str.ofString _)) _ _ _); k_dflt ((refine' KXf.field_sym (Heap.NoDigits.keeps (Top.nodigits ?wq7T) (Fr.keep ?wq7F)) ?wq7a ?wq7b ?wq7c ?wq7d ?wq7e ?_); (case wq7F => k_asm); (case wq7T => k_asm); (case wq7c => decide +kernel); (case wq7d => kxf_nat); (case wq7e => decide +kernel); (case wq7a => omega); (case wq7b => omega)); intro _ _ kxfF kxfLo kxfHi))
  (k_with "call ref" => (k_here; k_dflt (refine' useT ?wq7c ?wq7k1 ?wq7k2 ?wq7k3 ?wq7k4 ?wq7k5 ?wq7XB ?wq7TB ?wq7D ?wq7T0 ?wq7k6 ?wq7k7 ?wq7k8 ?wq7kp ?_; (case wq7k2 => k_asm); (case wq7k1 => k_asm); (case wq7k3 => k_asm); (case wq7k4 => k_asm); (case wq7k5 => k_asm); (case wq7XB => assumption); (case wq7TB => assumption); (case wq7D => assumption); (case wq7T0 => first | assumption | exact KtsTurn.refl); (case wq7c => first  | ((with_reducible refine rdA _ _ _ _ _ _ ?_ ?_) <;> omega) | ((with_reducible refine rdB _ _ _ _ _ _ _ ?_ ?_ ?_ ?_) <;> omega) | ((with_reducible refine rdC _ _ _ _ _ _ _ _ ?_ ?_ ?_ ?_ ?_ ?_) <;> omega)); (case wq7k6 => first | exact rfl | assumption); (case wq7k7 => ktr_room); (case wq7k8 => ktr_units); (case wq7kp => exact trivial)); (intro g9 v9 new9 h9 tk9 P9 T9 F9 N9 l9 B9 X9 P9' D9; obtain ⟨l9', o9, e1', e2', hP9⟩ := P9; subst e1' e2'; (try simp only [List.cons_append, List.nil_append] at N9); (try dsimp only); (try k_lift B9); (try k_fold); (first | (have hP9' := hP9.resolve_left (fun ⟨_, _, hr, _⟩ => bad_no hr (by omega) (by omega) (by assumption) (by omega) (by omega)); clear hP9; obtain ⟨hr9, hl9⟩ := hP9'; obtain ⟨yy, mm, dd, tyy, tmm, tdd, kk, e3', i1, i2, i3, i4, i5⟩ := hl9; subst e3') | (rcases hP9 with ⟨msg9, k9, hr9, hc9⟩ | ⟨hr9, hl9⟩; (focus (obtain ⟨cls9, dict9, data9, slots9⟩ := o9; obtain ⟨e3', n9, e4'⟩ := hc9; (dsimp only at e3' e4'); subst e3' e4')); rotate_left 1; (focus (obtain ⟨yy, mm, dd, tyy, tmm, tdd, kk, e3', i1, i2, i3, i4, i5⟩ := hl9; subst e3')); rotate_left 1)))))
  (k_with "call builtin:len" => (k_here; k_dflt (refine' len_has ?wq7N ?wq7m ?wq7A ?wq7z ?_; (case wq7N => k_asm); (case wq7m => (repeat (first | (exact List.mem_cons_self) | (with_reducible assumption) | (with_reducible refine List.mem_cons_of_mem _ ?_) | (with_reducible refine List.mem_append_left _ ?_)))); (case wq7A => assumption); (case wq7z => exact filter_len (filter_len (rowI_len _))); k_whole)))
  (k_with "exec While" => (k_here; k_dflt (refine' While_half ?wq7eF ?wq7N ?wq7W ?wq7hY ?wq7hW ?wq7hD ?wq7hR ?wq7hA ?wq7cY ?wq7cW ?wq7has ?wq7hs ?wq7hch ?wq7h1 ?wq7h2 ?_ ?wq7hE; (case wq7eF => k_asm); (case wq7N => k_asm); (case wq7W => exact WdOf.mk (by assumption) (by assumption) (by assumption) (by assumption) (by first | assumption | exact KtsTurn.refl)); (case wq7has => assumption); (case wq7hY => (repeat (first | (exact List.mem_cons_self) | (with_reducible assumption) | (with_reducible refine List.mem_cons_of_mem _ ?_) | (with_reducible refine List.mem_append_left _ ?_)))); (case wq7hW => (repeat (first | (exact List.mem_cons_self) | (with_reducible assumption) | (with_reducible refine List.mem_cons_of_mem _ ?_) | (with_reducible refine List.mem_append_left _ ?_)))); (case wq7hD => (repeat (first | (exact List.mem_cons_self) | (with_reducible assumption) | (with_reducible refine List.mem_cons_of_mem _ ?_) | (with_reducible refine List.mem_append_left _ ?_)))); (case wq7hR => (repeat (first | (exact List.mem_cons_self) | (with_reducible assumption) | (with_reducible refine List.mem_cons_of_mem _ ?_) | (with_reducible refine List.mem_append_left _ ?_)))); (case wq7hA => (repeat (first | (exact List.mem_cons_self) | (with_reducible assumption) | (with_reducible refine List.mem_cons_of_mem _ ?_) | (with_reducible refine List.mem_append_left _ ?_)))); (case wq7cY => exact ⟨_, by assumption⟩); (case wq7cW => exact ⟨_, by assumption⟩); (case wq7hs => (intro e he; (repeat (first | exact List.mem_append_right _ he | (refine List.mem_cons_of_mem _ ?_))))); (case wq7hch => assumption); (case wq7h1 => assumption); (case wq7h2 => assumption); (case wq7hE => passes_own)); (intro lo' hi' t1' t2' u' oY' oW' Y' g' h' tk' b1' b2' b3' b4' b5' hW' F' N' cY' cW' off' hA' inY'; obtain ⟨B', X', T', D', K'⟩ := hW'; obtain ⟨vY', dY'⟩ := cY'; obtain ⟨vW', dW'⟩ := cW'; (try dsimp only); (try k_lift B'); (try k_fold))))
  (k_with "subscriptTail" => (k_here; (with_reducible show wpAny _ _ (subscriptTail (PySem.Expr.Name (PySem.Str.ofString "row") _) _ (Value.ref _) (Value.int _ _)) _ _ _); k_dflt (refine' row_item ?wq7N ?wq7m ?wq7A ?wq7z ?wq7x0 ?wq7x1 ?_; (case wq7N => k_asm); (case wq7m => (repeat (first | (exact List.mem_cons_self) | (with_reducible assumption) | (with_reducible refine List.mem_cons_of_mem _ ?_) | (with_reducible refine List.mem_append_left _ ?_)))); (case wq7A => assumption); (case wq7z => exact filter_len (filter_len (rowI_len _))); (case wq7x0 => first | omega | exact mid_lo (by assumption) (by assumption)); (case wq7x1 => first | omega | exact mid_hi (by assumption) (by assumption)); k_whole); intro a9 p9 t9 u9 hp9 hm9; (obtain ⟨hg1, hg2, hg3, hg4, hg5, hg6⟩ := chain_at (by assumption) hp9)))
  (k_with "assign" => (k_here; k_dflt (refine' assign_cells ?wq7hh ?wq7eF ?wq7N ?wq7off ?wq7ne ?wq7m ?wq7dY ?wq7dW ?wq7hY ?wq7hW ?wq7kx ?wq7kx2 ?wq7hk ?_; (case wq7eF => k_asm); (case wq7N => k_asm); (case wq7off => assumption); (case wq7m => (repeat (first | (exact List.mem_cons_self) | (with_reducible assumption) | (with_reducible refine List.mem_cons_of_mem _ ?_) | (with_reducible refine List.mem_append_left _ ?_)))); (case wq7dY => exact ⟨_, by assumption⟩); (case wq7dW => exact ⟨_, by assumption⟩); (case wq7hh => exact rfl); (case wq7ne => exact Nat.ne_of_gt (Nat.lt_succ_self _)); (case wq7hY => exact rfl); (case wq7hW => exact rfl); (case wq7kx => exact rfl); (case wq7kx2 => exact rfl); (case wq7hk => exact rfl)); (intro h' tk' oY' oW' F' N' dY' dW'; (try dsimp only))))
  (k_with "assign Tuple" => (walk_at "assign"))
  (k_with "eval ListComp" => (k_here; (with_reducible show wpAny _ _ (eval (PySem.Expr.ListComp (PySem.Expr.List _ _) _ _ _) _) _ _ _); (with_reducible rename (_ = some _) => hq9); k_dflt (refine' ListComp_days hq9 ?wq7eF ?wq7W ?wq7cl ?wq7ce ?wq7ki ?wq7na ?wq7x ?_ ?wq7fs; (case wq7eF => k_asm); (case wq7W => exact WdOf.mk (by assumption) (by assumption) (by assumption) (by assumption) (by first | assumption | exact KtsTurn.refl)); (case wq7cl => with_unfolding_all rfl); (case wq7ce => decide); (case wq7ki => exact rfl); (case wq7na => decide); (case wq7x => exact rfl); (case wq7fs => intro _; rfl))))
  (k_with "RangeSrc" => (k_here; (with_reducible rename (_ ≤ ordI _ _ _) => hn9); k_dflt (refine' RangeSrc.days hn9 ?wq7h ?wq7eF ?wq7W ?wq7N ?wq7r ?_ ?_; (case wq7h => exact rfl); (case wq7eF => k_asm); (case wq7W => exact WdOf.mk (by assumption) (by assumption) (by assumption) (by assumption) (by first | assumption | exact KtsTurn.refl)); (case wq7N => k_asm); (case wq7r => assumption)); (rotate_left 1; (intro D' g' h' tk' ys' tl' hA' hW' F' N' o1'; obtain ⟨B', X', T', D', K'⟩ := hW'; (try simp only [List.cons_append, List.nil_append] at N'); (try dsimp only); (try k_lift B'); (try k_fold)); rotate_right 1; (intro p' t' I' oI' C' oC' D' m' ys' tl' g' h' tk' E' hlo' hhi' hx' hC' hW' F' N' off' ne'; obtain ⟨B', X', T', D', K'⟩ := hW'; (try simp only [List.cons_append, List.nil_append] at N'); (try dsimp only at hx' ⊢); (try k_lift B'); (try k_fold)))))
  (k_with "TurnEnd" => (k_here; k_dflt (refine' yield_pair ?wq7eF ?wq7eN ?wq7W ?wq7S ?wq7eo ?wq7eT ?wq7er ?wq7eq; (case wq7eF => k_asm); (case wq7eN => k_asm); (case wq7W => exact WdOf.mk (by assumption) (by assumption) (by assumption) (by assumption) (by first | assumption | exact KtsTurn.refl)); (case wq7S => kcf_all); (case wq7eo => assumption); (case wq7eT => omega); (case wq7er => exact rfl); (case wq7eq => first | exact decide_eq_true ⟨by omega, by omega⟩ | exact decide_eq_true (Or.inl (by omega)) | exact decide_eq_true (Or.inr (week_yes (by assumption)))))))
  (k_with "TurnEnd" => (k_here; k_dflt (refine' turn_leaves ?wq7eF ?wq7eN ?wq7W ?wq7S ?wq7eo ?wq7eq; (case wq7eF => k_asm); (case wq7eN => k_asm); (case wq7W => exact WdOf.mk (by assumption) (by assumption) (by assumption) (by assumption) (by first | assumption | exact KtsTurn.refl)); (case wq7S => kcf_all); (case wq7eo => assumption); (case wq7eq => first | exact decide_eq_false (fun q => by omega) | exact decide_eq_false (eq_no (by assumption) (by assumption) (by assumption) (by assumption) (by assumption) (by assumption) (by assumption) (by assumption) (by assumption) (by assumption)) | exact decide_eq_false (fun q => q.elim (by omega) (week_no (by omega) (by omega) (by assumption)))))))
  (k_with "compareOp LtE ref ref" => (k_here; k_dflt (refine' le_days ?wq7N ?wq7a ?wq7b ?wq7i1 ?wq7i2 ?wq7i3 ?wq7i4 ?wq7i5 ?wq7j1 ?wq7j2 ?wq7j3 ?wq7j4 ?wq7hu ?_; (case wq7N => k_asm); (case wq7a => (repeat (first | (exact List.mem_cons_self) | (with_reducible assumption) | (with_reducible refine List.mem_cons_of_mem _ ?_) | (with_reducible refine List.mem_append_left _ ?_)))); (case wq7b => (repeat (first | (exact List.mem_cons_self) | (with_reducible assumption) | (with_reducible refine List.mem_cons_of_mem _ ?_) | (with_reducible refine List.mem_append_left _ ?_)))); (case wq7i1 => assumption); (case wq7i2 => assumption); (case wq7i3 => assumption); (case wq7i4 => assumption); (case wq7i5 => assumption); (case wq7j1 => assumption); (case wq7j2 => assumption); (case wq7j3 => assumption); (case wq7j4 => assumption); (case wq7hu => units_room); k_whole)))
  (k_with "TurnEnd" => (k_here; k_dflt (refine' yield_trip ?wq7eF ?wq7eN ?wq7W ?wq7S ?wq7eo ?wq7eT ?wq7er ?wq7eq; (case wq7eF => k_asm); (case wq7eN => k_asm); (case wq7W => exact WdOf.mk (by assumption) (by assumption) (by assumption) (by assumption) (by first | assumption | exact KtsTurn.refl)); (case wq7S => kcf_all); (case wq7eo => assumption); (case wq7eT => omega); (case wq7er => exact rfl); (case wq7eq => exact decide_eq_true (eq_yes (by assumption) (by assumption))))))
  (k_with "HalfEnd" => (k_here; k_dflt (refine' HalfEnd.low ?wq7eF ?wq7eN ?wq7W ?wq7S ?wq7cy ?wq7cw ?wq7b0 ?wq7b1 ?wq7b2 ?wq7h1 ?wq7h2; (case wq7eF => k_asm); (case wq7eN => k_asm); (case wq7W => exact WdOf.mk (by assumption) (by assumption) (by assumption) (by assumption) (by first | assumption | exact KtsTurn.refl)); (case wq7S => kcf_all); (case wq7cy => exact ⟨_, by assumption⟩); (case wq7cw => exact ⟨_, by assumption⟩); (case wq7b0 => assumption); (case wq7b1 => exact mid_in (by omega)); (case wq7b2 => assumption); (case wq7h2 => assumption); (case wq7h1 => exact mid_le (mid_lo (by assumption) (by assumption)) (by assumption) (by assumption)))))
  (k_with "HalfEnd" => (k_here; k_dflt (refine' HalfEnd.high ?wq7eF ?wq7eN ?wq7W ?wq7S ?wq7cy ?wq7cw ?wq7b0 ?wq7b1 ?wq7b2 ?wq7h1 ?wq7h2; (case wq7eF => k_asm); (case wq7eN => k_asm); (case wq7W => exact WdOf.mk (by assumption) (by assumption) (by assumption) (by assumption) (by first | assumption | exact KtsTurn.refl)); (case wq7S => kcf_all); (case wq7cy => exact ⟨_, by assumption⟩); (case wq7cw => exact ⟨_, by assumption⟩); (case wq7b0 => assumption); (case wq7b1 => exact mid_in (by omega)); (case wq7b2 => assumption); (case wq7h1 => assumption); (case wq7h2 => exact mid_gt (mid_lo (by assumption) (by assumption)) (by assumption) (by assumption)))))
  (k_with "binaryOp Add ref ref" => (k_here; k_dflt ((refine' add_made ?wq7eF ?wq7eN ?wq7ea ?wq7eb ?wq7es ?_); (case wq7eF => k_asm); (case wq7eN => k_asm); (case wq7ea => (repeat (first | (exact List.mem_cons_self) | (with_reducible assumption) | (with_reducible refine List.mem_cons_of_mem _ ?_) | (with_reducible refine List.mem_append_left _ ?_)))); (case wq7eb => (repeat (first | (exact List.mem_cons_self) | (with_reducible assumption) | (with_reducible refine List.mem_cons_of_mem _ ?_) | (with_reducible refine List.mem_append_left _ ?_)))); (case wq7es => (rw [sizeLine_eq]; (try simp only [List.size_toArray, List.length_append, List.toList_toArray, List.length_cons, List.length_nil]); (have hAl := AllHas.length9 (by assumption)); omega)); intro l' h' F' N' l1; (try k_lt l1); (try k_sweep))))
  unfold CU CtrU; k_fill
  intro dp un gd cn cs a ccd cl outer A₀ base h₀ g₀ L m news s Q E B F X N T XB TB D T0 hk hd hu hpre hret
  refine wpAny_call ?_
  k_dflt (refine' enterTC ?k1 ?k2 ?k3 ?k4 ?k5 ?XB ?TB ?D ?T0 ?kA ?kF ?kK ?k6 ?k7 ?k8 ?k9 ?kB ?kD ?_ ?c2 ?c3 ?c4; (case kA => exact rfl); (case kF => exact rfl); (case kK => assumption); (case k1 => k_asm); (case k2 => k_asm); (case k3 => k_asm); (case k4 => k_asm); (case k5 => k_asm); (case XB => assumption); (case TB => assumption); (case D => assumption); (case T0 => assumption); (case k6 => k_is); (case k7 => k_is); (case k8 => ktr_room); (case k9 => exact BindsTo.of_eq rfl); (case kB => exact rfl); (case kD => decide +kernel); (case c2 => exact rfl); (case c3 => exact rfl); (case c4 => exact rfl); k_whole; intro g' L' h' tk' cells' FG' F' N' Y' B' X' T' D' l1; (try k_lt l1); k_cells Y'; (try simp only [List.cons_append, List.nil_append] at N'); (try dsimp only); (try k_lift B'); (try k_fold))
  k_steps
  all_goals (try k_data)
  all_goals (
    obtain ⟨a9, o9, hm9, hf9⟩ := found' (by assumption) (by assumption) (by assumption) (by assumption) (by assumption) (by assumption) (by assumption) (by first | assumption | omega) (by assumption) (by assumption) hs2
    refine' endU (Q := Q) (s := s) hret _ (hf9 _) ?eT ?eF ?eN ?eS ?eB ?eX ?eP ?eD
    case eF => k_asm
    case eN => k_asm
    case eT => first | assumption | exact KtsTurn.refl
    case eB => assumption
    case eX => assumption
    case eP => assumption
    case eD => assumption
    case eS =>
      simp only [List.cons_append, List.nil_append]
      refine List.forall_mem_cons.mpr ⟨by (repeat (first | (exact List.mem_cons_self) | (with_reducible assumption) | (with_reducible refine List.mem_cons_of_mem _ ?_) | (with_reducible refine List.mem_append_left _ ?_))), List.forall_mem_cons.mpr ⟨?_, fun p hp => ?_⟩⟩
      · (repeat (first | exact List.mem_append_right _ hm9 | (refine List.mem_cons_of_mem _ ?_)))
      · have hb := below3 (by assumption) p hp
        have hY := ‹∀ p ∈ _, p.1 ≠ L' + 1 + 1 + 1 → p.1 ≠ L' + 1 + 1 → p ∈ _› p (by (repeat (first | (exact List.mem_cons_self) | (with_reducible assumption) | (with_reducible refine List.mem_cons_of_mem _ ?_) | (with_reducible refine List.mem_append_left _ ?_)))) hb.1 hb.2
        (repeat (first | (exact List.mem_cons_self) | (with_reducible assumption) | (with_reducible refine List.mem_cons_of_mem _ ?_) | (with_reducible refine List.mem_append_left _ ?_))))
end Mine
end
section
namespace Mine
structure DayOk (y m9 d9 : Int) : Prop where
  h1 : 1 ≤ y
  h2 : y ≤ 9999
  h3 : 1 ≤ m9
  h4 : m9 ≤ 12
  h5 : 1 ≤ d9
  h6 : d9 ≤ dimI y m9
structure NmOk (n Y W k : Int) : Prop where
  n1 : 1 ≤ Y
  n2 : Y ≤ 9999
  n3 : WeekOk Y W
  n4 : 1 ≤ k
  n5 : k ≤ 7
  n6 : monI Y + (W - 1) * 7 + (k - 1) = n
theorem NmOk.uniq {n Y W k Y' W' k' : Int} (H : NmOk n Y W k) (h3 : WeekOk Y' W') (h4 : 1 ≤ k') (h5 : k' ≤ 7) (h6 : monI Y' + (W' - 1) * 7 + (k' - 1) = n) : Y' = Y ∧ W' = W ∧ k' = k := name_uniq h3 H.n3 h4 h5 H.n4 H.n5 h6 H.n6
theorem wk_lo {Y W : Int} (h : WeekOk Y W) : 1 ≤ W := by rcases h with ⟨a, b⟩ | ⟨a, b⟩ <;> omega
theorem wk_hi {Y W : Int} (h : WeekOk Y W) : W ≤ 53 := by rcases h with ⟨a, b⟩ | ⟨a, b⟩ <;> omega
structure YmdOk (n y m d : Int) : Prop where
  i1 : 1 ≤ m
  i2 : m ≤ 12
  i3 : 1 ≤ d
  i4 : d ≤ dimI y m
  i5 : dbyI y + dbmI y m + d = n
theorem YmdOk.same {n y m d n' y' m' d' : Int} (H : YmdOk n y m d) (H' : YmdOk n' y' m' d') (e : n = n') : [y, m, d] = [y', m', d'] := lex_eq H.i1 H.i2 H.i3 H.i4 H'.i1 H'.i2 H'.i3 H'.i4 (by have a := H.i5; have b := H'.i5; unfold ordI; omega)
theorem told_day {y m d y' m' d' Y W k : Int} (D : DayOk y' m' d') (M : NmOk (ordI y' m' d') Y W k) (H : YmdOk (monI Y + ((W - 1) * 7 + (k - 1))) y m d) (a : ¬ [y, m, d] = [y', m', d']) : False :=
  a (H.same ⟨D.h3, D.h4, D.h5, D.h6, rfl⟩ (by have := M.n6; unfold ordI at this; omega))
theorem told_two {y m d y' m' d' n : Int} (H : YmdOk n y m d) (H' : YmdOk n y' m' d') (a : ¬ [y, m, d] = [y', m', d']) : False := a (H.same H' rfl)
theorem bad53 {y : Int} {msg : PySem.Str} (h : badG y 53 1 = some msg) (h1 : 1 ≤ y) (h2 : y ≤ 9999) : msg = PySem.Str.ofString "Invalid week: 53" ∧ ¬ WeekOk y 53 := by
  by_cases hw : WeekOk y 53
  · rw [gN h1 h2 hw (by decide) (by decide)] at h; cases h
  · rw [gW h1 h2 hw] at h
    refine ⟨?_, hw⟩
    rw [← Option.some.inj h]; decide +kernel
theorem good53 {y : Int} (h : badG y 53 1 = none) (h1 : 1 ≤ y) (h2 : y ≤ 9999) : WeekOk y 53 := by
  by_cases hw : WeekOk y 53
  · exact hw
  · rw [gW h1 h2 hw] at h; cases h
theorem short_t {Y W k y : Int} (M : NmOk (ordI y 12 28) Y W k) (q : ¬ WeekOk y 53) (a : (true != (W == 52)) = true) : False := by
  have := (short_week rfl M.n3 M.n4 M.n5 M.n6).mpr q
  subst this; simp at a
theorem short_f {Y W k y : Int} (M : NmOk (ordI y 12 28) Y W k) (q : WeekOk y 53) (a : (false != (W == 52)) = true) : False := by
  have := fun e => (short_week rfl M.n3 M.n4 M.n5 M.n6).mp e q
  simp at a; exact this a
theorem look_any (w : World) (mean : ExcName → Option Value) (mg mb : Str → Option Value) (da : Addr) (y m9 d9 : Int) (ty tm td : Tok) (kd : Nat) (H : DayOk y m9 d9) :
    CU w mean mg mb 118 40 160 [.ref da] (fun news => (da, W.listOf #[.int y ty, .int m9 tm, .int d9 td] kd) ∈ news) (IsFound (ordI y m9 d9)) :=
  have ⟨h1, h2, h3, h4, h5, h6⟩ := H
  have hb := dbm_bound h3 h4 h5 h6
  have ⟨s₀, hc, b1, b2⟩ := weeks_chain (n := ordI y m9 d9) h1 h2 (by unfold ordI; omega) (by rw [dby_succ]; unfold ordI; omega)
  c_looked w mean mg mb da y m9 d9 ty tm td kd h1 h2 h3 h4 h5 h6 s₀ hc b1 b2
section
open PySem.Calls
theorem day1 {prog : Program} {w : World} {A : Around} {E : Value → Shared → Prop} {s : Shared} {h₀ : Heap} {L a : Addr} {n : Nat} {news : List (Addr × Obj)} {value slice : PySem.Expr} {v₀ v₁ v₂ : Value} {u : Tok} {Q : Value → Shared → Prop} (N : News h₀ L s.heap news) (hm : (a, W.listOf #[v₀, v₁, v₂] n) ∈ news) (h : Q v₁ s)
    (hs : subscripted slice false (.ref a) (.int 1 u) = operate [.ref a, .int 1 u] (getItem (.ref a) (.int 1 u)) := by with_unfolding_all rfl) :
    wpAny (model prog w) A (subscriptTail value slice (.ref a) (.int 1 u)) Q E s :=
  have hL : s.heap.IsList a #[v₀, v₁, v₂] := ⟨_, (N _ hm).1, rfl, _, rfl⟩
  tail_any hL.typeIs slot_list_getitem.lookup (wpAny_getItem_list hL (by decide) (by decide) rfl h) hs
theorem day2 {prog : Program} {w : World} {A : Around} {E : Value → Shared → Prop} {s : Shared} {h₀ : Heap} {L a : Addr} {n : Nat} {news : List (Addr × Obj)} {value slice : PySem.Expr} {v₀ v₁ v₂ : Value} {u : Tok} {Q : Value → Shared → Prop} (N : News h₀ L s.heap news) (hm : (a, W.listOf #[v₀, v₁, v₂] n) ∈ news) (h : Q v₂ s)
    (hs : subscripted slice false (.ref a) (.int 2 u) = operate [.ref a, .int 2 u] (getItem (.ref a) (.int 2 u)) := by with_unfolding_all rfl) :
    wpAny (model prog w) A (subscriptTail value slice (.ref a) (.int 2 u)) Q E s :=
  have hL : s.heap.IsList a #[v₀, v₁, v₂] := ⟨_, (N _ hm).1, rfl, _, rfl⟩
  tail_any hL.typeIs slot_list_getitem.lookup (wpAny_getItem_list hL (by decide) (by decide) rfl h) hs
end
theorem dec28 {y : Int} : dimI y 12 = 31 := by simp [dimI]
theorem two_len {vs us : List Value} {ns : List Int} {k : Nat} (h1 : IntsAre vs ns) (h2 : IntsAre us (([371, 0] : List Int).drop k)) (h : ¬ ((63 : Nat) : Int) < (ns.length : Int)) : vs.length + us.length ≤ sizeLine := by
  rw [h1.length, h2.length, List.length_drop, sizeLine_eq]; simp only [List.length_cons, List.length_nil]; omega
theorem two_lit {a b : Value} : ([a, b] : List Value).toArray.size ≤ sizeLine := by rw [sizeLine_eq]; simp
theorem two_size {vs us : List Value} {ns : List Int} {k : Nat} (h1 : IntsAre vs ns) (h2 : IntsAre us (([371, 0] : List Int).drop k)) (h : ¬ ((63 : Nat) : Int) < (ns.length : Int)) : (vs ++ us).toArray.size ≤ sizeLine := by
  rw [List.size_toArray, List.length_append]; exact two_len h1 h2 h
set_option maxHeartbeats 16000000 in
theorem law05 : Challenge.rw_km0087_05.Holds := by
  w_on
  o_law
  refine holds_open (q := viewK) (loose := looseL) (Xt := fun s => xlAt viewK lvL s && recOk Challenge.rw_km0087_05.row.records s) (XP := XL viewK lvL) (Yf := Hook.obs hookL) (Ya := Hook.val hookL) (YP := Hook.says hookL) (N := 3220) ?hl (Hook.of hookL) (Hook.keeps hookL) (fun s e => xl_of s (Bool.and_eq_true_iff.mp e).1) XL.keeps (by rfl) (by rfl) (by rfl) (fun s e => recFacts_of (Bool.and_eq_true_iff.mp e).2) (by rfl) (by first | assumption | decide +kernel) (by decide +kernel) ⟨rfl, rfl, rfl, rfl, rfl, by decide +kernel⟩ ?hw ?hc
  case hl => exact leftL
  case hw => w_witness2
  exact (by
  (rename_i said9; clear said9)
  delta hookL looseL lvL asL
  w_top off
  k_with_none
  (k_with "subscriptTail Name Slice ref ref" => (k_here; (with_reducible show wpAny _ _ (subscriptTail _ (PySem.Expr.Slice (some _) none none _) (Value.ref _) (Value.ref _)) _ _ _); k_dflt (refine' kmk_slice_ints ?wq7F ?wq7N ?wq7l ?wq7p ?wq7q ?wq7i ?wq7m ?wq7c ?_ ?wq7s ?wq7t ?wq7z; (case wq7F => k_asm); (case wq7N => k_asm); (case wq7l => exact ⟨_, (News.get (by k_asm) (by (repeat (first | (exact List.mem_cons_self) | (with_reducible assumption) | (with_reducible refine List.mem_cons_of_mem _ ?_) | (with_reducible refine List.mem_append_left _ ?_))))), rfl, _, rfl⟩); (case wq7p => kmk_part); (case wq7q => kmk_part); (case wq7i => exact ints2); (case wq7m => exact kmk_from ints2 (by omega)); (case wq7c => exact rfl); (case wq7s => with_unfolding_all rfl); (case wq7t => kmk_pure); (case wq7z => exact two_lit)); intro D' ws' h' F' N' l1 hI' hC' hL'; (try k_lt l1); (try k_sweep)))
  (k_with "subscriptTail Name Slice ref ref" => (k_here; (with_reducible show wpAny _ _ (subscriptTail _ (PySem.Expr.Slice none (some _) none _) (Value.ref _) (Value.ref _)) _ _ _); k_dflt (refine' kmk_slice_ints ?wq7F ?wq7N ?wq7l ?wq7p ?wq7q ?wq7i ?wq7m ?wq7c ?_ ?wq7s ?wq7t ?wq7z; (case wq7F => k_asm); (case wq7N => k_asm); (case wq7l => exact ⟨_, (News.get (by k_asm) (by (repeat (first | (exact List.mem_cons_self) | (with_reducible assumption) | (with_reducible refine List.mem_cons_of_mem _ ?_) | (with_reducible refine List.mem_append_left _ ?_))))), rfl, _, rfl⟩); (case wq7p => kmk_part); (case wq7q => kmk_part); (case wq7i => exact IntsAre.append (by assumption) (by assumption)); (case wq7m => exact kmk_upto (IntsAre.append (by assumption) (by assumption)) (by omega)); (case wq7c => exact rfl); (case wq7s => with_unfolding_all rfl); (case wq7t => kmk_pure); (case wq7z => exact two_size (by assumption) (by assumption) (by omega))); intro D' ws' h' F' N' l1 hI' hC' hL'; (try k_lt l1); (try k_sweep)))
  (k_with "subscriptTail List cons Slice ref ref" => (k_here; k_dflt (refine kba_turn (value' := PySem.Expr.Name (PySem.Str.ofString "_") ⟨0, 0, 0, 0⟩) (fun _ => rfl) ?_)))
  (k_with "subscriptTail BinOp Name Add Subscript Slice ref ref" => (k_here; k_dflt (refine kba_turn (value' := PySem.Expr.Name (PySem.Str.ofString "_") ⟨0, 0, 0, 0⟩) (fun _ => rfl) ?_)))
  (k_with "subscriptTail Name Constant ref int" => (k_here; (with_reducible show wpAny _ _ (subscriptTail _ _ (Value.ref _) (Value.int 0 _)) _ _ _); k_dflt (refine' day0 ?wq7N ?wq7hm ?_; (case wq7N => k_asm); (case wq7hm => (repeat (first | (exact List.mem_cons_self) | (with_reducible assumption) | (with_reducible refine List.mem_cons_of_mem _ ?_) | (with_reducible refine List.mem_append_left _ ?_)))); k_whole)))
  (k_with "subscriptTail Name Constant ref int" => (k_here; (with_reducible show wpAny _ _ (subscriptTail _ _ (Value.ref _) (Value.int 1 _)) _ _ _); k_dflt (refine' day1 ?wq7N ?wq7hm ?_; (case wq7N => k_asm); (case wq7hm => (repeat (first | (exact List.mem_cons_self) | (with_reducible assumption) | (with_reducible refine List.mem_cons_of_mem _ ?_) | (with_reducible refine List.mem_append_left _ ?_)))); k_whole)))
  (k_with "subscriptTail Name Constant ref int" => (k_here; (with_reducible show wpAny _ _ (subscriptTail _ _ (Value.ref _) (Value.int 2 _)) _ _ _); k_dflt (refine' day2 ?wq7N ?wq7hm ?_; (case wq7N => k_asm); (case wq7hm => (repeat (first | (exact List.mem_cons_self) | (with_reducible assumption) | (with_reducible refine List.mem_cons_of_mem _ ?_) | (with_reducible refine List.mem_append_left _ ?_)))); k_whole)))
  (k_with "exec For Name Subscript cons nil" => (k_here; (rename Fr _ _ _ _ => lF'); (with_unfolding_all refine' For_invVF lF' ?wq7k1 ?wq7k2 ?_; (case wq7k1 => exact rfl); (case wq7k2 => exact rfl); k_whole)))
  (k_with "exec For" => (k_here; (rename Fr _ _ _ _ => lF'); (with_unfolding_all refine' For_invVF lF' ?wq7k1 ?wq7k2 ?_; (case wq7k1 => exact rfl); (case wq7k2 => exact rfl); k_whole)))
  (k_with "compareOp NotEq ref ref" => (k_here; (with_reducible show wpAny _ _ (compareOp CmpOp.NotEq (Value.ref _) (Value.ref _)) _ _ _); k_dflt (refine' types_ne ?wq7N ?wq7a ?wq7b ?wq7u ?_; (case wq7N => k_asm); (case wq7a => (repeat (first | (with_reducible exact List.mem_cons_self) | (with_reducible refine List.mem_cons_of_mem _ ?_)))); (case wq7b => (repeat (first | (with_reducible exact List.mem_cons_self) | (with_reducible refine List.mem_cons_of_mem _ ?_)))); (case wq7u => ke_room))))
  (k_with "CompEnd" => (k_dflt (refine LCg.CompEnd.intro (by assumption) (by assumption) _ (fun _ h => h) (by first | assumption | (simp only [LCg.Off3, and_true]; assumption)) (by lcg_src) ?_)))
  (k_with "pyIter ref" => (k_here; k_dflt (refine' loop_ints ?wq7hh ?wq7eF ?wq7eN ?wq7em ?wq7ei ?_ ?_; (case wq7hh => exact rfl); (case wq7eF => k_asm); (case wq7eN => k_asm); (case wq7em => (repeat (first | (exact List.mem_cons_self) | (with_reducible assumption) | (with_reducible refine List.mem_cons_of_mem _ ?_) | (with_reducible refine List.mem_append_left _ ?_)))); (case wq7ei => assumption)); (rotate_left 1; (intro m' h' tk' F' N'; (try dsimp only)); rotate_right 1; (intro n' t' m' h' tk' own' hn' F' N'; (try dsimp only)))))
  (k_with "binaryOp Add ref ref" => (k_here; k_dflt (refine' add_script ?wq7F ?wq7N ?wq7a ?wq7b ?wq7z ?_; (case wq7F => k_asm); (case wq7N => k_asm); (case wq7a => assumption); (case wq7b => (repeat (first | (exact List.mem_cons_self) | (with_reducible assumption) | (with_reducible refine List.mem_cons_of_mem _ ?_) | (with_reducible refine List.mem_append_left _ ?_)))); (case wq7z => exact two_len (by assumption) (by assumption) (by omega))); intro l' h' F' N' l1; (try k_lt l1); (try k_sweep)))
  (k_with "joinParts" => (k_here; (first | (with_reducible show wpAny _ _ (joinParts _ []) _ _ _) | (with_reducible show wpAny _ _ (joinParts _ (evalEach [] _)) _ _ _)); (try (with_reducible refine joinParts_nilE ?_)); (with_reducible refine' joinParts_nil ?_ ?wq7z); (case wq7z => first | ((with_reducible refine fit1 ?_) <;> (first | ((with_reducible refine leafI ?_ ?_) <;> k_dflt omega) | ((with_reducible refine leafL ?_); k_dflt (decide +kernel)) | (with_reducible exact leafS (by assumption) (by decide)))) | ((with_reducible refine fit2 ?_ ?_) <;> (first | ((with_reducible refine leafI ?_ ?_) <;> k_dflt omega) | ((with_reducible refine leafL ?_); k_dflt (decide +kernel)) | (with_reducible exact leafS (by assumption) (by decide)))) | ((with_reducible refine fit3 ?_ ?_ ?_) <;> (first | ((with_reducible refine leafI ?_ ?_) <;> k_dflt omega) | ((with_reducible refine leafL ?_); k_dflt (decide +kernel)) | (with_reducible exact leafS (by assumption) (by decide)))) | ((with_reducible refine fit4 ?_ ?_ ?_ ?_) <;> (first | ((with_reducible refine leafI ?_ ?_) <;> k_dflt omega) | ((with_reducible refine leafL ?_); k_dflt (decide +kernel)) | (with_reducible exact leafS (by assumption) (by decide)))) | ((with_reducible refine fit5 ?_ ?_ ?_ ?_ ?_) <;> (first | ((with_reducible refine leafI ?_ ?_) <;> k_dflt omega) | ((with_reducible refine leafL ?_); k_dflt (decide +kernel)) | (with_reducible exact leafS (by assumption) (by decide)))) | ((with_reducible refine fit6 ?_ ?_ ?_ ?_ ?_ ?_) <;> (first | ((with_reducible refine leafI ?_ ?_) <;> k_dflt omega) | ((with_reducible refine leafL ?_); k_dflt (decide +kernel)) | (with_reducible exact leafS (by assumption) (by decide)))) | ((with_reducible refine fit7 ?_ ?_ ?_ ?_ ?_ ?_ ?_) <;> (first | ((with_reducible refine leafI ?_ ?_) <;> k_dflt omega) | ((with_reducible refine leafL ?_); k_dflt (decide +kernel)) | (with_reducible exact leafS (by assumption) (by decide)))))))
  (k_with "formatField int" => (k_here; (with_reducible show wpAny _ _ (formatField (Value.int _ _) PySem.Str.empty) _ _ _); k_dflt (refine wpAny_formatField_int (log_small (by omega) (by omega)) ?_)))
  (k_with "formatField int" => (k_here; (with_reducible show wpAny _ _ (formatField (Value.int _ _) (PySem.Str.ofString _)) _ _ _); k_dflt ((refine' KXf.field_sym (Heap.NoDigits.keeps (Top.nodigits ?wq7T) (Fr.keep ?wq7F)) ?wq7a ?wq7b ?wq7c ?wq7d ?wq7e ?_); (case wq7F => k_asm); (case wq7T => k_asm); (case wq7c => decide +kernel); (case wq7d => kxf_nat); (case wq7e => decide +kernel); (case wq7a => omega); (case wq7b => omega)); intro _ _ kxfF kxfLo kxfHi))
  (k_with "call ref" => (k_dflt ( (refine' use ?wq7c ?wq7k1 ?wq7k2 ?wq7k3 ?wq7k4 ?wq7k5 ?wq7k6 ?wq7k7 ?wq7k8 ?_); (case wq7k2 => k_asm); (case wq7k1 => k_asm); (case wq7k3 => k_asm); (case wq7k4 => k_asm); (case wq7k5 => k_asm); (case wq7c => first  | exact c_day _ _ _ _ _ _); (case wq7k6 => first | exact rfl | assumption); (case wq7k7 => ktr_room); (case wq7k8 => ktr_units); (intro l9 o9 h9 tk9 P9 F9 N9 l1; obtain ⟨y9, m9, d9, ty9, tm9, td9, kd9, e3', j1, j2, j3, j4, j5, j6⟩ := P9; have hd9 : DayOk y9 m9 d9 := ⟨j1, j2, j3, j4, j5, j6⟩; subst e3'; (try dsimp only); (try k_fold); (try k_lt l1)))))
  (k_with "call ref" => (k_dflt ( (refine' use ?wq7c ?wq7k1 ?wq7k2 ?wq7k3 ?wq7k4 ?wq7k5 ?wq7k6 ?wq7k7 ?wq7k8 ?_); (case wq7k2 => k_asm); (case wq7k1 => k_asm); (case wq7k3 => k_asm); (case wq7k4 => k_asm); (case wq7k5 => k_asm); (case wq7c => first  | exact c_name _ _ _ _ _ _ _ _ _ _ (by assumption) (by assumption) (by assumption) (by assumption) (by assumption) (by assumption) | exact c_name _ _ _ _ _ _ _ _ _ _ (by assumption) (by assumption) (by omega) (by omega) (by omega) (by rw [dec28]; omega)); (case wq7k6 => first | exact rfl | assumption); (case wq7k7 => ktr_room); (case wq7k8 => ktr_units); (intro l9 o9 h9 tk9 P9 F9 N9 l1; obtain ⟨Y9, W9, k9, tY9, tW9, tk9', q9, e3', n1, n2, n3, n4, n5, n6⟩ := P9; have hm9 := NmOk.mk n1 n2 n3 n4 n5 n6; have w1 := wk_lo n3; have w2 := wk_hi n3; clear n6; subst e3'; (try dsimp only); (try k_fold); (try k_lt l1)))))
  (k_with "call ref" => (k_here; k_dflt (refine' useT ?wq7c ?wq7k1 ?wq7k2 ?wq7k3 ?wq7k4 ?wq7k5 ?wq7XB ?wq7TB ?wq7D ?wq7T0 ?wq7k6 ?wq7k7 ?wq7k8 ?wq7kp ?_; (case wq7k2 => k_asm); (case wq7k1 => k_asm); (case wq7k3 => k_asm); (case wq7k4 => k_asm); (case wq7k5 => k_asm); (case wq7XB => assumption); (case wq7TB => assumption); (case wq7D => exact ktsDicts_nil); (case wq7T0 => exact KtsTurn.refl); (case wq7k6 => first | exact rfl | assumption); (case wq7c => first  | ((with_reducible refine rdB _ _ _ _ _ _ _ ?_ ?_ ?_ ?_) <;> omega) | ((with_reducible refine rdC _ _ _ _ _ _ _ _ ?_ ?_ ?_ ?_ ?_ ?_) <;> omega) | ((with_reducible refine rdD _ _ _ _ _ _ _ _ ?_ ?_ ?_ ?_ ?_ ?_) <;> omega) | ((with_reducible refine rdE _ _ _ _ _ _ _ ?_ ?_ ?_ ?_) <;> omega) | ((with_reducible refine rdF _ _ _ _ _ _ ?_ ?_) <;> omega) | ((with_reducible refine rdG _ _ _ _ _ _ _ ?_ ?_ ?_ ?_) <;> omega)); (case wq7k7 => ktr_room); (case wq7k8 => ktr_units); (case wq7kp => exact trivial)); k_dflt (intro g9 v9 new9 h9 tk9 P9 T9 F9 N9 l9 B9 X9 P9' D9; replace F9 := unturnF T9 F9; replace N9 := unturnN T9 N9; clear B9 X9 P9' D9 T9; obtain ⟨l9', o9, e1', e2', hP9⟩ := P9; subst e1' e2'; (try simp only [List.cons_append, List.nil_append] at N9); (try dsimp only); (try k_fold); (first | (have hP9' := hP9.resolve_left (fun ⟨_, _, hr, _⟩ => bad_no hr (by omega) (by omega) (by assumption) (by omega) (by omega)); clear hP9; obtain ⟨hr9, hl9⟩ := hP9'; obtain ⟨yy, mm, dd, tyy, tmm, tdd, kk, e3', i1, i2, i3, i4, i5⟩ := hl9; have hy9 := YmdOk.mk i1 i2 i3 i4 i5; clear i1 i2 i3 i4 i5; subst e3') | (rcases hP9 with ⟨msg9, k9, hr9, hc9⟩ | ⟨hr9, hl9⟩; (focus (obtain ⟨cls9, dict9, data9, slots9⟩ := o9; obtain ⟨e3', n9, e4'⟩ := hc9; (dsimp only at e3' e4'); subst e3' e4'; obtain ⟨qm, qw⟩ := bad53 hr9 (by omega) (by omega); clear hr9; subst qm)); rotate_left 1; (focus (have qw := good53 hr9 (by omega) (by omega); obtain ⟨yy, mm, dd, tyy, tmm, tdd, kk, e3', i1, i2, i3, i4, i5⟩ := hl9; have hy9 := YmdOk.mk i1 i2 i3 i4 i5; clear i1 i2 i3 i4 i5; subst e3')); rotate_left 1)))))
  (k_with "call ref" => (k_here; (with_reducible rename DayOk _ _ _ => hd9); (with_reducible rename NmOk _ _ _ _ => hm9); k_dflt (refine' useU (look_any _ _ _ _ _ _ _ _ _ _ _ _ hd9) ?wq7k1 ?wq7k2 ?wq7k3 ?wq7k4 ?wq7k5 ?wq7XB ?wq7TB ?wq7D ?wq7T0 ?wq7k6 ?wq7k7 ?wq7k8 ?wq7kp ?_; (case wq7k2 => k_asm); (case wq7k1 => k_asm); (case wq7k3 => k_asm); (case wq7k4 => k_asm); (case wq7k5 => k_asm); (case wq7XB => assumption); (case wq7TB => assumption); (case wq7D => exact ktsDicts_nil); (case wq7T0 => exact KtsTurn.refl); (case wq7k6 => first | exact rfl | assumption); (case wq7k7 => ktr_room); (case wq7k8 => ktr_units); (case wq7kp => ((try dsimp only); (repeat (first | (exact List.mem_cons_self) | (with_reducible assumption) | (with_reducible refine List.mem_cons_of_mem _ ?_) | (with_reducible refine List.mem_append_left _ ?_)))))); k_dflt (intro g9 v9 new9 h9 tk9 P9 T9 F9 N9 B9 X9 P9' D9; replace F9 := unturnF T9 F9; replace N9 := unturnN T9 N9; clear B9 X9 P9' D9 T9; obtain ⟨l9', a9', j9', o9, e1', e2', hP9⟩ := P9; subst e1' e2'; obtain ⟨Y9, W9, k9, tY9, tW9, tk9', q9, e3', n1, n2, n3, n4, n5, n6⟩ := hP9; subst e3'; obtain ⟨q1, q2, q3⟩ := hm9.uniq n3 n4 n5 n6; clear n1 n2 n3 n4 n5 n6; subst q1 q2 q3; (try simp only [List.cons_append, List.nil_append] at N9); (try dsimp only); (try k_fold))))
  k_go0
  all_goals try k_fold
  k_steps
  all_goals (try k_data)
  all_goals first
  | (refine' LoopPost.next ?zF ?zN ?zS; (case zF => k_asm); (case zN => k_asm); (case zS => kcf_all))
  | (exfalso; refine' told_day ?zD ?zM ?zH ?za; (case za => assumption); (case zD => assumption); (case zM => assumption); (case zH => assumption))
  | (exfalso; refine' told_two ?zG ?zH ?za; (case za => assumption); (case zG => assumption); (case zH => assumption))
  | (exfalso; refine' short_t ?zM ?zq ?za; (case za => assumption); (case zM => assumption); (case zq => assumption))
  | (exfalso; refine' short_f ?zM ?zq ?za; (case za => assumption); (case zM => assumption); (case zq => assumption)))
end Mine
end
theorem PySem.Challenge.cw_km0087_05_holds : PySem.Challenge.rw_km0087_05.Holds := by
  exact Mine.law05
