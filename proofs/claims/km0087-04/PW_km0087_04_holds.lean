import PyProof.Rows.All
import Wide.All
import OpenK.AllK
import Wide.FinOn
import Lean
import PySem.Challenge.RW_km0087_04
open PySem PySem.W PyProof.Rows
set_option Elab.async false
set_option maxRecDepth 100000
local macro_rules | `(tactic| walk_at $s:str) => `(tactic| k_extra $s)
section
namespace Mine
noncomputable abbrev progL : Program := Challenge.rw_km0087_04.row.prog
def pick (l : List Stmt) (is : List Nat) : List Stmt := is.filterMap (l[·]?)
noncomputable def viewK0 : Program := { progL with main := { progL.main with body := pick progL.main.body [1, 2, 3, 4, 8, 9, 10, 11, 12, 13, 14, 15, 16, 17, 18, 19, 21, 22, 23, 24, 25, 26] } }
noncomputable def viewK : Program := by
  refine' (?f : (x : Program) → x = viewK0 → Program) _ ?h
  case f => exact fun x _ => x
  case h =>
    unfold viewK0
    dsimp only [progL, OpenLaw.row, OpenLaw.prog, Challenge.rw_km0087_04, Challenge.pw_km0087_04, pick, List.filterMap, List.getElem?_cons_succ, List.getElem?_cons_zero]
    exact rfl
noncomputable def fnL (i : Nat) : Arguments × List Stmt × Scope := match progL.main.body[i]? with
  | some (.FunctionDef _ p b _ _ _ s _ _ _) => (p, b, s)
  | _ => default
set_option maxHeartbeats 0 in
noncomputable def heapK : Params → Frag := fun P => List.cons (nat_lit 2, ({ cls := PySem.Value.none, data := PySem.Data.dict #[] } : Obj)) <|
  List.cons (nat_lit 3, ({ cls := PySem.Value.type "dict", data := PySem.Data.dict #[{ hash := PySem.PyData.keyHash P (PySem.Str.ofString "__name__"), key := PySem.Value.str (PySem.Str.ofString "__name__") 165, val := PySem.Value.str (PySem.Str.ofString "law_km0087_04") 396 }, { hash := PySem.PyData.keyHash P (PySem.Str.ofString "__doc__"), key := PySem.Value.str (PySem.Str.ofString "__doc__") 166, val := PySem.Value.none }, { hash := PySem.PyData.keyHash P (PySem.Str.ofString "__package__"), key := PySem.Value.str (PySem.Str.ofString "__package__") 167, val := PySem.Value.none }, { hash := PySem.PyData.keyHash P (PySem.Str.ofString "__loader__"), key := PySem.Value.str (PySem.Str.ofString "__loader__") 168, val := PySem.Value.builtin "__main__.__loader__#opaque" }, { hash := PySem.PyData.keyHash P (PySem.Str.ofString "__spec__"), key := PySem.Value.str (PySem.Str.ofString "__spec__") 169, val := PySem.Value.none }, { hash := PySem.PyData.keyHash P (PySem.Str.ofString "__annotations__"), key := PySem.Value.str (PySem.Str.ofString "__annotations__") 170, val := PySem.Value.ref 6 }, { hash := PySem.PyData.keyHash P (PySem.Str.ofString "__builtins__"), key := PySem.Value.str (PySem.Str.ofString "__builtins__") 171, val := PySem.Value.ref 4 }, { hash := PySem.PyData.keyHash P (PySem.Str.ofString "__file__"), key := PySem.Value.str (PySem.Str.ofString "__file__") 173, val := PySem.Value.str (PySem.Str.ofString "/claim/cut.py") 172 }, { hash := PySem.PyData.keyHash P (PySem.Str.ofString "__cached__"), key := PySem.Value.str (PySem.Str.ofString "__cached__") 174, val := PySem.Value.none }, { hash := PySem.PyData.keyHash P (PySem.Str.ofString "MINYEAR"), key := PySem.Value.str (PySem.Str.ofString "MINYEAR") 190, val := PySem.Value.int 1 189 }, { hash := PySem.PyData.keyHash P (PySem.Str.ofString "MAXYEAR"), key := PySem.Value.str (PySem.Str.ofString "MAXYEAR") 192, val := PySem.Value.int 9999 191 }, { hash := PySem.PyData.keyHash P (PySem.Str.ofString "_DAYS_IN_MONTH"), key := PySem.Value.str (PySem.Str.ofString "_DAYS_IN_MONTH") 207, val := PySem.Value.ref 15 }, { hash := PySem.PyData.keyHash P (PySem.Str.ofString "_DAYS_BEFORE_MONTH"), key := PySem.Value.str (PySem.Str.ofString "_DAYS_BEFORE_MONTH") 210, val := PySem.Value.ref 16 }, { hash := PySem.PyData.keyHash P (PySem.Str.ofString "_is_leap"), key := PySem.Value.str (PySem.Str.ofString "_is_leap") 256, val := PySem.Value.ref 28 }, { hash := PySem.PyData.keyHash P (PySem.Str.ofString "_days_before_year"), key := PySem.Value.str (PySem.Str.ofString "_days_before_year") 264, val := PySem.Value.ref 35 }, { hash := PySem.PyData.keyHash P (PySem.Str.ofString "_days_in_month"), key := PySem.Value.str (PySem.Str.ofString "_days_in_month") 272, val := PySem.Value.ref 42 }, { hash := PySem.PyData.keyHash P (PySem.Str.ofString "_days_before_month"), key := PySem.Value.str (PySem.Str.ofString "_days_before_month") 280, val := PySem.Value.ref 49 }, { hash := PySem.PyData.keyHash P (PySem.Str.ofString "_ymd2ord"), key := PySem.Value.str (PySem.Str.ofString "_ymd2ord") 290, val := PySem.Value.ref 56 }, { hash := PySem.PyData.keyHash P (PySem.Str.ofString "_DI400Y"), key := PySem.Value.str (PySem.Str.ofString "_DI400Y") 307, val := PySem.Value.int 146097 306 }, { hash := PySem.PyData.keyHash P (PySem.Str.ofString "_DI100Y"), key := PySem.Value.str (PySem.Str.ofString "_DI100Y") 324, val := PySem.Value.int 36524 323 }, { hash := PySem.PyData.keyHash P (PySem.Str.ofString "_DI4Y"), key := PySem.Value.str (PySem.Str.ofString "_DI4Y") 341, val := PySem.Value.int 1461 340 }, { hash := PySem.PyData.keyHash P (PySem.Str.ofString "_ord2ymd"), key := PySem.Value.str (PySem.Str.ofString "_ord2ymd") 356, val := PySem.Value.ref 66 }, { hash := PySem.PyData.keyHash P (PySem.Str.ofString "_parse_isoformat_date"), key := PySem.Value.str (PySem.Str.ofString "_parse_isoformat_date") 370, val := PySem.Value.ref 73 }, { hash := PySem.PyData.keyHash P (PySem.Str.ofString "_isoweek_to_gregorian"), key := PySem.Value.str (PySem.Str.ofString "_isoweek_to_gregorian") 384, val := PySem.Value.ref 80 }, { hash := PySem.PyData.keyHash P (PySem.Str.ofString "_isoweek1monday"), key := PySem.Value.str (PySem.Str.ofString "_isoweek1monday") 395, val := PySem.Value.ref 87 }, { hash := PySem.PyData.keyHash P (PySem.Str.ofString "_law_case"), key := PySem.Value.str (PySem.Str.ofString "_law_case") 418, val := PySem.Value.ref 94 }, { hash := PySem.PyData.keyHash P (PySem.Str.ofString "_law_number"), key := PySem.Value.str (PySem.Str.ofString "_law_number") 430, val := PySem.Value.ref 101 }, { hash := PySem.PyData.keyHash P (PySem.Str.ofString "_law_length"), key := PySem.Value.str (PySem.Str.ofString "_law_length") 437, val := PySem.Value.ref 108 }, { hash := PySem.PyData.keyHash P (PySem.Str.ofString "_law_date"), key := PySem.Value.str (PySem.Str.ofString "_law_date") 447, val := PySem.Value.ref 115 }, { hash := PySem.PyData.keyHash P (PySem.Str.ofString "_law_due"), key := PySem.Value.str (PySem.Str.ofString "_law_due") 464, val := PySem.Value.ref 122 }, { hash := PySem.PyData.keyHash P (PySem.Str.ofString "law"), key := PySem.Value.str (PySem.Str.ofString "law") 470, val := PySem.Value.ref 127 }] 35 } : Obj)) <|
  List.cons (nat_lit 6, ({ cls := PySem.Value.type "dict", data := PySem.Data.dict #[] } : Obj)) <|
  List.cons (nat_lit 15, ({ cls := PySem.Value.type "list", data := PySem.Data.seq #[PySem.Value.int (-1) 194, PySem.Value.int 31 195, PySem.Value.int 28 196, PySem.Value.int 31 197, PySem.Value.int 30 198, PySem.Value.int 31 199, PySem.Value.int 30 200, PySem.Value.int 31 201, PySem.Value.int 31 202, PySem.Value.int 30 203, PySem.Value.int 31 204, PySem.Value.int 30 205, PySem.Value.int 31 206] } : Obj)) <|
  List.cons (nat_lit 16, ({ cls := PySem.Value.type "list", data := PySem.Data.seq #[PySem.Value.int (-1) 209, PySem.Value.int 0 211, PySem.Value.int 31 215, PySem.Value.int 59 218, PySem.Value.int 90 221, PySem.Value.int 120 224, PySem.Value.int 151 227, PySem.Value.int 181 230, PySem.Value.int 212 233, PySem.Value.int 243 236, PySem.Value.int 273 239, PySem.Value.int 304 242, PySem.Value.int 334 245] 12 } : Obj)) <|
  List.cons (nat_lit 22, ({ cls := PySem.Value.type "tuple", data := PySem.Data.seq #[] } : Obj)) <|
  List.cons (nat_lit 24, ({ cls := PySem.Value.type "tuple", data := PySem.Data.seq #[PySem.Value.str (PySem.Str.ofString "year") 253] } : Obj)) <|
  List.cons (nat_lit 25, ({ cls := PySem.Value.type "tuple", data := PySem.Data.seq #[] } : Obj)) <|
  List.cons (nat_lit 27, ({ cls := PySem.Value.type "code", data := PySem.Data.fields #[PySem.Value.str (PySem.Str.ofString "_is_leap") 250, PySem.Value.str (PySem.Str.ofString "_is_leap") 251, PySem.Value.str (PySem.Str.ofString "/claim/cut.py") 252, PySem.Value.int 11 0, PySem.Value.int 1 0, PySem.Value.int 0 0, PySem.Value.int 0 0, PySem.Value.int 3 0, PySem.Value.ref 22, PySem.Value.bool true, PySem.Value.int 181 0, PySem.Value.ref 23, PySem.Value.none, PySem.Value.ref 24, PySem.Value.ref 25, PySem.Value.ref 26, PySem.Value.int 254 0, PySem.Value.int 11 0, PySem.Value.str (PySem.Str.ofString "/claim/cut.py") 255] } : Obj)) <|
  List.cons (nat_lit 28, ((by refine' (?f : (x : Obj) → x = ({ cls := PySem.Value.type "function", data := PySem.Data.func { name := PySem.Str.ofString "_is_leap", qualname := PySem.Str.ofString "_is_leap", params := (fnL 8).1, body := PySem.FuncBody.stmts (fnL 8).2.1, scope := (fnL 8).2.2, globals := 3, closure := [], defaults := PySem.Value.none, kwdefaults := PySem.Value.none, pyModule := PySem.Value.str (PySem.Str.ofString "cpy313._pydatetime") 187, code := PySem.Value.ref 27 } } : Obj) → Obj) _ ?h; (case f => exact fun x _ => x); (case h => (dsimp only [fnL, progL, OpenLaw.row, OpenLaw.prog, Challenge.rw_km0087_04, Challenge.pw_km0087_04, List.getElem?_cons_succ, List.getElem?_cons_zero]; exact rfl))) : Obj)) <|
  List.cons (nat_lit 29, ({ cls := PySem.Value.type "tuple", data := PySem.Data.seq #[] } : Obj)) <|
  List.cons (nat_lit 31, ({ cls := PySem.Value.type "tuple", data := PySem.Data.seq #[PySem.Value.str (PySem.Str.ofString "year") 260, PySem.Value.str (PySem.Str.ofString "y") 261] } : Obj)) <|
  List.cons (nat_lit 32, ({ cls := PySem.Value.type "tuple", data := PySem.Data.seq #[] } : Obj)) <|
  List.cons (nat_lit 34, ({ cls := PySem.Value.type "code", data := PySem.Data.fields #[PySem.Value.str (PySem.Str.ofString "_days_before_year") 257, PySem.Value.str (PySem.Str.ofString "_days_before_year") 258, PySem.Value.str (PySem.Str.ofString "/claim/cut.py") 259, PySem.Value.int 13 0, PySem.Value.int 1 0, PySem.Value.int 0 0, PySem.Value.int 0 0, PySem.Value.int 3 0, PySem.Value.ref 29, PySem.Value.bool true, PySem.Value.int 181 0, PySem.Value.ref 30, PySem.Value.none, PySem.Value.ref 31, PySem.Value.ref 32, PySem.Value.ref 33, PySem.Value.int 262 0, PySem.Value.int 13 0, PySem.Value.str (PySem.Str.ofString "/claim/cut.py") 263] } : Obj)) <|
  List.cons (nat_lit 35, ((by refine' (?f : (x : Obj) → x = ({ cls := PySem.Value.type "function", data := PySem.Data.func { name := PySem.Str.ofString "_days_before_year", qualname := PySem.Str.ofString "_days_before_year", params := (fnL 9).1, body := PySem.FuncBody.stmts (fnL 9).2.1, scope := (fnL 9).2.2, globals := 3, closure := [], defaults := PySem.Value.none, kwdefaults := PySem.Value.none, pyModule := PySem.Value.str (PySem.Str.ofString "cpy313._pydatetime") 187, code := PySem.Value.ref 34 } } : Obj) → Obj) _ ?h; (case f => exact fun x _ => x); (case h => (dsimp only [fnL, progL, OpenLaw.row, OpenLaw.prog, Challenge.rw_km0087_04, Challenge.pw_km0087_04, List.getElem?_cons_succ, List.getElem?_cons_zero]; exact rfl))) : Obj)) <|
  List.cons (nat_lit 36, ({ cls := PySem.Value.type "tuple", data := PySem.Data.seq #[] } : Obj)) <|
  List.cons (nat_lit 38, ({ cls := PySem.Value.type "tuple", data := PySem.Data.seq #[PySem.Value.str (PySem.Str.ofString "year") 268, PySem.Value.str (PySem.Str.ofString "month") 269] } : Obj)) <|
  List.cons (nat_lit 39, ({ cls := PySem.Value.type "tuple", data := PySem.Data.seq #[] } : Obj)) <|
  List.cons (nat_lit 41, ({ cls := PySem.Value.type "code", data := PySem.Data.fields #[PySem.Value.str (PySem.Str.ofString "_days_in_month") 265, PySem.Value.str (PySem.Str.ofString "_days_in_month") 266, PySem.Value.str (PySem.Str.ofString "/claim/cut.py") 267, PySem.Value.int 16 0, PySem.Value.int 2 0, PySem.Value.int 0 0, PySem.Value.int 0 0, PySem.Value.int 3 0, PySem.Value.ref 36, PySem.Value.bool true, PySem.Value.int 181 0, PySem.Value.ref 37, PySem.Value.none, PySem.Value.ref 38, PySem.Value.ref 39, PySem.Value.ref 40, PySem.Value.int 270 0, PySem.Value.int 16 0, PySem.Value.str (PySem.Str.ofString "/claim/cut.py") 271] } : Obj)) <|
  List.cons (nat_lit 42, ((by refine' (?f : (x : Obj) → x = ({ cls := PySem.Value.type "function", data := PySem.Data.func { name := PySem.Str.ofString "_days_in_month", qualname := PySem.Str.ofString "_days_in_month", params := (fnL 10).1, body := PySem.FuncBody.stmts (fnL 10).2.1, scope := (fnL 10).2.2, globals := 3, closure := [], defaults := PySem.Value.none, kwdefaults := PySem.Value.none, pyModule := PySem.Value.str (PySem.Str.ofString "cpy313._pydatetime") 187, code := PySem.Value.ref 41 } } : Obj) → Obj) _ ?h; (case f => exact fun x _ => x); (case h => (dsimp only [fnL, progL, OpenLaw.row, OpenLaw.prog, Challenge.rw_km0087_04, Challenge.pw_km0087_04, List.getElem?_cons_succ, List.getElem?_cons_zero]; exact rfl))) : Obj)) <|
  List.cons (nat_lit 43, ({ cls := PySem.Value.type "tuple", data := PySem.Data.seq #[] } : Obj)) <|
  List.cons (nat_lit 45, ({ cls := PySem.Value.type "tuple", data := PySem.Data.seq #[PySem.Value.str (PySem.Str.ofString "year") 276, PySem.Value.str (PySem.Str.ofString "month") 277] } : Obj)) <|
  List.cons (nat_lit 46, ({ cls := PySem.Value.type "tuple", data := PySem.Data.seq #[] } : Obj)) <|
  List.cons (nat_lit 48, ({ cls := PySem.Value.type "code", data := PySem.Data.fields #[PySem.Value.str (PySem.Str.ofString "_days_before_month") 273, PySem.Value.str (PySem.Str.ofString "_days_before_month") 274, PySem.Value.str (PySem.Str.ofString "/claim/cut.py") 275, PySem.Value.int 21 0, PySem.Value.int 2 0, PySem.Value.int 0 0, PySem.Value.int 0 0, PySem.Value.int 3 0, PySem.Value.ref 43, PySem.Value.bool true, PySem.Value.int 181 0, PySem.Value.ref 44, PySem.Value.none, PySem.Value.ref 45, PySem.Value.ref 46, PySem.Value.ref 47, PySem.Value.int 278 0, PySem.Value.int 21 0, PySem.Value.str (PySem.Str.ofString "/claim/cut.py") 279] } : Obj)) <|
  List.cons (nat_lit 49, ((by refine' (?f : (x : Obj) → x = ({ cls := PySem.Value.type "function", data := PySem.Data.func { name := PySem.Str.ofString "_days_before_month", qualname := PySem.Str.ofString "_days_before_month", params := (fnL 11).1, body := PySem.FuncBody.stmts (fnL 11).2.1, scope := (fnL 11).2.2, globals := 3, closure := [], defaults := PySem.Value.none, kwdefaults := PySem.Value.none, pyModule := PySem.Value.str (PySem.Str.ofString "cpy313._pydatetime") 187, code := PySem.Value.ref 48 } } : Obj) → Obj) _ ?h; (case f => exact fun x _ => x); (case h => (dsimp only [fnL, progL, OpenLaw.row, OpenLaw.prog, Challenge.rw_km0087_04, Challenge.pw_km0087_04, List.getElem?_cons_succ, List.getElem?_cons_zero]; exact rfl))) : Obj)) <|
  List.cons (nat_lit 50, ({ cls := PySem.Value.type "tuple", data := PySem.Data.seq #[] } : Obj)) <|
  List.cons (nat_lit 52, ({ cls := PySem.Value.type "tuple", data := PySem.Data.seq #[PySem.Value.str (PySem.Str.ofString "year") 284, PySem.Value.str (PySem.Str.ofString "month") 285, PySem.Value.str (PySem.Str.ofString "day") 286, PySem.Value.str (PySem.Str.ofString "dim") 287] } : Obj)) <|
  List.cons (nat_lit 53, ({ cls := PySem.Value.type "tuple", data := PySem.Data.seq #[] } : Obj)) <|
  List.cons (nat_lit 55, ({ cls := PySem.Value.type "code", data := PySem.Data.fields #[PySem.Value.str (PySem.Str.ofString "_ymd2ord") 281, PySem.Value.str (PySem.Str.ofString "_ymd2ord") 282, PySem.Value.str (PySem.Str.ofString "/claim/cut.py") 283, PySem.Value.int 24 0, PySem.Value.int 3 0, PySem.Value.int 0 0, PySem.Value.int 0 0, PySem.Value.int 3 0, PySem.Value.ref 50, PySem.Value.bool true, PySem.Value.int 181 0, PySem.Value.ref 51, PySem.Value.none, PySem.Value.ref 52, PySem.Value.ref 53, PySem.Value.ref 54, PySem.Value.int 288 0, PySem.Value.int 24 0, PySem.Value.str (PySem.Str.ofString "/claim/cut.py") 289] } : Obj)) <|
  List.cons (nat_lit 56, ((by refine' (?f : (x : Obj) → x = ({ cls := PySem.Value.type "function", data := PySem.Data.func { name := PySem.Str.ofString "_ymd2ord", qualname := PySem.Str.ofString "_ymd2ord", params := (fnL 12).1, body := PySem.FuncBody.stmts (fnL 12).2.1, scope := (fnL 12).2.2, globals := 3, closure := [], defaults := PySem.Value.none, kwdefaults := PySem.Value.none, pyModule := PySem.Value.str (PySem.Str.ofString "cpy313._pydatetime") 187, code := PySem.Value.ref 55 } } : Obj) → Obj) _ ?h; (case f => exact fun x _ => x); (case h => (dsimp only [fnL, progL, OpenLaw.row, OpenLaw.prog, Challenge.rw_km0087_04, Challenge.pw_km0087_04, List.getElem?_cons_succ, List.getElem?_cons_zero]; exact rfl))) : Obj)) <|
  List.cons (nat_lit 60, ({ cls := PySem.Value.type "tuple", data := PySem.Data.seq #[] } : Obj)) <|
  List.cons (nat_lit 62, ({ cls := PySem.Value.type "tuple", data := PySem.Data.seq #[PySem.Value.str (PySem.Str.ofString "n") 345, PySem.Value.str (PySem.Str.ofString "n400") 346, PySem.Value.str (PySem.Str.ofString "year") 347, PySem.Value.str (PySem.Str.ofString "n100") 348, PySem.Value.str (PySem.Str.ofString "n4") 349, PySem.Value.str (PySem.Str.ofString "n1") 350, PySem.Value.str (PySem.Str.ofString "leapyear") 351, PySem.Value.str (PySem.Str.ofString "month") 352, PySem.Value.str (PySem.Str.ofString "preceding") 353] } : Obj)) <|
  List.cons (nat_lit 63, ({ cls := PySem.Value.type "tuple", data := PySem.Data.seq #[] } : Obj)) <|
  List.cons (nat_lit 65, ({ cls := PySem.Value.type "code", data := PySem.Data.fields #[PySem.Value.str (PySem.Str.ofString "_ord2ymd") 342, PySem.Value.str (PySem.Str.ofString "_ord2ymd") 343, PySem.Value.str (PySem.Str.ofString "/claim/cut.py") 344, PySem.Value.int 32 0, PySem.Value.int 1 0, PySem.Value.int 0 0, PySem.Value.int 0 0, PySem.Value.int 3 0, PySem.Value.ref 60, PySem.Value.bool true, PySem.Value.int 181 0, PySem.Value.ref 61, PySem.Value.none, PySem.Value.ref 62, PySem.Value.ref 63, PySem.Value.ref 64, PySem.Value.int 354 0, PySem.Value.int 32 0, PySem.Value.str (PySem.Str.ofString "/claim/cut.py") 355] } : Obj)) <|
  List.cons (nat_lit 66, ((by refine' (?f : (x : Obj) → x = ({ cls := PySem.Value.type "function", data := PySem.Data.func { name := PySem.Str.ofString "_ord2ymd", qualname := PySem.Str.ofString "_ord2ymd", params := (fnL 16).1, body := PySem.FuncBody.stmts (fnL 16).2.1, scope := (fnL 16).2.2, globals := 3, closure := [], defaults := PySem.Value.none, kwdefaults := PySem.Value.none, pyModule := PySem.Value.str (PySem.Str.ofString "cpy313._pydatetime") 187, code := PySem.Value.ref 65 } } : Obj) → Obj) _ ?h; (case f => exact fun x _ => x); (case h => (dsimp only [fnL, progL, OpenLaw.row, OpenLaw.prog, Challenge.rw_km0087_04, Challenge.pw_km0087_04, List.getElem?_cons_succ, List.getElem?_cons_zero]; exact rfl))) : Obj)) <|
  List.cons (nat_lit 67, ({ cls := PySem.Value.type "tuple", data := PySem.Data.seq #[] } : Obj)) <|
  List.cons (nat_lit 69, ({ cls := PySem.Value.type "tuple", data := PySem.Data.seq #[PySem.Value.str (PySem.Str.ofString "dtstr") 360, PySem.Value.str (PySem.Str.ofString "year") 361, PySem.Value.str (PySem.Str.ofString "has_sep") 362, PySem.Value.str (PySem.Str.ofString "pos") 363, PySem.Value.str (PySem.Str.ofString "weekno") 364, PySem.Value.str (PySem.Str.ofString "dayno") 365, PySem.Value.str (PySem.Str.ofString "month") 366, PySem.Value.str (PySem.Str.ofString "day") 367] } : Obj)) <|
  List.cons (nat_lit 70, ({ cls := PySem.Value.type "tuple", data := PySem.Data.seq #[] } : Obj)) <|
  List.cons (nat_lit 72, ({ cls := PySem.Value.type "code", data := PySem.Data.fields #[PySem.Value.str (PySem.Str.ofString "_parse_isoformat_date") 357, PySem.Value.str (PySem.Str.ofString "_parse_isoformat_date") 358, PySem.Value.str (PySem.Str.ofString "/claim/cut.py") 359, PySem.Value.int 53 0, PySem.Value.int 1 0, PySem.Value.int 0 0, PySem.Value.int 0 0, PySem.Value.int 3 0, PySem.Value.ref 67, PySem.Value.bool true, PySem.Value.int 181 0, PySem.Value.ref 68, PySem.Value.none, PySem.Value.ref 69, PySem.Value.ref 70, PySem.Value.ref 71, PySem.Value.int 368 0, PySem.Value.int 53 0, PySem.Value.str (PySem.Str.ofString "/claim/cut.py") 369] } : Obj)) <|
  List.cons (nat_lit 73, ((by refine' (?f : (x : Obj) → x = ({ cls := PySem.Value.type "function", data := PySem.Data.func { name := PySem.Str.ofString "_parse_isoformat_date", qualname := PySem.Str.ofString "_parse_isoformat_date", params := (fnL 17).1, body := PySem.FuncBody.stmts (fnL 17).2.1, scope := (fnL 17).2.2, globals := 3, closure := [], defaults := PySem.Value.none, kwdefaults := PySem.Value.none, pyModule := PySem.Value.str (PySem.Str.ofString "cpy313._pydatetime") 187, code := PySem.Value.ref 72 } } : Obj) → Obj) _ ?h; (case f => exact fun x _ => x); (case h => (dsimp only [fnL, progL, OpenLaw.row, OpenLaw.prog, Challenge.rw_km0087_04, Challenge.pw_km0087_04, List.getElem?_cons_succ, List.getElem?_cons_zero]; exact rfl))) : Obj)) <|
  List.cons (nat_lit 74, ({ cls := PySem.Value.type "tuple", data := PySem.Data.seq #[] } : Obj)) <|
  List.cons (nat_lit 76, ({ cls := PySem.Value.type "tuple", data := PySem.Data.seq #[PySem.Value.str (PySem.Str.ofString "year") 374, PySem.Value.str (PySem.Str.ofString "week") 375, PySem.Value.str (PySem.Str.ofString "day") 376, PySem.Value.str (PySem.Str.ofString "out_of_range") 377, PySem.Value.str (PySem.Str.ofString "first_weekday") 378, PySem.Value.str (PySem.Str.ofString "day_offset") 379, PySem.Value.str (PySem.Str.ofString "day_1") 380, PySem.Value.str (PySem.Str.ofString "ord_day") 381] } : Obj)) <|
  List.cons (nat_lit 77, ({ cls := PySem.Value.type "tuple", data := PySem.Data.seq #[] } : Obj)) <|
  List.cons (nat_lit 79, ({ cls := PySem.Value.type "code", data := PySem.Data.fields #[PySem.Value.str (PySem.Str.ofString "_isoweek_to_gregorian") 371, PySem.Value.str (PySem.Str.ofString "_isoweek_to_gregorian") 372, PySem.Value.str (PySem.Str.ofString "/claim/cut.py") 373, PySem.Value.int 78 0, PySem.Value.int 3 0, PySem.Value.int 0 0, PySem.Value.int 0 0, PySem.Value.int 3 0, PySem.Value.ref 74, PySem.Value.bool true, PySem.Value.int 181 0, PySem.Value.ref 75, PySem.Value.none, PySem.Value.ref 76, PySem.Value.ref 77, PySem.Value.ref 78, PySem.Value.int 382 0, PySem.Value.int 78 0, PySem.Value.str (PySem.Str.ofString "/claim/cut.py") 383] } : Obj)) <|
  List.cons (nat_lit 80, ((by refine' (?f : (x : Obj) → x = ({ cls := PySem.Value.type "function", data := PySem.Data.func { name := PySem.Str.ofString "_isoweek_to_gregorian", qualname := PySem.Str.ofString "_isoweek_to_gregorian", params := (fnL 18).1, body := PySem.FuncBody.stmts (fnL 18).2.1, scope := (fnL 18).2.2, globals := 3, closure := [], defaults := PySem.Value.none, kwdefaults := PySem.Value.none, pyModule := PySem.Value.str (PySem.Str.ofString "cpy313._pydatetime") 187, code := PySem.Value.ref 79 } } : Obj) → Obj) _ ?h; (case f => exact fun x _ => x); (case h => (dsimp only [fnL, progL, OpenLaw.row, OpenLaw.prog, Challenge.rw_km0087_04, Challenge.pw_km0087_04, List.getElem?_cons_succ, List.getElem?_cons_zero]; exact rfl))) : Obj)) <|
  List.cons (nat_lit 81, ({ cls := PySem.Value.type "tuple", data := PySem.Data.seq #[] } : Obj)) <|
  List.cons (nat_lit 83, ({ cls := PySem.Value.type "tuple", data := PySem.Data.seq #[PySem.Value.str (PySem.Str.ofString "year") 388, PySem.Value.str (PySem.Str.ofString "THURSDAY") 389, PySem.Value.str (PySem.Str.ofString "firstday") 390, PySem.Value.str (PySem.Str.ofString "firstweekday") 391, PySem.Value.str (PySem.Str.ofString "week1monday") 392] } : Obj)) <|
  List.cons (nat_lit 84, ({ cls := PySem.Value.type "tuple", data := PySem.Data.seq #[] } : Obj)) <|
  List.cons (nat_lit 86, ({ cls := PySem.Value.type "code", data := PySem.Data.fields #[PySem.Value.str (PySem.Str.ofString "_isoweek1monday") 385, PySem.Value.str (PySem.Str.ofString "_isoweek1monday") 386, PySem.Value.str (PySem.Str.ofString "/claim/cut.py") 387, PySem.Value.int 95 0, PySem.Value.int 1 0, PySem.Value.int 0 0, PySem.Value.int 0 0, PySem.Value.int 3 0, PySem.Value.ref 81, PySem.Value.bool true, PySem.Value.int 181 0, PySem.Value.ref 82, PySem.Value.none, PySem.Value.ref 83, PySem.Value.ref 84, PySem.Value.ref 85, PySem.Value.int 393 0, PySem.Value.int 95 0, PySem.Value.str (PySem.Str.ofString "/claim/cut.py") 394] } : Obj)) <|
  List.cons (nat_lit 87, ((by refine' (?f : (x : Obj) → x = ({ cls := PySem.Value.type "function", data := PySem.Data.func { name := PySem.Str.ofString "_isoweek1monday", qualname := PySem.Str.ofString "_isoweek1monday", params := (fnL 19).1, body := PySem.FuncBody.stmts (fnL 19).2.1, scope := (fnL 19).2.2, globals := 3, closure := [], defaults := PySem.Value.none, kwdefaults := PySem.Value.none, pyModule := PySem.Value.str (PySem.Str.ofString "cpy313._pydatetime") 187, code := PySem.Value.ref 86 } } : Obj) → Obj) _ ?h; (case f => exact fun x _ => x); (case h => (dsimp only [fnL, progL, OpenLaw.row, OpenLaw.prog, Challenge.rw_km0087_04, Challenge.pw_km0087_04, List.getElem?_cons_succ, List.getElem?_cons_zero]; exact rfl))) : Obj)) <|
  List.cons (nat_lit 88, ({ cls := PySem.Value.type "tuple", data := PySem.Data.seq #[] } : Obj)) <|
  List.cons (nat_lit 90, ({ cls := PySem.Value.type "tuple", data := PySem.Data.seq #[PySem.Value.str (PySem.Str.ofString "number") 401, PySem.Value.str (PySem.Str.ofString "signs") 402, PySem.Value.str (PySem.Str.ofString "code") 403, PySem.Value.str (PySem.Str.ofString "way") 404, PySem.Value.str (PySem.Str.ofString "one") 405, PySem.Value.str (PySem.Str.ofString "year") 406, PySem.Value.str (PySem.Str.ofString "second") 407, PySem.Value.str (PySem.Str.ofString "third") 408, PySem.Value.str (PySem.Str.ofString "two") 409, PySem.Value.str (PySem.Str.ofString "sheet") 410, PySem.Value.str (PySem.Str.ofString "change") 411, PySem.Value.str (PySem.Str.ofString "place") 412, PySem.Value.str (PySem.Str.ofString "pick") 413, PySem.Value.str (PySem.Str.ofString "mark") 414, PySem.Value.str (PySem.Str.ofString "head") 415] } : Obj)) <|
  List.cons (nat_lit 91, ({ cls := PySem.Value.type "tuple", data := PySem.Data.seq #[] } : Obj)) <|
  List.cons (nat_lit 93, ({ cls := PySem.Value.type "code", data := PySem.Data.fields #[PySem.Value.str (PySem.Str.ofString "_law_case") 398, PySem.Value.str (PySem.Str.ofString "_law_case") 399, PySem.Value.str (PySem.Str.ofString "/claim/cut.py") 400, PySem.Value.int 104 0, PySem.Value.int 1 0, PySem.Value.int 0 0, PySem.Value.int 0 0, PySem.Value.int 3 0, PySem.Value.ref 88, PySem.Value.bool true, PySem.Value.int 181 0, PySem.Value.ref 89, PySem.Value.none, PySem.Value.ref 90, PySem.Value.ref 91, PySem.Value.ref 92, PySem.Value.int 416 0, PySem.Value.int 104 0, PySem.Value.str (PySem.Str.ofString "/claim/cut.py") 417] } : Obj)) <|
  List.cons (nat_lit 94, ((by refine' (?f : (x : Obj) → x = ({ cls := PySem.Value.type "function", data := PySem.Data.func { name := PySem.Str.ofString "_law_case", qualname := PySem.Str.ofString "_law_case", params := (fnL 21).1, body := PySem.FuncBody.stmts (fnL 21).2.1, scope := (fnL 21).2.2, globals := 3, closure := [], defaults := PySem.Value.none, kwdefaults := PySem.Value.none, pyModule := PySem.Value.str (PySem.Str.ofString "law_km0087_04") 396, code := PySem.Value.ref 93 } } : Obj) → Obj) _ ?h; (case f => exact fun x _ => x); (case h => (dsimp only [fnL, progL, OpenLaw.row, OpenLaw.prog, Challenge.rw_km0087_04, Challenge.pw_km0087_04, List.getElem?_cons_succ, List.getElem?_cons_zero]; exact rfl))) : Obj)) <|
  List.cons (nat_lit 95, ({ cls := PySem.Value.type "tuple", data := PySem.Data.seq #[] } : Obj)) <|
  List.cons (nat_lit 97, ({ cls := PySem.Value.type "tuple", data := PySem.Data.seq #[PySem.Value.str (PySem.Str.ofString "room") 422, PySem.Value.str (PySem.Str.ofString "body") 423, PySem.Value.str (PySem.Str.ofString "side") 424, PySem.Value.str (PySem.Str.ofString "value") 425, PySem.Value.str (PySem.Str.ofString "run") 426, PySem.Value.str (PySem.Str.ofString "sign") 427] } : Obj)) <|
  List.cons (nat_lit 98, ({ cls := PySem.Value.type "tuple", data := PySem.Data.seq #[] } : Obj)) <|
  List.cons (nat_lit 100, ({ cls := PySem.Value.type "code", data := PySem.Data.fields #[PySem.Value.str (PySem.Str.ofString "_law_number") 419, PySem.Value.str (PySem.Str.ofString "_law_number") 420, PySem.Value.str (PySem.Str.ofString "/claim/cut.py") 421, PySem.Value.int 124 0, PySem.Value.int 1 0, PySem.Value.int 0 0, PySem.Value.int 0 0, PySem.Value.int 3 0, PySem.Value.ref 95, PySem.Value.bool true, PySem.Value.int 181 0, PySem.Value.ref 96, PySem.Value.none, PySem.Value.ref 97, PySem.Value.ref 98, PySem.Value.ref 99, PySem.Value.int 428 0, PySem.Value.int 124 0, PySem.Value.str (PySem.Str.ofString "/claim/cut.py") 429] } : Obj)) <|
  List.cons (nat_lit 101, ((by refine' (?f : (x : Obj) → x = ({ cls := PySem.Value.type "function", data := PySem.Data.func { name := PySem.Str.ofString "_law_number", qualname := PySem.Str.ofString "_law_number", params := (fnL 22).1, body := PySem.FuncBody.stmts (fnL 22).2.1, scope := (fnL 22).2.2, globals := 3, closure := [], defaults := PySem.Value.none, kwdefaults := PySem.Value.none, pyModule := PySem.Value.str (PySem.Str.ofString "law_km0087_04") 396, code := PySem.Value.ref 100 } } : Obj) → Obj) _ ?h; (case f => exact fun x _ => x); (case h => (dsimp only [fnL, progL, OpenLaw.row, OpenLaw.prog, Challenge.rw_km0087_04, Challenge.pw_km0087_04, List.getElem?_cons_succ, List.getElem?_cons_zero]; exact rfl))) : Obj)) <|
  List.cons (nat_lit 102, ({ cls := PySem.Value.type "tuple", data := PySem.Data.seq #[] } : Obj)) <|
  List.cons (nat_lit 104, ({ cls := PySem.Value.type "tuple", data := PySem.Data.seq #[PySem.Value.str (PySem.Str.ofString "year") 434] } : Obj)) <|
  List.cons (nat_lit 105, ({ cls := PySem.Value.type "tuple", data := PySem.Data.seq #[] } : Obj)) <|
  List.cons (nat_lit 107, ({ cls := PySem.Value.type "code", data := PySem.Data.fields #[PySem.Value.str (PySem.Str.ofString "_law_length") 431, PySem.Value.str (PySem.Str.ofString "_law_length") 432, PySem.Value.str (PySem.Str.ofString "/claim/cut.py") 433, PySem.Value.int 138 0, PySem.Value.int 1 0, PySem.Value.int 0 0, PySem.Value.int 0 0, PySem.Value.int 3 0, PySem.Value.ref 102, PySem.Value.bool true, PySem.Value.int 181 0, PySem.Value.ref 103, PySem.Value.none, PySem.Value.ref 104, PySem.Value.ref 105, PySem.Value.ref 106, PySem.Value.int 435 0, PySem.Value.int 138 0, PySem.Value.str (PySem.Str.ofString "/claim/cut.py") 436] } : Obj)) <|
  List.cons (nat_lit 108, ((by refine' (?f : (x : Obj) → x = ({ cls := PySem.Value.type "function", data := PySem.Data.func { name := PySem.Str.ofString "_law_length", qualname := PySem.Str.ofString "_law_length", params := (fnL 23).1, body := PySem.FuncBody.stmts (fnL 23).2.1, scope := (fnL 23).2.2, globals := 3, closure := [], defaults := PySem.Value.none, kwdefaults := PySem.Value.none, pyModule := PySem.Value.str (PySem.Str.ofString "law_km0087_04") 396, code := PySem.Value.ref 107 } } : Obj) → Obj) _ ?h; (case f => exact fun x _ => x); (case h => (dsimp only [fnL, progL, OpenLaw.row, OpenLaw.prog, Challenge.rw_km0087_04, Challenge.pw_km0087_04, List.getElem?_cons_succ, List.getElem?_cons_zero]; exact rfl))) : Obj)) <|
  List.cons (nat_lit 109, ({ cls := PySem.Value.type "tuple", data := PySem.Data.seq #[] } : Obj)) <|
  List.cons (nat_lit 111, ({ cls := PySem.Value.type "tuple", data := PySem.Data.seq #[PySem.Value.str (PySem.Str.ofString "year") 441, PySem.Value.str (PySem.Str.ofString "place") 442, PySem.Value.str (PySem.Str.ofString "month") 443, PySem.Value.str (PySem.Str.ofString "length") 444] } : Obj)) <|
  List.cons (nat_lit 112, ({ cls := PySem.Value.type "tuple", data := PySem.Data.seq #[] } : Obj)) <|
  List.cons (nat_lit 114, ({ cls := PySem.Value.type "code", data := PySem.Data.fields #[PySem.Value.str (PySem.Str.ofString "_law_date") 438, PySem.Value.str (PySem.Str.ofString "_law_date") 439, PySem.Value.str (PySem.Str.ofString "/claim/cut.py") 440, PySem.Value.int 140 0, PySem.Value.int 2 0, PySem.Value.int 0 0, PySem.Value.int 0 0, PySem.Value.int 3 0, PySem.Value.ref 109, PySem.Value.bool true, PySem.Value.int 181 0, PySem.Value.ref 110, PySem.Value.none, PySem.Value.ref 111, PySem.Value.ref 112, PySem.Value.ref 113, PySem.Value.int 445 0, PySem.Value.int 140 0, PySem.Value.str (PySem.Str.ofString "/claim/cut.py") 446] } : Obj)) <|
  List.cons (nat_lit 115, ((by refine' (?f : (x : Obj) → x = ({ cls := PySem.Value.type "function", data := PySem.Data.func { name := PySem.Str.ofString "_law_date", qualname := PySem.Str.ofString "_law_date", params := (fnL 24).1, body := PySem.FuncBody.stmts (fnL 24).2.1, scope := (fnL 24).2.2, globals := 3, closure := [], defaults := PySem.Value.none, kwdefaults := PySem.Value.none, pyModule := PySem.Value.str (PySem.Str.ofString "law_km0087_04") 396, code := PySem.Value.ref 114 } } : Obj) → Obj) _ ?h; (case f => exact fun x _ => x); (case h => (dsimp only [fnL, progL, OpenLaw.row, OpenLaw.prog, Challenge.rw_km0087_04, Challenge.pw_km0087_04, List.getElem?_cons_succ, List.getElem?_cons_zero]; exact rfl))) : Obj)) <|
  List.cons (nat_lit 116, ({ cls := PySem.Value.type "tuple", data := PySem.Data.seq #[] } : Obj)) <|
  List.cons (nat_lit 118, ({ cls := PySem.Value.type "tuple", data := PySem.Data.seq #[PySem.Value.str (PySem.Str.ofString "way") 451, PySem.Value.str (PySem.Str.ofString "rooms") 452, PySem.Value.str (PySem.Str.ofString "mark") 453, PySem.Value.str (PySem.Str.ofString "numbers") 454, PySem.Value.str (PySem.Str.ofString "k") 455, PySem.Value.str (PySem.Str.ofString "number") 456, PySem.Value.str (PySem.Str.ofString "year") 457, PySem.Value.str (PySem.Str.ofString "week") 458, PySem.Value.str (PySem.Str.ofString "weekday") 459, PySem.Value.str (PySem.Str.ofString "doomsday") 460, PySem.Value.str (PySem.Str.ofString "thursday") 461] } : Obj)) <|
  List.cons (nat_lit 119, ({ cls := PySem.Value.type "tuple", data := PySem.Data.seq #[] } : Obj)) <|
  List.cons (nat_lit 121, ({ cls := PySem.Value.type "code", data := PySem.Data.fields #[PySem.Value.str (PySem.Str.ofString "_law_due") 448, PySem.Value.str (PySem.Str.ofString "_law_due") 449, PySem.Value.str (PySem.Str.ofString "/claim/cut.py") 450, PySem.Value.int 154 0, PySem.Value.int 3 0, PySem.Value.int 0 0, PySem.Value.int 0 0, PySem.Value.int 3 0, PySem.Value.ref 116, PySem.Value.bool true, PySem.Value.int 181 0, PySem.Value.ref 117, PySem.Value.none, PySem.Value.ref 118, PySem.Value.ref 119, PySem.Value.ref 120, PySem.Value.int 462 0, PySem.Value.int 154 0, PySem.Value.str (PySem.Str.ofString "/claim/cut.py") 463] } : Obj)) <|
  List.cons (nat_lit 122, ((by refine' (?f : (x : Obj) → x = ({ cls := PySem.Value.type "function", data := PySem.Data.func { name := PySem.Str.ofString "_law_due", qualname := PySem.Str.ofString "_law_due", params := (fnL 25).1, body := PySem.FuncBody.stmts (fnL 25).2.1, scope := (fnL 25).2.2, globals := 3, closure := [], defaults := PySem.Value.none, kwdefaults := PySem.Value.none, pyModule := PySem.Value.str (PySem.Str.ofString "law_km0087_04") 396, code := PySem.Value.ref 121 } } : Obj) → Obj) _ ?h; (case f => exact fun x _ => x); (case h => (dsimp only [fnL, progL, OpenLaw.row, OpenLaw.prog, Challenge.rw_km0087_04, Challenge.pw_km0087_04, List.getElem?_cons_succ, List.getElem?_cons_zero]; exact rfl))) : Obj)) <|
  List.cons (nat_lit 123, ({ cls := PySem.Value.type "tuple", data := PySem.Data.seq #[] } : Obj)) <|
  List.cons (nat_lit 126, ({ cls := PySem.Value.type "code", data := PySem.Data.fields #[PySem.Value.str (PySem.Str.ofString "law") 465, PySem.Value.str (PySem.Str.ofString "law") 466, PySem.Value.str (PySem.Str.ofString "/claim/cut.py") 467, PySem.Value.int 175 0, PySem.Value.int 1 0, PySem.Value.int 0 0, PySem.Value.int 0 0, PySem.Value.int 3 0, PySem.Value.ref 123, PySem.Value.bool true, PySem.Value.int 181 0, PySem.Value.ref 124, PySem.Value.none, PySem.Value.none, PySem.Value.none, PySem.Value.ref 125, PySem.Value.int 468 0, PySem.Value.int 175 0, PySem.Value.str (PySem.Str.ofString "/claim/cut.py") 469] } : Obj)) <|
  List.cons (nat_lit 127, ((by refine' (?f : (x : Obj) → x = ({ cls := PySem.Value.type "function", data := PySem.Data.func { name := PySem.Str.ofString "law", qualname := PySem.Str.ofString "law", params := (fnL 26).1, body := PySem.FuncBody.stmts (fnL 26).2.1, scope := (fnL 26).2.2, globals := 3, closure := [], defaults := PySem.Value.none, kwdefaults := PySem.Value.none, pyModule := PySem.Value.str (PySem.Str.ofString "law_km0087_04") 396, code := PySem.Value.ref 126 } } : Obj) → Obj) _ ?h; (case f => exact fun x _ => x); (case h => (dsimp only [fnL, progL, OpenLaw.row, OpenLaw.prog, Challenge.rw_km0087_04, Challenge.pw_km0087_04, List.getElem?_cons_succ, List.getElem?_cons_zero]; exact rfl))) : Obj)) <| List.nil
abbrev looseL : List Str := [Str.ofString "_DAYS_IN_MONTH", Str.ofString "_DAYS_BEFORE_MONTH", Str.ofString "_DI400Y", Str.ofString "_DI100Y", Str.ofString "_DI4Y"]
abbrev lvL : List (Str × WData) := [(Str.ofString "_DI400Y", WData.int 146097), (Str.ofString "_DI100Y", WData.int 36524), (Str.ofString "_DI4Y", WData.int 1461)]
abbrev asL : List Addr := [2, 3, 6, 15, 16, 22, 24, 25, 27, 28, 29, 31, 32, 34, 35, 36, 38, 39, 41, 42, 43, 45, 46, 48, 49, 50, 52, 53, 55, 56, 60, 62, 63, 65, 66, 67, 69, 70, 72, 73, 74, 76, 77, 79, 80, 81, 83, 84, 86, 87, 88, 90, 91, 93, 94, 95, 97, 98, 100, 101, 102, 104, 105, 107, 108, 109, 111, 112, 114, 115, 116, 118, 119, 121, 122, 123, 126, 127]
noncomputable abbrev hookL : Hook := kHook heapK asL (fun _ => by kernel_rfl)
set_option maxHeartbeats 0 in
theorem leftL : LeftO Challenge.rw_km0087_04.row.prog viewK looseL (fun s => xlAt viewK lvL s && recOk Challenge.rw_km0087_04.row.records s) (Hook.obs hookL) (Hook.val hookL) 3284 :=
  LeftO.of_split "special-get-raises" (fun w => by kernel_rfl)
end Mine
end
section
namespace Mine

abbrev Cont := (base h₀ : Heap) → (L : Addr) → (m : Str → Option Value) → (news : List (Addr × Obj)) → (fr : List Env) → (s : Shared) → (Q E : Value → Shared → Prop) → Prop

/-- a contract of a def: what a call of it does, from any def's frame -/
abbrev Ctr (prog : Program) (w : World) (K : Frag) (p : Program) (loose : List Str) (mean : ExcName → Option Value) (mg mb : Str → Option Value) (f : Addr) (d u : Nat) (vs : List Value) (C : Cont) : Prop :=
  ∀ (dp un : Nat) (gd : Option (List Code)) (cn : Str) (cs : Scope) (a : Addr) (ccd : Value) (cl : List (Str × Addr)) (outer : List Env) (A₀ : Around) (base h₀ : Heap) (L : Addr) (m : Str → Option Value) (news : List (Addr × Obj)) (s : Shared) (Q E : Value → Shared → Prop),
    Below A₀ base outer h₀ → Fr h₀ L s.heap m → K.In h₀ → News h₀ L s.heap news → Top p loose mean mg mb h₀ → cs.kind = .function →
    dp + d < recursionLimit → un + u < cLine → C base h₀ L m news (envX cn cs L a ccd cl :: outer) s Q E →
    wpAny (model prog w) (ktrTop dp un gd cn cs L a ccd cl outer) (call (.ref f) vs) Q E s

abbrev rVal (v : Tok → Value) : Cont := fun _ h₀ L m news _ s Q _ => ∀ (t : Tok) (h' : Heap) (tk' : Nat), Fr h₀ L h' m → News h₀ L h' news → Q (v t) { s with heap := h', toks := tk' }
abbrev cInt (x : Int) : Cont := rVal fun t => .int x t
abbrev cBool (x : Bool) : Cont := rVal fun _ => .bool x
/-- one new object comes back -/
abbrev cNew (P : Obj → Prop) : Cont := fun _ h₀ L m news _ s Q _ => ∀ (l : Addr) (o : Obj) (h' : Heap) (tk' : Nat), P o → Fr h₀ L h' m → News h₀ L h' ((l, o) :: news) → (∀ p ∈ news, p.1 < l) → Q (.ref l) { s with heap := h', toks := tk' }
/-- a ValueError flies -/
abbrev cBad (vs : Tok → List Value) : Cont := fun base h₀ L m news fr s _ E => ∀ (e t : Addr) (k : Tok) (h' G : Heap) (tk' : Nat), RaisedS base G fr e (.type "ValueError") t (vs k) news h' → Fr h₀ L G m → G.UpToSlots h' → E (.ref e) { s with heap := h', toks := tk' }
theorem RaisedS.drop {base G : Heap} {l : List Env} {e t : Addr} {cls : Value} {vs : List Value} {news news' : List (Addr × Obj)} {h : Heap} (R : RaisedS base G l e cls t vs news' h) (hs : ∀ p ∈ news, p ∈ news') : RaisedS base G l e cls t vs news h := by
  obtain ⟨⟨B, hB, hBG, hl, hfl, hnew⟩, htup⟩ := R
  exact ⟨⟨B, hB, hBG, fun q hq => hl q (hs q hq), hfl, hnew⟩, htup⟩

section
variable {prog : Program} {w : World} {K : Frag} {p : Program} {loose : List Str} {mean : ExcName → Option Value} {mg mb : Str → Option Value} {f : Addr} {d u : Nat} {vs : List Value}
   {dp un : Nat} {gd : Option (List Code)} {cn : Str} {cs : Scope} {a : Addr} {ccd : Value} {cl : List (Str × Addr)} {outer : List Env} {A₀ : Around} {base h₀ : Heap} {L : Addr} {m : Str → Option Value} {news : List (Addr × Obj)} {s : Shared} {Q E : Value → Shared → Prop}
theorem use {C : Cont} (h : Ctr prog w K p loose mean mg mb f d u vs C)
    (B : Below A₀ base outer h₀) (F : Fr h₀ L s.heap m) (X : K.In h₀) (N : News h₀ L s.heap news) (T : Top p loose mean mg mb h₀) (hk : cs.kind = .function)
    (hd : dp + d < recursionLimit) (hu : un + u < cLine) (h1 : C base h₀ L m news (envX cn cs L a ccd cl :: outer) s Q E) :
    wpAny (model prog w) (ktrTop dp un gd cn cs L a ccd cl outer) (call (.ref f) vs) Q E s :=
  h dp un gd cn cs a ccd cl outer A₀ base h₀ L m news s Q E B F X N T hk hd hu h1
end
section
variable {base h₀ h' G : Heap} {L : Addr} {m : Str → Option Value} {news news' : List (Addr × Obj)} {fr : List Env} {s : Shared} {Q E : Value → Shared → Prop} {t : Tok} {tk' : Nat}
theorem endI {x y : Int} (hret : cInt x base h₀ L m news fr s Q E) (e : y = x) (F : Fr h₀ L h' m) (N : News h₀ L h' news') (hs : ∀ p ∈ news, p ∈ news') : Q (.int y t) { s with heap := h', toks := tk' } := by
  subst e; exact hret t h' tk' F (cb_drop N hs)
theorem endB {x y : Bool} (hret : cBool x base h₀ L m news fr s Q E) (e : y = x) (F : Fr h₀ L h' m) (N : News h₀ L h' news') (hs : ∀ p ∈ news, p ∈ news') : Q (.bool y) { s with heap := h', toks := tk' } := by
  subst e; exact hret 0 h' tk' F (cb_drop N hs)
theorem endN {P : Obj → Prop} {l : Addr} {o : Obj} (hret : cNew P base h₀ L m news fr s Q E) (e : P o) (F : Fr h₀ L h' m) (N : News h₀ L h' news') (hs : ∀ p ∈ (l, o) :: news, p ∈ news') (hl : ∀ p ∈ news, p.1 < l) : Q (.ref l) { s with heap := h', toks := tk' } :=
  hret l o h' tk' e F (cb_drop N hs) hl
theorem endX {vs : Tok → List Value} {vs' : List Value} {e t : Addr} {k : Tok} (hret : cBad vs base h₀ L m news fr s Q E) (ev : vs' = vs k) (R : RaisedS base G fr e (.type "ValueError") t vs' news' h') (F : Fr h₀ L G m) (U : G.UpToSlots h') (hs : ∀ p ∈ news, p ∈ news') : E (.ref e) { s with heap := h', toks := tk' } := by
  subst ev; exact hret e t k h' G tk' (RaisedS.drop R hs) F U
end
section
open PySem.Calls
variable {prog : Program} {w : World} {A : Around} {E : Value → Shared → Prop} {s : Shared} {h₀ : Heap} {L a : Addr} {m : Str → Option Value} {K : Frag} {n : Nat} {news : List (Addr × Obj)}
theorem list_item {value slice : PySem.Expr} {l : List Value} {ns : List Int} {k : Int} {u : Tok} {Q : Value → Shared → Prop} (hL : s.heap.IsList a l.toArray) (hi : IntsAre l ns)
    (h0 : 0 ≤ k) (h1 : k.toNat < ns.length) (h2 : ns.length ≤ 2 ^ 62) (h : ∀ t, Q (.int (ns.getD k.toNat 0) t) s)
    (hs : subscripted slice false (.ref a) (.int k u) = operate [.ref a, .int k u] (getItem (.ref a) (.int k u)) := by with_unfolding_all rfl) :
    wpAny (model prog w) A (subscriptTail value slice (.ref a) (.int k u)) Q E s := by
  obtain ⟨t, ht⟩ := hi.get k.toNat ns[k.toNat] (by simp [h1])
  have e : ns.getD k.toNat 0 = ns[k.toNat] := by simp [List.getD_eq_getElem?_getD, h1]
  rw [e] at h
  exact tail_any hL.typeIs slot_list_getitem.lookup (wpAny_getItem_list hL h0 (by omega) (by simpa using ht) (h t)) hs
theorem top_item {value slice : PySem.Expr} {l : List Value} {ns : List Int} {dd : Option Addr} {sl : Array (Option Value)} {k : Int} {u : Tok} {Q : Value → Shared → Prop} (F : Fr h₀ L s.heap m) (X₀ : K.In h₀) (hl : K.lookup a = some ⟨.type "list", dd, .seq l.toArray n, sl⟩) (hi : IntsAre l ns)
    (h0 : 0 ≤ k) (h1 : k.toNat < ns.length) (h2 : ns.length ≤ 2 ^ 62) (h : ∀ t, Q (.int (ns.getD k.toNat 0) t) s)
    (hs : subscripted slice false (.ref a) (.int k u) = operate [.ref a, .int k u] (getItem (.ref a) (.int k u)) := by with_unfolding_all rfl) :
    wpAny (model prog w) A (subscriptTail value slice (.ref a) (.int k u)) Q E s := list_item (lstK (X₀.keeps F.keep) hl) hi h0 h1 h2 h hs
theorem ints13 {a b c d e f g h i j k l o : Int} {t1 t2 t3 t4 t5 t6 t7 t8 t9 t10 t11 t12 t13 : Tok} : IntsAre [.int a t1, .int b t2, .int c t3, .int d t4, .int e t5, .int f t6, .int g t7, .int h t8, .int i t9, .int j t10, .int k t11, .int l t12, .int o t13] [a, b, c, d, e, f, g, h, i, j, k, l, o] := by
  repeat (first | exact IntsAre.nil | refine IntsAre.cons _ _ ?_)
end
end Mine
namespace Mine
section
open PySem.Calls
variable {prog : Program} {w : World} {A : Around} {E : Value → Shared → Prop} {s : Shared} {h₀ : Heap} {L : Addr} {m : Str → Option Value} {news : List (Addr × Obj)}
theorem divmod_G {a b : Int} {t u : Tok} {Q : Value → Shared → Prop} (F : Fr h₀ L s.heap m) (N : News h₀ L s.heap news) (hb : 0 < b)
    (h : ∀ (h' : Heap) (D : Addr) (q r : Int) (t1 t2 : Tok) (tk : Nat), Fr h₀ L h' m → News h₀ L h' ((D, { cls := .type "tuple", data := .seq #[.int q t1, .int r t2] }) :: news) → (∀ p ∈ news, p.1 < D) → a = b * q + r → 0 ≤ r → r < b → Q (.ref D) { s with toks := tk, heap := h' })
    (hp : Builtin.divisionGoesByPylong a b = false ∨ PySem.PylongRoom (model prog w) A s) :
    wpAny (model prog w) A (call (.builtin "divmod") [.int a t, .int b u]) Q E s :=
  divmod_N F N (by omega) (fun h' F' N' => h h' _ (a.fdiv b) (a.fmod b) _ _ _ F' N' (fun p hp => Heap.lt_size (N p hp).1) (by have := Int.mul_fdiv_add_fmod a b; omega) (Int.fmod_nonneg_of_pos _ hb) (Int.fmod_lt_of_pos _ hb)) hp
/-- the ways of a test meet: a bool that is true where P holds -/
def JB (P : Prop) (h₀ : Heap) (L : Addr) (m : Str → Option Value) (news : List (Addr × Obj)) (s : Shared) (v : Value) (s₂ : Shared) : Prop :=
  ∃ (h : Heap) (tk : Nat) (b : Bool), v = .bool b ∧ (b = true ↔ P) ∧ s₂ = { s with heap := h, toks := tk } ∧ Fr h₀ L h m ∧ News h₀ L h news
/-- a mark: a join is under way -/
def JMark : Prop := True
theorem JB.intro {P : Prop} {h : Heap} {tk : Nat} {b : Bool} {news' : List (Addr × Obj)} (e : b = true ↔ P) (F : Fr h₀ L h m) (N : News h₀ L h news') (hs : ∀ p ∈ news, p ∈ news') : JB P h₀ L m news s (.bool b) { s with heap := h, toks := tk } :=
  ⟨h, tk, b, rfl, e, rfl, F, cb_drop N hs⟩
theorem jb1 {c : Prop} {lp : Bool} (h : c) : lp = true ↔ c ∧ lp = true := ⟨fun x => ⟨h, x⟩, fun x => x.2⟩
theorem jb2 {c : Prop} [Decidable c] {lp : Bool} (h : ¬ c) : decide c = true ↔ c ∧ lp = true := ⟨fun x => absurd (of_decide_eq_true x) h, fun x => absurd x.1 h⟩
theorem jb3 {k : Int} {lp : Bool} (h : k ≠ 2) : (k == 2) = true ↔ k = 2 ∧ lp = true := ⟨fun x => absurd (eq_of_beq x) h, fun x => absurd x.1 h⟩
theorem jb4 {x y z : Int} (h1 : x = 3) (h2 : y ≠ 24) : (y != 24) = true ↔ x = 3 ∧ (y ≠ 24 ∨ z = 3) := by simp [h1, h2]
theorem jb5 {x y z : Int} (h1 : x = 3) (h2 : y = 24) : (z == 3) = true ↔ x = 3 ∧ (y ≠ 24 ∨ z = 3) := by simp [h1, h2]
theorem jb6 {x y z : Int} (h1 : x ≠ 3) : (x == 3) = true ↔ x = 3 ∧ (y ≠ 24 ∨ z = 3) := by simp [h1]
theorem joinP {M : Model} {c : Sem Value} {Q : Value → Shared → Prop} (P : Prop) [Decidable P] (_F : Fr h₀ L s.heap m) (_N : News h₀ L s.heap news)
    (hc : JMark → wpAny M A c (fun v s₂ => JB P h₀ L m news s v s₂) E s)
    (hk : ∀ (h : Heap) (tk : Nat), Fr h₀ L h m → News h₀ L h news → Q (.bool (decide P)) { s with heap := h, toks := tk }) : wpAny M A c Q E s := by
  refine wpAny_mono (hc True.intro) (fun v s₂ hq => ?_) fun _ _ h => h
  obtain ⟨h, tk, b, rfl, hb, rfl, F, N⟩ := hq
  have e : b = decide P := by rw [Bool.eq_iff_iff, hb, decide_eq_true_eq]
  rw [e]
  exact hk h tk F N
theorem joinA {M : Model} {c : Sem Value} {Q : Value → Shared → Prop} {x y z : Int} {t1 t2 t3 : Tok} (_h1 : m (Str.ofString "n1") = some (.int x t1)) (_h2 : m (Str.ofString "n4") = some (.int y t2)) (_h3 : m (Str.ofString "n100") = some (.int z t3)) (F : Fr h₀ L s.heap m) (N : News h₀ L s.heap news)
    (hc : JMark → wpAny M A c (fun v s₂ => JB (x = 3 ∧ (y ≠ 24 ∨ z = 3)) h₀ L m news s v s₂) E s)
    (hk : ∀ (h : Heap) (tk : Nat), Fr h₀ L h m → News h₀ L h news → Q (.bool (decide (x = 3 ∧ (y ≠ 24 ∨ z = 3)))) { s with heap := h, toks := tk }) : wpAny M A c Q E s := joinP _ F N hc hk
theorem joinB {M : Model} {c : Sem Value} {Q : Value → Shared → Prop} {k : Int} {lp : Bool} {t1 : Tok} (_h1 : m (Str.ofString "month") = some (.int k t1)) (_h2 : m (Str.ofString "leapyear") = some (.bool lp)) (F : Fr h₀ L s.heap m) (N : News h₀ L s.heap news)
    (hc : JMark → wpAny M A c (fun v s₂ => JB (2 < k ∧ lp = true) h₀ L m news s v s₂) E s)
    (hk : ∀ (h : Heap) (tk : Nat), Fr h₀ L h m → News h₀ L h news → Q (.bool (decide (2 < k ∧ lp = true))) { s with heap := h, toks := tk }) : wpAny M A c Q E s := joinP _ F N hc hk
theorem joinC {M : Model} {c : Sem Value} {Q : Value → Shared → Prop} {k : Int} {lp : Bool} {t1 : Tok} (_h1 : m (Str.ofString "month") = some (.int k t1)) (_h2 : m (Str.ofString "leapyear") = some (.bool lp)) (F : Fr h₀ L s.heap m) (N : News h₀ L s.heap news)
    (hc : JMark → wpAny M A c (fun v s₂ => JB (k = 2 ∧ lp = true) h₀ L m news s v s₂) E s)
    (hk : ∀ (h : Heap) (tk : Nat), Fr h₀ L h m → News h₀ L h news → Q (.bool (decide (k = 2 ∧ lp = true))) { s with heap := h, toks := tk }) : wpAny M A c Q E s := joinP _ F N hc hk
theorem lt0 {d : Addr} {l : List (Addr × Obj)} (h : AllLt d l) : ∀ p ∈ l, p.1 < d := by
  induction l with
  | nil => intro p hp; cases hp
  | cons q r ih =>
    intro p hp
    have h' : @LT.lt Nat _ q.1 d ∧ AllLt d r := h
    rcases List.mem_cons.mp hp with e | hp
    · rw [e]; exact h'.1
    · exact ih h'.2 p hp
theorem lt1 {d : Addr} {l : List (Addr × Obj)} {A : Prop} (h : A ∧ AllLt d l) : ∀ p ∈ l, p.1 < d := lt0 h.2
theorem lt2 {d : Addr} {l : List (Addr × Obj)} {A B : Prop} (h : A ∧ B ∧ AllLt d l) : ∀ p ∈ l, p.1 < d := lt0 h.2.2
theorem lt3 {d : Addr} {l : List (Addr × Obj)} {A B C : Prop} (h : A ∧ B ∧ C ∧ AllLt d l) : ∀ p ∈ l, p.1 < d := lt0 h.2.2.2
theorem lt4 {d : Addr} {l : List (Addr × Obj)} {A B C D : Prop} (h : A ∧ B ∧ C ∧ D ∧ AllLt d l) : ∀ p ∈ l, p.1 < d := lt0 h.2.2.2.2
theorem lt5 {d : Addr} {l : List (Addr × Obj)} {A B C D E : Prop} (h : A ∧ B ∧ C ∧ D ∧ E ∧ AllLt d l) : ∀ p ∈ l, p.1 < d := lt0 h.2.2.2.2.2
theorem lt6 {d : Addr} {l : List (Addr × Obj)} {A B C D E F : Prop} (h : A ∧ B ∧ C ∧ D ∧ E ∧ F ∧ AllLt d l) : ∀ p ∈ l, p.1 < d := lt0 h.2.2.2.2.2.2
theorem sh5 (x : Int) : x.fdiv (2 ^ Int.toNat 5) = x / 32 := Int.fdiv_eq_ediv_of_nonneg _ (by decide)
end
end Mine
end
section
namespace Mine
theorem fm (a : Int) : a.fmod 4 = a % 4 ∧ a.fmod 100 = a % 100 ∧ a.fmod 400 = a % 400 ∧ a.fdiv 4 = a / 4 ∧ a.fdiv 100 = a / 100 ∧ a.fdiv 400 = a / 400 ∧ a.fmod 7 = a % 7 := ⟨Int.fmod_eq_emod_of_nonneg _ (by decide), Int.fmod_eq_emod_of_nonneg _ (by decide), Int.fmod_eq_emod_of_nonneg _ (by decide), Int.fdiv_eq_ediv_of_nonneg _ (by decide), Int.fdiv_eq_ediv_of_nonneg _ (by decide), Int.fdiv_eq_ediv_of_nonneg _ (by decide), Int.fmod_eq_emod_of_nonneg _ (by decide)⟩
def leapB (y : Int) : Bool := y % 4 == 0 && (y % 100 != 0 || y % 400 == 0)
def dbyI (y : Int) : Int := (y - 1) * 365 + (y - 1) / 4 - (y - 1) / 100 + (y - 1) / 400
def dimI (y m : Int) : Int := if m = 2 ∧ leapB y = true then 29 else [-1, 31, 28, 31, 30, 31, 30, 31, 31, 30, 31, 30, 31].getD m.toNat 0
def dbmI (y m : Int) : Int := [-1, 0, 31, 59, 90, 120, 151, 181, 212, 243, 273, 304, 334].getD m.toNat 0 + if 2 < m ∧ leapB y = true then 1 else 0
/-- the ordinal of the Monday of week 1 -/
def monI (y : Int) : Int := let f := dbyI y + 1; let k := (f + 6) % 7; if 3 < k then f - k + 7 else f - k
theorem dim1 (y : Int) : dimI y 1 = 31 := by simp [dimI]
theorem dbm1 (y : Int) : dbmI y 1 = 0 := by simp [dbmI]
theorem leap_iff (y : Int) : leapB y = true ↔ y % 4 = 0 ∧ (y % 100 ≠ 0 ∨ y % 400 = 0) := by simp [leapB]
/-- a tuple that is the date of the ordinal n -/
def IsYmd (n : Int) (o : Obj) : Prop := ∃ (y m d : Int) (ty tm td : Tok), o = { cls := .type "tuple", data := .seq #[.int y ty, .int m tm, .int d td] } ∧ 1 ≤ m ∧ m ≤ 12 ∧ 1 ≤ d ∧ d ≤ dimI y m ∧ dbyI y + dbmI y m + d = n

section
variable {n q r0 a r1 b r2 c r : Int}
theorem ord_leap (h2 : r0 = 36524 * a + r1) (h3 : r1 = 1461 * b + r2) (h4 : r2 = 365 * c + r) (b0 : 0 ≤ r0) (b1 : r0 < 146097) (b2 : 0 ≤ r1) (b3 : r1 < 36524) (b4 : 0 ≤ r2) (b5 : r2 < 1461) (b6 : 0 ≤ r) (b7 : r < 365) :
    leapB (q * 400 + 1 + (a * 100 + b * 4 + c)) = decide (c = 3 ∧ (b ≠ 24 ∨ a = 3)) := by
  rw [Bool.eq_iff_iff, leap_iff, decide_eq_true_eq]
  omega
theorem bad0 (hb : (decide (c = 3 ∧ (b ≠ 24 ∨ a = 3)) == leapB (q * 400 + 1 + (a * 100 + b * 4 + c))) = false) (h2 : r0 = 36524 * a + r1) (h3 : r1 = 1461 * b + r2) (h4 : r2 = 365 * c + r) (b0 : 0 ≤ r0) (b1 : r0 < 146097) (b2 : 0 ≤ r1) (b3 : r1 < 36524) (b4 : 0 ≤ r2) (b5 : r2 < 1461) (b6 : 0 ≤ r) (b7 : r < 365) : False := by
  rw [ord_leap h2 h3 h4 b0 b1 b2 b3 b4 b5 b6 b7, beq_self_eq_true] at hb
  cases hb
theorem dbm12 {y : Int} (hl : leapB y = true) : dbmI y 12 = 335 := by simp [dbmI, hl]
theorem pure_y {q a b c : Int} : q * 400 + 1 + (a * 100 + b * 4 + c) - 1 = 400 * q + 100 * a + 4 * b + c := by omega
theorem pure_4 {q a b : Int} : 400 * q + 100 * a + 4 * b + 4 - 1 = 400 * q + 100 * a + 4 * b + 3 := by omega
theorem pure_0 {q : Int} : 400 * q + 100 * 4 + 4 * 0 + 0 - 1 = 400 * q + 100 * 3 + 4 * 24 + 3 := by omega
theorem pure_l {q a b : Int} (b0 : 0 ≤ b) (b1 : b ≤ 23) : (400 * q + 100 * a + 4 * b + 4) % 4 = 0 ∧ ((400 * q + 100 * a + 4 * b + 4) % 100 ≠ 0 ∨ (400 * q + 100 * a + 4 * b + 4) % 400 = 0) := by omega
theorem pure_m {q : Int} : (400 * q + 100 * 4 + 4 * 0 + 0) % 4 = 0 ∧ ((400 * q + 100 * 4 + 4 * 0 + 0) % 100 ≠ 0 ∨ (400 * q + 100 * 4 + 4 * 0 + 0) % 400 = 0) := by omega
theorem div_y {q a b c : Int} (c0 : 0 ≤ c) (c1 : c ≤ 3) : (400 * q + 100 * a + 4 * b + c) / 4 = 100 * q + 25 * a + b := by omega
theorem div_c {q a d : Int} (c0 : 0 ≤ d) (c1 : d ≤ 99) : (400 * q + 100 * a + d) / 100 = 4 * q + a := by omega
theorem div_q {q d : Int} (c0 : 0 ≤ d) (c1 : d ≤ 399) : (400 * q + d) / 400 = q := by omega
/-- the days ahead of the year 400 q + 100 a + 4 b + c + 1 -/
theorem dby_form {y q a b c : Int} (hy : y - 1 = 400 * q + 100 * a + 4 * b + c) (a0 : 0 ≤ a) (a1 : a ≤ 3) (b0 : 0 ≤ b) (b1 : b ≤ 24) (c0 : 0 ≤ c) (c1 : c ≤ 3) : dbyI y = 146097 * q + 36524 * a + 1461 * b + 365 * c := by
  unfold dbyI
  have e2 := div_c (q := q) (a := a) (d := 4 * b + c) (by clear hy; omega) (by clear hy; omega)
  have e3 := div_q (q := q) (d := 100 * a + (4 * b + c)) (by clear hy e2; omega) (by clear hy e2; omega)
  rw [← Int.add_assoc] at e2 e3
  rw [← Int.add_assoc] at e3
  rw [hy, div_y c0 c1, e2, e3]
  clear hy e2 e3 a0 a1 b0 b1 c0 c1
  omega
theorem ord_n (h1 : n - 1 = 146097 * q + r0) (h2 : r0 = 36524 * a + r1) (h3 : r1 = 1461 * b + r2) (h4 : r2 = 365 * c + r) (b0 : 0 ≤ r0) (b1 : r0 < 146097) (b2 : 0 ≤ r1) (b3 : r1 < 36524) (b4 : 0 ≤ r2) (b5 : r2 < 1461) (b6 : 0 ≤ r) (b7 : r < 365) (hc : c ≠ 4) (ha : a ≠ 4) :
    dbyI (q * 400 + 1 + (a * 100 + b * 4 + c)) + r + 1 = n := by
  have a1 : 0 ≤ c ∧ c ≤ 3 := by clear h1 h2 h3 b0 b1 b2 b3 ha; omega
  have a3 : 0 ≤ b ∧ b ≤ 24 := by clear h1 h2 h4 b0 b1 b6 b7 ha hc a1; omega
  have a2 : 0 ≤ a ∧ a ≤ 3 := by clear h1 h3 h4 b4 b5 b6 b7 hc a1 a3; omega
  rw [dby_form (q := q) (a := a) (b := b) (c := c) pure_y a2.1 a2.2 a3.1 a3.2 a1.1 a1.2]
  clear a1 a2 a3 b0 b1 b2 b3 b4 b5 b6 b7 ha hc
  omega
theorem ord_last (h1 : n - 1 = 146097 * q + r0) (h2 : r0 = 36524 * a + r1) (h3 : r1 = 1461 * b + r2) (h4 : r2 = 365 * c + r) (b0 : 0 ≤ r0) (b1 : r0 < 146097) (b2 : 0 ≤ r1) (b3 : r1 < 36524) (b4 : 0 ≤ r2) (b5 : r2 < 1461) (b6 : 0 ≤ r) (b7 : r < 365) (hc : c = 4 ∨ a = 4) (k2 t : Tok) (t2 : Tok) :
    r = 0 ∧ IsYmd n { cls := .type "tuple", data := .seq #[.int (q * 400 + 1 + (a * 100 + b * 4 + c) - 1) t, .int 12 t2, .int 31 k2] } := by
  rw [pure_y]
  rcases hc with rfl | rfl
  · have z : r = 0 ∧ r2 = 1460 := by clear h1 h2 h3 b0 b1 b2 b3; omega
    obtain ⟨rfl, rfl⟩ := z
    have a3 : 0 ≤ b ∧ b ≤ 23 := by clear h1 h2 h4 b0 b1; omega
    have a2 : 0 ≤ a ∧ a ≤ 3 := by clear h1 h4 b4 b5; omega
    have hd := dby_form (y := 400 * q + 100 * a + 4 * b + 4) (q := q) (a := a) (b := b) (c := 3) pure_4 a2.1 a2.2 a3.1 (Int.le_trans a3.2 (by decide)) (by decide) (by decide)
    have hl : leapB (400 * q + 100 * a + 4 * b + 4) = true := by rw [leap_iff]; exact pure_l a3.1 a3.2
    refine ⟨rfl, _, _, _, _, _, _, rfl, by decide, by decide, by decide, by simp [dimI], ?_⟩
    rw [dbm12 hl, hd]
    clear hd hl a2 a3 b0 b1 b2 b3
    omega
  · have z : r1 = 0 := by clear h1 h3 h4 b4 b5 b6 b7; omega
    subst z
    have z2 : b = 0 ∧ r2 = 0 := by clear h1 h2 h4 b0 b1 b6 b7; omega
    obtain ⟨rfl, rfl⟩ := z2
    have z3 : c = 0 ∧ r = 0 := by clear h1 h2 h3 b0 b1 b2 b3; omega
    obtain ⟨rfl, rfl⟩ := z3
    have hd := dby_form (y := 400 * q + 100 * 4 + 4 * 0 + 0) (q := q) (a := 3) (b := 24) (c := 3) pure_0 (by decide) (by decide) (by decide) (by decide) (by decide) (by decide)
    have hl : leapB (400 * q + 100 * 4 + 4 * 0 + 0) = true := by rw [leap_iff]; exact pure_m
    refine ⟨rfl, _, _, _, _, _, _, rfl, by decide, by decide, by decide, by simp [dimI], ?_⟩
    rw [dbm12 hl, hd]
    clear hd hl b0 b1 b2 b3
    omega
end
set_option maxRecDepth 100000 in
theorem tabs : ∀ x : Fin 365, ∀ lp : Bool,
    let r : Int := (x.val : Nat); let k : Int := (r + 50) / 32
    let P : Int := [-1, 0, 31, 59, 90, 120, 151, 181, 212, 243, 273, 304, 334].getD k.toNat 0 + if 2 < k ∧ lp = true then 1 else 0
    let D : Int := [-1, 31, 28, 31, 30, 31, 30, 31, 31, 30, 31, 30, 31].getD (k - 1).toNat 0 + if k - 1 = 2 ∧ lp = true then 1 else 0
    let D' : Int := [-1, 31, 28, 31, 30, 31, 30, 31, 31, 30, 31, 30, 31].getD k.toNat 0 + if k = 2 ∧ lp = true then 1 else 0
    1 ≤ k ∧ k ≤ 12 ∧ (¬ r < P → r - P < D') ∧ (r < P → 2 ≤ k ∧ 0 ≤ r - (P - D) ∧ r - (P - D) < D ∧ P - D = [-1, 0, 31, 59, 90, 120, 151, 181, 212, 243, 273, 304, 334].getD (k - 1).toNat 0 + if 2 < k - 1 ∧ lp = true then 1 else 0) := by decide +kernel
section
variable {r k Y : Int} {lp : Bool}
theorem tab (hk : k = (r + 50).fdiv (2 ^ Int.toNat 5)) (h0 : 0 ≤ r) (h1 : r < 365) :
    let P : Int := [-1, 0, 31, 59, 90, 120, 151, 181, 212, 243, 273, 304, 334].getD k.toNat 0 + if 2 < k ∧ lp = true then 1 else 0
    let D : Int := [-1, 31, 28, 31, 30, 31, 30, 31, 31, 30, 31, 30, 31].getD (k - 1).toNat 0 + if k - 1 = 2 ∧ lp = true then 1 else 0
    let D' : Int := [-1, 31, 28, 31, 30, 31, 30, 31, 31, 30, 31, 30, 31].getD k.toNat 0 + if k = 2 ∧ lp = true then 1 else 0
    1 ≤ k ∧ k ≤ 12 ∧ (¬ r < P → r - P < D') ∧ (r < P → 2 ≤ k ∧ 0 ≤ r - (P - D) ∧ r - (P - D) < D ∧ P - D = [-1, 0, 31, 59, 90, 120, 151, 181, 212, 243, 273, 304, 334].getD (k - 1).toNat 0 + if 2 < k - 1 ∧ lp = true then 1 else 0) := by
  rw [sh5] at hk
  have := tabs ⟨r.toNat, by omega⟩ lp
  have e : ((r.toNat : Nat) : Int) = r := by omega
  simp only [e] at this
  subst hk
  exact this
theorem dim_alt (y m : Int) : dimI y m = [-1, 31, 28, 31, 30, 31, 30, 31, 31, 30, 31, 30, 31].getD m.toNat 0 + if m = 2 ∧ leapB y = true then 1 else 0 := by
  unfold dimI
  split
  · rename_i h; obtain ⟨rfl, _⟩ := h; rfl
  · omega
theorem ifA {c : Prop} [Decidable c] : (if decide c = true then (1 : Int) else 0) = if c then 1 else 0 := by
  by_cases h : c <;> simp [h]
/-- the month before the estimate is a month -/
theorem pre1 (h : r < [-1, 0, 31, 59, 90, 120, 151, 181, 212, 243, 273, 304, 334].getD k.toNat 0 + if decide (2 < k ∧ lp = true) = true then 1 else 0) (hk : k = (r + 50).fdiv (2 ^ Int.toNat 5)) (h0 : 0 ≤ r) (h1 : r < 365) : 1 ≤ k - 1 := by
  simp only [ifA] at h
  have := (tab (lp := lp) hk h0 h1).2.2.2 h
  omega
theorem bad1 (h : r < [-1, 0, 31, 59, 90, 120, 151, 181, 212, 243, 273, 304, 334].getD k.toNat 0 + if decide (2 < k ∧ lp = true) = true then 1 else 0)
    (hb : ¬0 ≤ r - (([-1, 0, 31, 59, 90, 120, 151, 181, 212, 243, 273, 304, 334].getD k.toNat 0 + if decide (2 < k ∧ lp = true) = true then 1 else 0) - ([-1, 31, 28, 31, 30, 31, 30, 31, 31, 30, 31, 30, 31].getD (k - 1).toNat 0 + if decide (k - 1 = 2 ∧ lp = true) = true then 1 else 0)))
    (hk : k = (r + 50).fdiv (2 ^ Int.toNat 5)) (h0 : 0 ≤ r) (h1 : r < 365) : False := by
  simp only [ifA] at h hb
  skip
  exact hb ((tab (lp := lp) hk h0 h1).2.2.2 h).2.1
theorem bad2 (h : r < [-1, 0, 31, 59, 90, 120, 151, 181, 212, 243, 273, 304, 334].getD k.toNat 0 + if decide (2 < k ∧ lp = true) = true then 1 else 0)
    (hb : ¬ r - (([-1, 0, 31, 59, 90, 120, 151, 181, 212, 243, 273, 304, 334].getD k.toNat 0 + if decide (2 < k ∧ lp = true) = true then 1 else 0) - ([-1, 31, 28, 31, 30, 31, 30, 31, 31, 30, 31, 30, 31].getD (k - 1).toNat 0 + if decide (k - 1 = 2 ∧ lp = true) = true then 1 else 0)) < dimI Y (k - 1))
    (he : (lp == leapB Y) = true) (hk : k = (r + 50).fdiv (2 ^ Int.toNat 5)) (h0 : 0 ≤ r) (h1 : r < 365) : False := by
  have e := eq_of_beq he
  simp only [ifA] at h hb
  rw [dim_alt, ← e] at hb
  exact hb ((tab (lp := lp) hk h0 h1).2.2.2 h).2.2.1
theorem bad4 (h : ¬ r < [-1, 0, 31, 59, 90, 120, 151, 181, 212, 243, 273, 304, 334].getD k.toNat 0 + if decide (2 < k ∧ lp = true) = true then 1 else 0)
    (hb : ¬ r - ([-1, 0, 31, 59, 90, 120, 151, 181, 212, 243, 273, 304, 334].getD k.toNat 0 + if decide (2 < k ∧ lp = true) = true then 1 else 0) < dimI Y k)
    (he : (lp == leapB Y) = true) (hk : k = (r + 50).fdiv (2 ^ Int.toNat 5)) (h0 : 0 ≤ r) (h1 : r < 365) : False := by
  have e := eq_of_beq he
  simp only [ifA] at h hb
  rw [dim_alt, ← e] at hb
  exact hb ((tab (lp := lp) hk h0 h1).2.2.1 h)
theorem good1 {n : Int} {t t2 t3 : Tok} (h : r < [-1, 0, 31, 59, 90, 120, 151, 181, 212, 243, 273, 304, 334].getD k.toNat 0 + if decide (2 < k ∧ lp = true) = true then 1 else 0)
    (he : (lp == leapB Y) = true) (hk : k = (r + 50).fdiv (2 ^ Int.toNat 5)) (h0 : 0 ≤ r) (h1 : r < 365) (hn : dbyI Y + r + 1 = n) :
    IsYmd n { cls := .type "tuple", data := .seq #[.int Y t, .int (k - 1) t2, .int (r - (([-1, 0, 31, 59, 90, 120, 151, 181, 212, 243, 273, 304, 334].getD k.toNat 0 + if decide (2 < k ∧ lp = true) = true then 1 else 0) - ([-1, 31, 28, 31, 30, 31, 30, 31, 31, 30, 31, 30, 31].getD (k - 1).toNat 0 + if decide (k - 1 = 2 ∧ lp = true) = true then 1 else 0)) + 1) t3] } := by
  have e := eq_of_beq he
  simp only [ifA] at h
  simp only [ifA]
  obtain ⟨a1, a2, _, a3⟩ := tab (lp := lp) hk h0 h1
  obtain ⟨a3, a4, a5, a6⟩ := a3 h
  refine ⟨_, _, _, _, _, _, rfl, by omega, by omega, by omega, ?_, ?_⟩
  · rw [dim_alt, ← e]; omega
  · rw [dbmI, ← e, ← a6]; omega
theorem good2 {n : Int} {t t2 t3 : Tok} (h : ¬ r < [-1, 0, 31, 59, 90, 120, 151, 181, 212, 243, 273, 304, 334].getD k.toNat 0 + if decide (2 < k ∧ lp = true) = true then 1 else 0)
    (he : (lp == leapB Y) = true) (hk : k = (r + 50).fdiv (2 ^ Int.toNat 5)) (h0 : 0 ≤ r) (h1 : r < 365) (hn : dbyI Y + r + 1 = n) :
    IsYmd n { cls := .type "tuple", data := .seq #[.int Y t, .int k t2, .int (r - ([-1, 0, 31, 59, 90, 120, 151, 181, 212, 243, 273, 304, 334].getD k.toNat 0 + if decide (2 < k ∧ lp = true) = true then 1 else 0) + 1) t3] } := by
  have e := eq_of_beq he
  simp only [ifA] at h
  simp only [ifA]
  obtain ⟨a1, a2, a3, _⟩ := tab (lp := lp) hk h0 h1
  have a3 := a3 h
  refine ⟨_, _, _, _, _, _, rfl, by omega, by omega, by omega, ?_, ?_⟩
  · rw [dim_alt, ← e]; omega
  · rw [dbmI, ← e]; omega
end
end Mine
end
section
namespace Mine
/-- the claim's caller lies in the stack -/
def Claimed (l : List (Code × Pos)) : Prop := (l.map (·.1)).any Code.isCaller = true
theorem Claimed.more {l : List (Code × Pos)} (h : Claimed l) (c : Code) (p : Pos) : Claimed ((c, p) :: l) := by
  unfold Claimed at *
  rw [List.map_cons, List.any_cons, h, Bool.or_true]
/-- a tree, in every context of A in which the claim's caller lies -/
def wpK {α : Type} (M : Model) (A : Around) (t : Sem α) (Q : α → Shared → Prop) (E : Value → Shared → Prop) (s : Shared) : Prop :=
  ∀ Γ p, Γ.In A → (∀ q, Claimed ((Γ.code, q) :: Γ.below)) → Sem.wp M Γ t (fun a _ s' => Q a s') (fun e _ s' => E e s') p s
def codeK (M : Model) (A : Around) (c : Code) (R : Result → Shared → Prop) (s : Shared) : Prop :=
  ∀ Γ p, Γ.code = c → Γ.Below A → Claimed Γ.below → wpCode M Γ R p s
section
variable {α β : Type} {M : Model} {A : Around} {E : Value → Shared → Prop} {s : Shared}
theorem wpK.of {t : Sem α} {Q : α → Shared → Prop} (h : wpAny M A t Q E s) : wpK M A t Q E s := fun Γ p hΓ _ => h Γ p hΓ
theorem codeK.of {c : Code} {R : Result → Shared → Prop} (h : codeAny M A c R s) : codeK M A c R s := fun Γ p hc hΓ _ => h Γ p hc hΓ
theorem wpK.mono {t : Sem α} {Q Q' : α → Shared → Prop} {E' : Value → Shared → Prop} (h : wpK M A t Q E s) (hQ : ∀ a s, Q a s → Q' a s) (hE : ∀ e s, E e s → E' e s) : wpK M A t Q' E' s :=
  fun Γ p hΓ hc => Sem.wp_mono M Γ t (fun a _ s => hQ a s) (fun e _ s => hE e s) p s (h Γ p hΓ hc)
/-- a tree in two parts: the first by rules that hold in every context -/
theorem wpK.bind {m : Sem α} {f : α → Sem β} {Q : β → Shared → Prop} (h : wpK M A m (fun a s' => wpK M A (f a) Q E s') E s) : wpK M A (m >>= f) Q E s := fun Γ p hΓ hc => by
  rw [Sem.wp_bind']
  exact Sem.wp_mono M Γ m (fun a p' s' h' => h' Γ p' hΓ hc) (fun _ _ _ h' => h') p s (h Γ p hΓ hc)
theorem wpK.first {m : Sem α} {f : α → Sem β} {Q : β → Shared → Prop} (h : wpAny M A m (fun a s' => wpK M A (f a) Q E s') E s) : wpK M A (m >>= f) Q E s := wpK.bind (wpK.of h)
theorem wpK.onRaise {m : Sem α} {k : Value → Sem Unit} {Q : α → Shared → Prop} (h : wpK M A m Q (fun e s' => wpAny M A (k e) (fun _ s'' => E e s'') E s') s) : wpK M A (m.onRaise k) Q E s := fun Γ p hΓ hc => by
  rw [Sem.wp_onRaise]
  exact Sem.wp_mono M Γ m (fun _ _ _ h' => h') (fun e p' s' h' => h' Γ p' hΓ) p s (h Γ p hΓ hc)
theorem wpK.runValue {c : Code} {Q : Value → Shared → Prop} (hc : codeK M A c (fun r s' => match r with | .ok (.ret v) => Q v s' | .ok _ => False | .error e => E e s') s) : wpK M A (runValue c) Q E s := fun Γ p hΓ hk => by
  rw [Sem.wp_runValue]
  exact hc _ p rfl (hΓ.enter c none p (by intro x; cases x)) (hk p)
theorem wpK.call {f : Value} {pos : List Value} {kw : List (Str × Value)} {Q : Value → Shared → Prop}
    (hc : codeK M A (.call f ⟨pos, kw⟩) (fun r s' => match r with | .ok (.ret v) => Q v s' | .ok _ => False | .error e => E e s') s) : wpK M A (PySem.call f pos kw) Q E s := wpK.runValue hc
theorem codeK.tree {c : Code} {R : Result → Shared → Prop}
    (h : wpK M (A.under c) (M.den c) (fun fin s' => match fin with | .done f => R (.ok f) s' | .again c' => c'.quiet = true ∧ codeK M A c' R s') (fun e s' => R (.error e) s') s) : codeK M A c R s := fun Γ p hc hΓ hk => by
  rw [wpCode_iff_wp, hc]
  refine Sem.wp_mono M Γ _ (fun fin p' s' h' => ?_) (fun _ _ _ h' => h') p s (h Γ p (hc ▸ hΓ.in) (fun q => hk.more _ _))
  cases fin with
  | done f => exact h'
  | again c' => exact ⟨h'.1, h'.2 (Γ.goto c') p' rfl (hΓ.goto c') hk⟩
/-- under the claim's caller no mark is written -/
theorem claimed_no {own : List String} {l : List (Code × Pos)} (h : Claimed l) : pythonCodeMadeTheCall own (l.map (·.1)) = false := by
  have e : (!((l.map (·.1)).any Code.isCaller)) = false := by rw [h]; rfl
  show ((!((l.map (·.1)).any Code.isCaller)) && _ && _) = false
  rw [e]; rfl
theorem mark_no {own : List String} {e : Value} {Q : Unit → Shared → Prop} (h : Q () s) : wpK M A (markTheRefusal own e) Q E s := fun Γ p _ hk => by
  unfold markTheRefusal
  rw [Sem.wp_bind']
  show Sem.wp M Γ (if pythonCodeMadeTheCall own (((Γ.code, p) :: Γ.below).map (·.1)) then _ else _) _ _ p s
  rw [claimed_no (hk p)]
  exact h
end
end Mine
end
section
namespace Mine
theorem Fr.congr0 {g h : Heap} {L : Addr} {m m' : Str → Option Value} (e : ∀ z, m z = m' z) (F : Fr g L h m) : Fr g L h m' := by
  have : m = m' := funext e
  subst this; exact F
theorem if_map {m m' : Str → Option Value} {x : Str} {a : Value} (hx : m x = some a) (h : ∀ z, m z = m' z) (z : Str) : m z = if z = x then some a else m' z := by
  by_cases h2 : z = x
  · rw [if_pos h2, h2, hx]
  · rw [if_neg h2, h z]
/-- the frame at a def's start: its names alone (the map that the binding leaves is a large term) -/
theorem fr_in1 {P : Prop} {g h : Heap} {L : Addr} {m : Str → Option Value} {a : Value} (x : Str) (F : Fr g L h m) (hx : m x = some a)
    (H : ∀ m₁ : Str → Option Value, Fr g L h (fun z => if z = x then some a else m₁ z) → P) : P :=
  H m (Fr.congr0 (if_map hx fun _ => rfl) F)
theorem fr_in2 {P : Prop} {g h : Heap} {L : Addr} {m : Str → Option Value} {a b : Value} (x y : Str) (F : Fr g L h m) (hx : m x = some a) (hy : m y = some b)
    (H : ∀ m₁ : Str → Option Value, Fr g L h (fun z => if z = x then some a else if z = y then some b else m₁ z) → P) : P :=
  H m (Fr.congr0 (if_map hx (if_map hy fun _ => rfl)) F)
theorem fr_in3 {P : Prop} {g h : Heap} {L : Addr} {m : Str → Option Value} {a b c : Value} (x y v : Str) (F : Fr g L h m) (hx : m x = some a) (hy : m y = some b) (hv : m v = some c)
    (H : ∀ m₁ : Str → Option Value, Fr g L h (fun z => if z = x then some a else if z = y then some b else if z = v then some c else m₁ z) → P) : P :=
  H m (Fr.congr0 (if_map hx (if_map hy (if_map hv fun _ => rfl))) F)
theorem tk_any {α : Type} {M : Model} {A : Around} {t : Sem α} {Q : α → Shared → Prop} {E : Value → Shared → Prop} {h : Heap} {g : _} {d : _} {k : Nat} {o : _}
    (H : ∀ k, wpAny M A t Q E ⟨h, g, d, k, o⟩) : wpAny M A t Q E ⟨h, g, d, k, o⟩ := H k
theorem tk_anyK {α : Type} {M : Model} {A : Around} {t : Sem α} {Q : α → Shared → Prop} {E : Value → Shared → Prop} {h : Heap} {g : _} {d : _} {k : Nat} {o : _}
    (H : ∀ k, wpK M A t Q E ⟨h, g, d, k, o⟩) : wpK M A t Q E ⟨h, g, d, k, o⟩ := H k
end Mine
end
section
namespace Mine
noncomputable abbrev lo : List Str := looseW Mine.viewK [Str.ofString "_DAYS_IN_MONTH", Str.ofString "_DAYS_BEFORE_MONTH", Str.ofString "_DI400Y", Str.ofString "_DI100Y", Str.ofString "_DI4Y"]
noncomputable abbrev C (w : World) (mean : ExcName → Option Value) (mg mb : Str → Option Value) (f : Addr) (d u : Nat) (vs : List Value) (C : Cont) : Prop := Ctr Challenge.rw_km0087_04.row.prog w (Mine.heapK w.params) Mine.viewK lo mean mg mb f d u vs C
end Mine
namespace Mine
set_option maxHeartbeats 16000000 in
theorem c_leap (w : World) (mean : ExcName → Option Value) (mg mb : Str → Option Value) (y : Int) (t : Tok) : C w mean mg mb 28 2 8 [.int y t] (cBool (leapB y)) := by
  w_top off
  k_with_none
  unfold C Ctr; k_fill
  intro dp un gd cn cs a ccd cl outer A₀ base h₀ L m news s Q E B F X N T hk hd hu hret
  have D0 : KtsDicts [] h₀ := ktsDicts_nil
  refine wpAny_call ?_
  k_dflt cell_enter
  (refine tk_any ?_; intro tk0)
  rename Fr _ _ _ _ => F'
  (refine fr_in1 (PySem.Str.ofString "year") F' (by with_unfolding_all exact rfl) ?_; clear F'; intro m0 F')
  k_steps
  all_goals (refine' endB (Q := Q) (s := s) hret ?e ?F ?N ?S; (case F => k_asm); (case N => k_asm); (case S => kcj_all); (case e => (simp only [leapB]; simp only [fm] at *; simp_all)))
set_option maxHeartbeats 16000000 in
theorem c_dby (w : World) (mean : ExcName → Option Value) (mg mb : Str → Option Value) (y : Int) (t : Tok) : C w mean mg mb 35 2 8 [.int y t] (cInt (dbyI y)) := by
  w_top off
  k_with_none
  unfold C Ctr; k_fill
  intro dp un gd cn cs a ccd cl outer A₀ base h₀ L m news s Q E B F X N T hk hd hu hret
  have D0 : KtsDicts [] h₀ := ktsDicts_nil
  refine wpAny_call ?_
  k_dflt cell_enter
  (refine tk_any ?_; intro tk0)
  rename Fr _ _ _ _ => F'
  (refine fr_in1 (PySem.Str.ofString "year") F' (by with_unfolding_all exact rfl) ?_; clear F'; intro m0 F')
  k_steps
  all_goals (refine' endI (Q := Q) (s := s) hret ?e ?F ?N ?S; (case F => k_asm); (case N => k_asm); (case S => kcj_all); (case e => (simp only [dbyI]; simp only [fm] at *)))
set_option maxHeartbeats 16000000 in
theorem c_dim (w : World) (mean : ExcName → Option Value) (mg mb : Str → Option Value) (y m9 : Int) (t t2 : Tok) (h1 : 1 ≤ m9) (h2 : m9 ≤ 12) : C w mean mg mb 42 4 16 [.int y t, .int m9 t2] (cInt (dimI y m9)) := by
  w_top off
  k_with_none
  (k_with "call ref" => (k_dflt ( (refine' use ?wq7c ?wq7k1 ?wq7k2 ?wq7k3 ?wq7k4 ?wq7k5 ?wq7k6 ?wq7k7 ?wq7k8 ?_); (case wq7k2 => k_asm); (case wq7k1 => k_asm); (case wq7k3 => k_asm); (case wq7k4 => k_asm); (case wq7k5 => k_asm); (case wq7c => first  | exact c_leap _ _ _ _ _ _); (case wq7k6 => first | exact rfl | assumption); (case wq7k7 => ktr_room); (case wq7k8 => ktr_units); (intro t9 h9 tk9 F9 N9; (try dsimp only); (try k_fold)))))
  (k_with "subscriptTail" => (k_here; k_dflt ( (refine' top_item ?wq7F ?wq7X ?wq7l ?wq7hi ?wq7h0 ?wq7h1 ?wq7h2 ?_); (case wq7F => k_asm); (case wq7X => k_asm); (case wq7l => k_is); (case wq7hi => exact ints13); (case wq7h0 => first | omega | (rw [sh5]; omega)); (case wq7h1 => (simp only [List.length_cons, List.length_nil]; first | omega | (rw [sh5]; omega))); (case wq7h2 => decide); k_whole; intro t9)))
  unfold C Ctr; k_fill
  intro dp un gd cn cs a ccd cl outer A₀ base h₀ L m news s Q E B F X N T hk hd hu hret
  have D0 : KtsDicts [] h₀ := ktsDicts_nil
  refine wpAny_call ?_
  k_dflt cell_enter
  (refine tk_any ?_; intro tk0)
  rename Fr _ _ _ _ => F'
  (refine fr_in2 (PySem.Str.ofString "year") (PySem.Str.ofString "month") F' (by with_unfolding_all exact rfl) (by with_unfolding_all exact rfl) ?_; clear F'; intro m0 F')
  k_steps
  all_goals (refine' endI (Q := Q) (s := s) hret ?e ?F ?N ?S; (case F => k_asm); (case N => k_asm); (case S => kcj_all); (case e => (simp only [dimI]; simp_all)))
set_option maxHeartbeats 16000000 in
theorem c_dbm (w : World) (mean : ExcName → Option Value) (mg mb : Str → Option Value) (y m9 : Int) (t t2 : Tok) (h1 : 1 ≤ m9) (h2 : m9 ≤ 12) : C w mean mg mb 49 4 16 [.int y t, .int m9 t2] (cInt (dbmI y m9)) := by
  w_top off
  k_with_none
  (k_with "call ref" => (k_dflt ( (refine' use ?wq7c ?wq7k1 ?wq7k2 ?wq7k3 ?wq7k4 ?wq7k5 ?wq7k6 ?wq7k7 ?wq7k8 ?_); (case wq7k2 => k_asm); (case wq7k1 => k_asm); (case wq7k3 => k_asm); (case wq7k4 => k_asm); (case wq7k5 => k_asm); (case wq7c => first  | exact c_leap _ _ _ _ _ _); (case wq7k6 => first | exact rfl | assumption); (case wq7k7 => ktr_room); (case wq7k8 => ktr_units); (intro t9 h9 tk9 F9 N9; (try dsimp only); (try k_fold)))))
  (k_with "subscriptTail" => (k_here; k_dflt ( (refine' top_item ?wq7F ?wq7X ?wq7l ?wq7hi ?wq7h0 ?wq7h1 ?wq7h2 ?_); (case wq7F => k_asm); (case wq7X => k_asm); (case wq7l => k_is); (case wq7hi => exact ints13); (case wq7h0 => first | omega | (rw [sh5]; omega)); (case wq7h1 => (simp only [List.length_cons, List.length_nil]; first | omega | (rw [sh5]; omega))); (case wq7h2 => decide); k_whole; intro t9)))
  unfold C Ctr; k_fill
  intro dp un gd cn cs a ccd cl outer A₀ base h₀ L m news s Q E B F X N T hk hd hu hret
  have D0 : KtsDicts [] h₀ := ktsDicts_nil
  refine wpAny_call ?_
  k_dflt cell_enter
  (refine tk_any ?_; intro tk0)
  rename Fr _ _ _ _ => F'
  (refine fr_in2 (PySem.Str.ofString "year") (PySem.Str.ofString "month") F' (by with_unfolding_all exact rfl) (by with_unfolding_all exact rfl) ?_; clear F'; intro m0 F')
  k_steps
  all_goals (refine' endI (Q := Q) (s := s) hret ?e ?F ?N ?S; (case F => k_asm); (case N => k_asm); (case S => kcj_all); (case e => (simp only [dbmI]; first | (simp_all; done) | (simp_all; (repeat' split) <;> omega))))
set_option maxHeartbeats 16000000 in
theorem c_ymd (w : World) (mean : ExcName → Option Value) (mg mb : Str → Option Value) (y m9 d9 : Int) (t t2 t3 : Tok) (h1 : 1 ≤ m9) (h2 : m9 ≤ 12) (h3 : 1 ≤ d9) (h4 : d9 ≤ dimI y m9) : C w mean mg mb 56 8 32 [.int y t, .int m9 t2, .int d9 t3] (cInt (dbyI y + dbmI y m9 + d9)) := by
  w_top off
  k_with_none
  (k_with "call ref" => (k_dflt ( (refine' use ?wq7c ?wq7k1 ?wq7k2 ?wq7k3 ?wq7k4 ?wq7k5 ?wq7k6 ?wq7k7 ?wq7k8 ?_); (case wq7k2 => k_asm); (case wq7k1 => k_asm); (case wq7k3 => k_asm); (case wq7k4 => k_asm); (case wq7k5 => k_asm); (case wq7c => first  | exact c_leap _ _ _ _ _ _); (case wq7k6 => first | exact rfl | assumption); (case wq7k7 => ktr_room); (case wq7k8 => ktr_units); (intro t9 h9 tk9 F9 N9; (try dsimp only); (try k_fold)))))
  (k_with "subscriptTail" => (k_here; k_dflt ( (refine' top_item ?wq7F ?wq7X ?wq7l ?wq7hi ?wq7h0 ?wq7h1 ?wq7h2 ?_); (case wq7F => k_asm); (case wq7X => k_asm); (case wq7l => k_is); (case wq7hi => exact ints13); (case wq7h0 => first | omega | (rw [sh5]; omega)); (case wq7h1 => (simp only [List.length_cons, List.length_nil]; first | omega | (rw [sh5]; omega))); (case wq7h2 => decide); k_whole; intro t9)))
  (k_with "call ref" => (k_dflt ( (refine' use ?wq7c ?wq7k1 ?wq7k2 ?wq7k3 ?wq7k4 ?wq7k5 ?wq7k6 ?wq7k7 ?wq7k8 ?_); (case wq7k2 => k_asm); (case wq7k1 => k_asm); (case wq7k3 => k_asm); (case wq7k4 => k_asm); (case wq7k5 => k_asm); (case wq7c => first  | exact c_dby _ _ _ _ _ _ | exact c_dim _ _ _ _ _ _ _ _ (by omega) (by omega) | exact c_dbm _ _ _ _ _ _ _ _ (by omega) (by omega)); (case wq7k6 => first | exact rfl | assumption); (case wq7k7 => ktr_room); (case wq7k8 => ktr_units); (intro t9 h9 tk9 F9 N9; (try dsimp only); (try k_fold)))))
  unfold C Ctr; k_fill
  intro dp un gd cn cs a ccd cl outer A₀ base h₀ L m news s Q E B F X N T hk hd hu hret
  have D0 : KtsDicts [] h₀ := ktsDicts_nil
  refine wpAny_call ?_
  k_dflt cell_enter
  (refine tk_any ?_; intro tk0)
  rename Fr _ _ _ _ => F'
  (refine fr_in3 (PySem.Str.ofString "year") (PySem.Str.ofString "month") (PySem.Str.ofString "day") F' (by with_unfolding_all exact rfl) (by with_unfolding_all exact rfl) (by with_unfolding_all exact rfl) ?_; clear F'; intro m0 F')
  k_steps
  all_goals (refine' endI (Q := Q) (s := s) hret ?e ?F ?N ?S; (case F => k_asm); (case N => k_asm); (case S => kcj_all); (case e => (rfl)))
set_option maxHeartbeats 16000000 in
theorem c_mon1 (w : World) (mean : ExcName → Option Value) (mg mb : Str → Option Value) (y : Int) (t : Tok) : C w mean mg mb 87 12 48 [.int y t] (cInt (monI y)) := by
  w_top off
  k_with_none
  (k_with "call ref" => (k_dflt ( (refine' use ?wq7c ?wq7k1 ?wq7k2 ?wq7k3 ?wq7k4 ?wq7k5 ?wq7k6 ?wq7k7 ?wq7k8 ?_); (case wq7k2 => k_asm); (case wq7k1 => k_asm); (case wq7k3 => k_asm); (case wq7k4 => k_asm); (case wq7k5 => k_asm); (case wq7c => first  | exact c_leap _ _ _ _ _ _); (case wq7k6 => first | exact rfl | assumption); (case wq7k7 => ktr_room); (case wq7k8 => ktr_units); (intro t9 h9 tk9 F9 N9; (try dsimp only); (try k_fold)))))
  (k_with "subscriptTail" => (k_here; k_dflt ( (refine' top_item ?wq7F ?wq7X ?wq7l ?wq7hi ?wq7h0 ?wq7h1 ?wq7h2 ?_); (case wq7F => k_asm); (case wq7X => k_asm); (case wq7l => k_is); (case wq7hi => exact ints13); (case wq7h0 => first | omega | (rw [sh5]; omega)); (case wq7h1 => (simp only [List.length_cons, List.length_nil]; first | omega | (rw [sh5]; omega))); (case wq7h2 => decide); k_whole; intro t9)))
  (k_with "call ref" => (k_dflt ( (refine' use ?wq7c ?wq7k1 ?wq7k2 ?wq7k3 ?wq7k4 ?wq7k5 ?wq7k6 ?wq7k7 ?wq7k8 ?_); (case wq7k2 => k_asm); (case wq7k1 => k_asm); (case wq7k3 => k_asm); (case wq7k4 => k_asm); (case wq7k5 => k_asm); (case wq7c => first  | exact c_dby _ _ _ _ _ _ | exact c_dim _ _ _ _ _ _ _ _ (by omega) (by omega) | exact c_dbm _ _ _ _ _ _ _ _ (by omega) (by omega)); (case wq7k6 => first | exact rfl | assumption); (case wq7k7 => ktr_room); (case wq7k8 => ktr_units); (intro t9 h9 tk9 F9 N9; (try dsimp only); (try k_fold)))))
  (k_with "call ref" => (k_dflt ( (refine' use ?wq7c ?wq7k1 ?wq7k2 ?wq7k3 ?wq7k4 ?wq7k5 ?wq7k6 ?wq7k7 ?wq7k8 ?_); (case wq7k2 => k_asm); (case wq7k1 => k_asm); (case wq7k3 => k_asm); (case wq7k4 => k_asm); (case wq7k5 => k_asm); (case wq7c => first  | exact c_ymd _ _ _ _ _ _ _ _ _ _ (by omega) (by omega) (by omega) (by first | omega | (rw [dim1]; decide))); (case wq7k6 => first | exact rfl | assumption); (case wq7k7 => ktr_room); (case wq7k8 => ktr_units); (intro t9 h9 tk9 F9 N9; (try dsimp only); (try k_fold)))))
  unfold C Ctr; k_fill
  intro dp un gd cn cs a ccd cl outer A₀ base h₀ L m news s Q E B F X N T hk hd hu hret
  have D0 : KtsDicts [] h₀ := ktsDicts_nil
  refine wpAny_call ?_
  k_dflt cell_enter
  (refine tk_any ?_; intro tk0)
  rename Fr _ _ _ _ => F'
  (refine fr_in1 (PySem.Str.ofString "year") F' (by with_unfolding_all exact rfl) ?_; clear F'; intro m0 F')
  k_steps
  all_goals (refine' endI (Q := Q) (s := s) hret ?e ?F ?N ?S; (case F => k_asm); (case N => k_asm); (case S => kcj_all); (case e => (simp only [monI]; simp only [dbm1, fm] at *; (repeat' split) <;> omega)))
end Mine
end
section
namespace Mine
theorem log_small {a : Int} (h1 : -10000000000 < a) (h2 : a < 10000000000) : a.natAbs.log2 < 1920 := by
  have h : a.natAbs < 2 ^ 34 := by omega
  by_cases h0 : a.natAbs = 0
  · rw [h0]; decide
  · exact Nat.lt_of_lt_of_le (Nat.log2_lt h0 |>.mpr h) (by decide)
theorem lenI {n : Int} (h1 : -10000000000 < n) (h2 : n < 10000000000) : (PySem.Str.ofString (toString n)).length ≤ 20 := by
  have e := int_text_length_le10 (a := n) (k := 10) (by decide) (by omega)
  rw [PySem.ofString_length]
  omega
theorem lenA {x y : PySem.Str} {a b : Nat} (h1 : x.length ≤ a) (h2 : y.length ≤ b) : (x ++ y).length ≤ a + b := by
  rw [PySem.Str.length_append]; exact Nat.add_le_add h1 h2
theorem lenE : PySem.Str.empty.length ≤ 0 := Nat.le_refl 0
theorem leafI {n : Int} (h1 : -10000000000 < n) (h2 : n < 10000000000) : (PySem.Str.ofString (toString n)).length ≤ 1000 := Nat.le_trans (lenI h1 h2) (by decide)
theorem leafL {l : String} (h : (PySem.Str.ofString l).length ≤ 1000) : (PySem.Str.ofString l).length ≤ 1000 := h
theorem leafS {x : PySem.Str} {m : Nat} (h : x.length ≤ m) (hm : m ≤ 1000) : x.length ≤ 1000 := Nat.le_trans h hm
theorem fitLen {x : PySem.Str} {n : Nat} (h : x.length ≤ n) (hn : n ≤ 16000000) : x.length ≤ sizeLine := by rw [sizeLine_eq]; omega
theorem fit1 {x1 : PySem.Str} (h1 : x1.length ≤ 1000) : (PySem.Str.empty ++ x1).length ≤ sizeLine := fitLen (lenA (lenE) h1) (by decide)
theorem fit2 {x1 x2 : PySem.Str} (h1 : x1.length ≤ 1000) (h2 : x2.length ≤ 1000) : (PySem.Str.empty ++ x1 ++ x2).length ≤ sizeLine := fitLen (lenA (lenA (lenE) h1) h2) (by decide)
theorem fit3 {x1 x2 x3 : PySem.Str} (h1 : x1.length ≤ 1000) (h2 : x2.length ≤ 1000) (h3 : x3.length ≤ 1000) : (PySem.Str.empty ++ x1 ++ x2 ++ x3).length ≤ sizeLine := fitLen (lenA (lenA (lenA (lenE) h1) h2) h3) (by decide)
theorem fit4 {x1 x2 x3 x4 : PySem.Str} (h1 : x1.length ≤ 1000) (h2 : x2.length ≤ 1000) (h3 : x3.length ≤ 1000) (h4 : x4.length ≤ 1000) : (PySem.Str.empty ++ x1 ++ x2 ++ x3 ++ x4).length ≤ sizeLine := fitLen (lenA (lenA (lenA (lenA (lenE) h1) h2) h3) h4) (by decide)
theorem fit5 {x1 x2 x3 x4 x5 : PySem.Str} (h1 : x1.length ≤ 1000) (h2 : x2.length ≤ 1000) (h3 : x3.length ≤ 1000) (h4 : x4.length ≤ 1000) (h5 : x5.length ≤ 1000) : (PySem.Str.empty ++ x1 ++ x2 ++ x3 ++ x4 ++ x5).length ≤ sizeLine := fitLen (lenA (lenA (lenA (lenA (lenA (lenE) h1) h2) h3) h4) h5) (by decide)
theorem fit6 {x1 x2 x3 x4 x5 x6 : PySem.Str} (h1 : x1.length ≤ 1000) (h2 : x2.length ≤ 1000) (h3 : x3.length ≤ 1000) (h4 : x4.length ≤ 1000) (h5 : x5.length ≤ 1000) (h6 : x6.length ≤ 1000) : (PySem.Str.empty ++ x1 ++ x2 ++ x3 ++ x4 ++ x5 ++ x6).length ≤ sizeLine := fitLen (lenA (lenA (lenA (lenA (lenA (lenA (lenE) h1) h2) h3) h4) h5) h6) (by decide)
theorem fit7 {x1 x2 x3 x4 x5 x6 x7 : PySem.Str} (h1 : x1.length ≤ 1000) (h2 : x2.length ≤ 1000) (h3 : x3.length ≤ 1000) (h4 : x4.length ≤ 1000) (h5 : x5.length ≤ 1000) (h6 : x6.length ≤ 1000) (h7 : x7.length ≤ 1000) : (PySem.Str.empty ++ x1 ++ x2 ++ x3 ++ x4 ++ x5 ++ x6 ++ x7).length ≤ sizeLine := fitLen (lenA (lenA (lenA (lenA (lenA (lenA (lenA (lenE) h1) h2) h3) h4) h5) h6) h7) (by decide)

def longB (y : Int) : Bool := (dbyI y + 1) % 7 == 4 || ((dbyI y + 1) % 7 == 3 && leapB y)
def WeekOk (y w : Int) : Prop := (0 < w ∧ w < 53) ∨ (w = 53 ∧ longB y = true)
instance (y w : Int) : Decidable (WeekOk y w) := by unfold WeekOk; infer_instance
def badG (y w d : Int) : Option PySem.Str :=
  if ¬ (1 ≤ y ∧ y ≤ 9999) then some (PySem.Str.empty ++ PySem.Str.ofString "Year is out of range: " ++ PySem.Str.ofString (toString y))
  else if ¬ WeekOk y w then some (PySem.Str.empty ++ PySem.Str.ofString "Invalid week: " ++ PySem.Str.ofString (toString w))
  else if ¬ (0 < d ∧ d < 8) then some (PySem.Str.empty ++ PySem.Str.ofString "Invalid weekday: " ++ PySem.Str.ofString (toString d) ++ PySem.Str.ofString " (range is [1, 7])")
  else none
/-- a ValueError with this text, or A -/
abbrev cOr (r : Option PySem.Str) (A : Cont) : Cont := fun base h₀ L m news fr s Q E => (∀ msg, r = some msg → cBad (fun k => [.str msg k]) base h₀ L m news fr s Q E) ∧ (r = none → A base h₀ L m news fr s Q E)
section
variable {y w d : Int}
theorem wk1 (h1 : 0 < w) (h2 : w < 53) : WeekOk y w := .inl ⟨h1, h2⟩
theorem wk2 (h1 : w = 53) (h2 : (dbyI y + dbmI y 1 + 1).fmod 7 = 4) : WeekOk y w := .inr ⟨h1, by rw [dbm1] at h2; simp only [fm] at h2; simp only [longB, Bool.or_eq_true, beq_iff_eq]; left; omega⟩
theorem wk3 (h1 : w = 53) (h2 : (dbyI y + dbmI y 1 + 1).fmod 7 = 3) (h3 : leapB y = true) : WeekOk y w := .inr ⟨h1, by rw [dbm1] at h2; simp only [fm] at h2; simp only [longB, Bool.or_eq_true, Bool.and_eq_true, beq_iff_eq]; right; exact ⟨by omega, h3⟩⟩
theorem nw1 (h1 : w ≠ 53) (h2 : ¬ (0 < w ∧ w < 53)) : ¬ WeekOk y w := fun h => h.elim h2 fun q => h1 q.1
theorem nw2 (h1 : w = 53) (h2 : (dbyI y + dbmI y 1 + 1).fmod 7 ≠ 4) (h3 : (dbyI y + dbmI y 1 + 1).fmod 7 ≠ 3) : ¬ WeekOk y w := fun h => by
  rw [dbm1] at h2 h3; simp only [fm] at h2 h3
  rcases h with h | ⟨_, h⟩
  · omega
  · simp only [longB, Bool.or_eq_true, Bool.and_eq_true, beq_iff_eq] at h; omega
theorem nw3 (h1 : w = 53) (h2 : (dbyI y + dbmI y 1 + 1).fmod 7 = 3) (h3 : leapB y = false) : ¬ WeekOk y w := fun h => by
  rw [dbm1] at h2; simp only [fm] at h2
  rcases h with h | ⟨_, h⟩
  · omega
  · simp [longB, h3] at h; omega
theorem gN (h1 : 1 ≤ y) (h2 : y ≤ 9999) (h3 : WeekOk y w) (h4 : 0 < d) (h5 : d < 8) : badG y w d = none := by
  unfold badG; rw [if_neg (fun h => h ⟨h1, h2⟩), if_neg (fun h => h h3), if_neg (fun h => h ⟨h4, h5⟩)]
theorem gY (h : ¬ (1 ≤ y ∧ y ≤ 9999)) : badG y w d = some (PySem.Str.empty ++ PySem.Str.ofString "Year is out of range: " ++ PySem.Str.ofString (toString y)) := by
  unfold badG; rw [if_pos h]
theorem gW (h1 : 1 ≤ y) (h2 : y ≤ 9999) (h3 : ¬ WeekOk y w) : badG y w d = some (PySem.Str.empty ++ PySem.Str.ofString "Invalid week: " ++ PySem.Str.ofString (toString w)) := by
  unfold badG; rw [if_neg (fun h => h ⟨h1, h2⟩), if_pos h3]
theorem gD (h1 : 1 ≤ y) (h2 : y ≤ 9999) (h3 : WeekOk y w) (h4 : ¬ (0 < d ∧ d < 8)) : badG y w d = some (PySem.Str.empty ++ PySem.Str.ofString "Invalid weekday: " ++ PySem.Str.ofString (toString d) ++ PySem.Str.ofString " (range is [1, 7])") := by
  unfold badG; rw [if_neg (fun h => h ⟨h1, h2⟩), if_neg (fun h => h h3), if_pos h4]
end

end Mine
end
section
namespace Mine
/-- a list that is the date of the ordinal n -/
def IsLst (n : Int) (o : Obj) : Prop := ∃ (y m d : Int) (ty tm td : Tok) (k : Nat), o = W.listOf #[.int y ty, .int m tm, .int d td] k ∧ 1 ≤ m ∧ m ≤ 12 ∧ 1 ≤ d ∧ d ≤ dimI y m ∧ dbyI y + dbmI y m + d = n
/-- a list of these three -/
def IsLst3 (y m d : Int) (o : Obj) : Prop := ∃ (ty tm td : Tok) (k : Nat), o = W.listOf #[.int y ty, .int m tm, .int d td] k
end Mine
end
section
namespace Mine
def ylI (y : Int) : Int := 365 + if leapB y = true then 1 else 0
theorem div_up4 (y : Int) : y / 4 = (y - 1) / 4 + if y % 4 = 0 then 1 else 0 := by split <;> omega
theorem div_up100 (y : Int) : y / 100 = (y - 1) / 100 + if y % 100 = 0 then 1 else 0 := by split <;> omega
theorem div_up400 (y : Int) : y / 400 = (y - 1) / 400 + if y % 400 = 0 then 1 else 0 := by split <;> omega
theorem leap_sum (y : Int) : (if y % 4 = 0 then (1 : Int) else 0) - (if y % 100 = 0 then 1 else 0) + (if y % 400 = 0 then 1 else 0) = if leapB y = true then 1 else 0 := by
  by_cases h4 : y % 4 = 0
  · by_cases h1 : y % 100 = 0
    · by_cases h2 : y % 400 = 0
      · rw [if_pos h4, if_pos h1, if_pos h2, if_pos ((leap_iff y).mpr ⟨h4, .inr h2⟩)]; rfl
      · rw [if_pos h4, if_pos h1, if_neg h2, if_neg fun q => ((leap_iff y).mp q).2.elim (fun z => z h1) h2]; rfl
    · rw [if_pos h4, if_neg h1, if_neg (fun z => h1 (by omega)), if_pos ((leap_iff y).mpr ⟨h4, .inl h1⟩)]; rfl
  · rw [if_neg h4, if_neg (fun z => h4 (by omega)), if_neg (fun z => h4 (by omega)), if_neg fun q => h4 ((leap_iff y).mp q).1]; rfl
theorem dby_succ (y : Int) : dbyI (y + 1) = dbyI y + ylI y := by
  unfold dbyI ylI
  rw [Int.add_sub_cancel, ← leap_sum y, div_up4 y, div_up100 y, div_up400 y]
  generalize (if y % 4 = 0 then (1 : Int) else 0) = A
  generalize (if y % 100 = 0 then (1 : Int) else 0) = B
  generalize (if y % 400 = 0 then (1 : Int) else 0) = C
  generalize (y - 1) / 4 = D
  generalize (y - 1) / 100 = F
  generalize (y - 1) / 400 = G
  omega
/-- a day's number -/
def ordI (y m d : Int) : Int := dbyI y + dbmI y m + d
theorem dbm_tab0 : ∀ (a : Fin 13) (lp : Bool), 1 ≤ a.val →
    0 ≤ (([-1, 0, 31, 59, 90, 120, 151, 181, 212, 243, 273, 304, 334] : List Int).getD a.val 0 + if 2 < (a.val : Int) ∧ lp = true then 1 else 0) ∧
    (([-1, 0, 31, 59, 90, 120, 151, 181, 212, 243, 273, 304, 334] : List Int).getD a.val 0 + if 2 < (a.val : Int) ∧ lp = true then 1 else 0) + (if (a.val : Int) = 2 ∧ lp = true then 29 else ([-1, 31, 28, 31, 30, 31, 30, 31, 31, 30, 31, 30, 31] : List Int).getD a.val 0) ≤ 365 + (if lp = true then 1 else 0) := by decide +kernel
theorem dbm_bound {y m d : Int} (h0 : 1 ≤ m) (h1 : m ≤ 12) (h2 : 1 ≤ d) (h3 : d ≤ dimI y m) : 0 ≤ dbmI y m ∧ dbmI y m + d ≤ ylI y := by
  have t := dbm_tab0 ⟨m.toNat, by omega⟩ (leapB y) (by show 1 ≤ m.toNat; omega)
  have e1 : ((m.toNat : Nat) : Int) = m := by omega
  simp only [e1] at t
  have t' : 0 ≤ dbmI y m ∧ dbmI y m + dimI y m ≤ ylI y := t
  exact ⟨t'.1, by have := t'.2; omega⟩
end Mine
end
section
namespace Mine
theorem len_y {y : Int} : (if y % 16 = 0 ∨ y % 4 = 0 ∧ y % 25 ≠ 0 then (366 : Int) else 365) = ylI y := by
  unfold ylI
  by_cases h : leapB y = true
  · have h' := (leap_iff y).mp h
    rw [if_pos h, if_pos (by omega)]; rfl
  · have h' : ¬ (y % 4 = 0 ∧ (y % 100 ≠ 0 ∨ y % 400 = 0)) := fun q => h ((leap_iff y).mpr q)
    rw [if_neg h, if_neg (by omega)]; rfl
theorem fmp (y : Int) : y.fmod 16 = y % 16 ∧ y.fmod 4 = y % 4 ∧ y.fmod 25 = y % 25 := ⟨Int.fmod_eq_emod_of_nonneg _ (by decide), Int.fmod_eq_emod_of_nonneg _ (by decide), Int.fmod_eq_emod_of_nonneg _ (by decide)⟩
theorem len_a {y : Int} (h : y.fmod 16 = 0) : 366 = ylI y := by rw [← len_y, (fmp y).1.symm, if_pos (.inl h)]
theorem len_b {y : Int} (h : y.fmod 4 = 0) (h' : y.fmod 25 ≠ 0) : 366 = ylI y := by rw [← len_y, if_pos (.inr ⟨(fmp y).2.1 ▸ h, (fmp y).2.2 ▸ h'⟩)]
theorem len_c {y : Int} (h : y.fmod 16 ≠ 0) (h' : y.fmod 25 = 0) : 365 = ylI y := by
  have := fmp y
  rw [← len_y, if_neg (by omega)]
theorem len_d {y : Int} (h : y.fmod 4 ≠ 0) : 365 = ylI y := by
  have := fmp y
  rw [← len_y, if_neg (by omega)]
set_option maxHeartbeats 16000000 in
theorem c_length (w : World) (mean : ExcName → Option Value) (mg mb : Str → Option Value) (y : Int) (t : Tok) : C w mean mg mb 108 2 8 [.int y t] (cInt (ylI y)) := by
  w_top off
  k_with_none
  unfold C Ctr; k_fill
  intro dp un gd cn cs a ccd cl outer A₀ base h₀ L m news s Q E B F X N T hk hd hu hret
  have D0 : KtsDicts [] h₀ := ktsDicts_nil
  refine wpAny_call ?_
  k_dflt cell_enter
  (refine tk_any ?_; intro tk0)
  rename Fr _ _ _ _ => F'
  (refine fr_in1 (PySem.Str.ofString "year") F' (by with_unfolding_all exact rfl) ?_; clear F'; intro m0 F')
  k_steps
  all_goals (try k_data)
  all_goals (refine' endI (Q := Q) (s := s) hret ?e ?F ?N ?S; (case F => k_asm); (case N => k_asm); (case S => kcj_all); (case e => (first | exact len_a (by assumption) | exact len_b (by assumption) (by assumption) | exact len_c (by assumption) (by assumption) | exact len_d (by assumption))))
end Mine
end
section
open PySem PySem.W PyProof.Rows PySem.Spec PySem.Calls
namespace Mine
theorem caller_claimed (q : Pos) : Claimed [((Code.builtin "claim.caller" {}), q)] := rfl
/-- the claim's own thread ends as the tree does -/
theorem threadK {prog : Program} {w : World} {t : Sem Fin} {s : Shared} {R : Result → Shared → Prop} (hz : s.asleep)
    (h : wpK (model prog w) callerA t (fun fin s' => ∃ f, fin = .done f ∧ R (.ok f) s' ∧ leftWithCleanup s'.gens = false) (fun e s' => R (.error e) s' ∧ leftWithCleanup s'.gens = false) s) :
    ∃ n r s' s'', runN (denote table) prog w n s ⟨t, .builtin "claim.caller" {}, default, []⟩ = .halted (outcomeOf r) s' ∧
      schedN (denote table) prog w n (.single s ⟨t, .builtin "claim.caller" {}, default, []⟩) = .halted (outcomeOf r) s' ∧ s'.forget = s''.forget ∧ R r s'' := by
  have h₀ := h ⟨.builtin "claim.caller" {}, none, none, [], none⟩ default caller_in caller_claimed
  have h₁ : Sem.wp (model prog w) ⟨.builtin "claim.caller" {}, none, none, [], none⟩ t (Sem.finPost (model prog w) ⟨.builtin "claim.caller" {}, none, none, [], none⟩ fun r s' => R r s' ∧ leftWithCleanup s'.gens = false)
      (fun e _ s' => R (.error e) s' ∧ leftWithCleanup s'.gens = false) default s := by
    refine Sem.wp_mono _ _ t (fun fin p' s' h' => ?_) (fun _ _ _ h' => h') default s h₀
    obtain ⟨f, rfl, hf⟩ := h'
    exact hf
  obtain ⟨n, r, s₁, s₂, hs, hn, hfo, hR⟩ := wp_halts_full (M := model prog w) hz h₁
  exact ⟨n, r, s₂, s₁, hn, hs, hfo, hR⟩
/-- what the law's call owes, in the contexts of the claim -/
abbrev WalkK (q : Program) (loose : List Str) (XP : (Str → Option Value) → Heap → Prop) (YP : World → Heap → Prop) (r : RowW) (d : DefRec) (kwd : List (Str × Expr)) : Prop :=
  ∀ (w : World) (s₀ s₁ : Shared) (mg mb : Str → Option Value), Ground q loose r.records XP w s₀ mg mb s₁.heap → YP w s₁.heap → ∀ (a : Addr) (o : Obj) (pm cd doc dV kV : Value), s₁.heap.get? a = some o →
    o.data = .func { docDef d.name d.params d.body d.scope pm cd doc with defaults := dV, kwdefaults := kV } → s₁.heap.CodeRec cd d.name → Dflts mg s₁.heap d.params kwd dV kV → mg d.name = some (.ref a) → s₁.gens = #[] →
    ∀ (args : List WData) (vals : List Value) (as : List Addr), r.claim.pre args = true → WData.layableAll args = true → ReadsAllW r.records (classAt s₀.heap) s₁.heap vals args as → WellAll w.params s₁.heap vals args → (∀ a ∈ as, (a == sysModules) = false) →
      wpK (model r.prog w) callerA (PySem.call (.ref a) vals) (fun v s' => GoodWG r.claim (classAt s₀.heap) (ExcName.means s₀.heap) args s₁ (.ok (.ret v)) s')
        (fun e s' => GoodWG r.claim (classAt s₀.heap) (ExcName.means s₀.heap) args s₁ (.error e) s') s₁
theorem callK {c : ClaimW} {tree : List Value → Sem Fin} {w : World} {s : Shared} {free : Addr → Prop} {gens : Prop} {kept : Heap → Prop} (hz : s.asleep) (hg : s.gens = #[])
    (h : ∀ args, c.pre args = true → WData.layableAll args = true → ∀ ord : List DictEntry → List DictEntry, (∀ l, (ord l).Perm l) →
      ∃ vs s₁, layAllW c.records (classAt s.heap) w.params ord args s = some (vs, s₁) ∧
        wpK (model c.prog w) callerA (tree vs) (fun fin s' => ∃ f, fin = .done f ∧ (c.Ends s args vs s₁ (.ok f) s' ∧ s'.os = s.os ∧ kept s'.heap) ∧ AllBare s'.gens)
          (fun e s' => (c.Ends s args vs s₁ (.error e) s' ∧ s'.os = s.os ∧ kept s'.heap) ∧ AllBare s'.gens) s₁) :
    c.CallFrom (fun vs => ⟨tree vs, .builtin "claim.caller" {}, default, []⟩) w free gens kept s := fun args hp hl ord ho => by
  obtain ⟨vs, s₁, laid, hk⟩ := h args hp hl ord ho
  obtain ⟨_, _, _, al⟩ := layAllW_rest _ _ _ laid
  have th := threadK (R := fun r s' => c.Ends s args vs s₁ r s' ∧ s'.os = s.os ∧ kept s'.heap) (Shared.asleep_of_life al hz)
    (hk.mono (fun _ _ ⟨f, e, a, b⟩ => ⟨f, e, a, leftWithCleanup_false_of_bare b⟩) fun _ _ ⟨a, b⟩ => ⟨a, leftWithCleanup_false_of_bare b⟩)
  obtain ⟨n, r, s', s'', run, sched, same, ends, os, kp⟩ := th
  obtain ⟨eh, _, _, eo, _⟩ := Shared.forget_eq same
  have lf : s'.heap.life = s.heap.life := (runN_life _ _ _ run).trans al
  refine ⟨vs, s₁, laid, n, _, s', sched, ?_, fun _ _ _ hx => absurd hx (by rw [hg]; simp), eh ▸ kp, by rw [lf], Shared.rest_eq (eo ▸ os)⟩
  rcases ends.congr eh with ⟨v, rfl, a1, a2, a3, a4, a5⟩ | ⟨e, ob, cls, rfl, a1, a2, a3, a4, a5⟩
  · exact .inl ⟨v, rfl, a1, a2, a3, fun b o y _ => a4 b o y, a5⟩
  · exact .inr ⟨e, ob, cls, rfl, a1, a2, a3, a4, fun b o y _ => a5 b o y⟩
/-- the head, for a law whose call is walked in the contexts of the claim alone -/
theorem holdsK {r : OpenRow} {q : Program} {loose : List Str} {Xt : Shared → Bool} {XP : (Str → Option Value) → Heap → Prop} {α : Type} {Yf : Shared → α} {Ya : World → α} {YP : World → Heap → Prop} {d : DefRec} {kwd : List (Str × Expr)} {N : Nat}
    (left : LeftO r.prog q loose Xt Yf Ya N) (hY : ∀ w s, Yf s = Ya w → YP w s.heap) (hYk : ∀ w h h', YP w h → (∀ b o, h.get? b = some o → h'.get? b = some o) → YP w h')
    (hX : ∀ s, Xt s = true → XP (s.heap.nsMap mainGlobals) s.heap) (hXk : ∀ mg h h', XP mg h → (∀ b o, h.get? b = some o → h'.get? b = some o) → XP mg h')
    (hdef : defOf q r.name = some (d, kwd)) (hp : r.prog.theDef r.name = some (d.params, d.body, d.scope)) (hk : kwWritten? d.params.kwonlyargs d.params.kw_defaults = some kwd) (hRf : ∀ s, Xt s = true → RecFacts r.records s.heap) (hwr : (!r.writes || r.records.isEmpty) = true)
    (k1 : r.wellSaid = true) (ok1 : chainsOk q = true) (ok2 : opensWell r.prog = true) (ok3 : frees r.toRowW = true) (ok4 : r.within.isEmpty = true) (hb : r.prog.bare) (hw : r.toRowW.promised)
    (call : WalkK q loose XP YP r.toRowW d kwd) : r.Holds := by
  obtain ⟨f1, f2, f3, f4, f5⟩ := frees_parts ok3
  refine ⟨k1, hw, ⟨⟨hb, ok2, by show r.toRowW.makers.map _ = []; rw [f5]; rfl⟩, hw.witness, fun w => ⟨(left.behind hX ok1 w).1, fun z hz => ?_⟩⟩⟩
  obtain ⟨s₀, e1, e2, s, T, sl, g0, ns, G, y⟩ := (left.behind (XP := fun mg h => XP mg h ∧ RecFacts r.records h) (fun s hs => ⟨hX s hs, hRf s hs⟩) ok1 w).2 z hz
  have G0 : Ground q loose [] XP w s (s.heap.nsMap mainGlobals) (s.heap.nsMap builtinsNs) s.heap := ⟨G.T, G.B, G.D, G.TE, G.TD, G.W, G.X.1, G.cls, G.has, G.apart, G.once, G.K⟩
  have R := G.X.2
  have T' := T
  have g0 : s.gens = #[] := Array.eq_empty_of_size_eq_zero (beq_iff_eq.mp g0)
  have GR : Ground q loose r.records XP w s _ _ s.heap := R.ground G0
  refine ⟨s₀, e1, e2, s, T, fun n hn => ?_, R.1, R.2.1, callK (c := r.toRowW.claim) sl g0 fun args hpre hlay ord hord => ?_⟩
  · obtain rfl : n = r.name := by split at hn <;> simp_all
    exact pinned_of_view ns G0 hdef hp hk
  · obtain ⟨⟨vs, s₁⟩, laid⟩ := Option.isSome_iff_exists.mp (layAllW_isSome (P := w.params) (ord := ord) GR.has args r.args s (pre_splitW hpre).1)
    have up := layAllW_keeps _ _ _ laid
    have al := layAllW_rest _ _ _ laid
    obtain ⟨as, rd, inn, old⟩ := reads_layAllW hord _ _ _ laid hlay s₁.heap (fun _ _ e => e)
    have L : Laid r.toRowW.records w s s₁ args vs as := ⟨⟨ord, hord, laid⟩, rd, inn, old, up, al.1.trans g0, al.2.2.1⟩
    have G₁ := GR.keeps hXk up
    obtain ⟨a, o, pm, cd, doc, dV, kV, h1, h2, h3, h4, h5⟩ := G₁.fn hdef
    have body := call w s s₁ _ _ G₁ (hYk _ _ _ (hY w s y) up) a o pm cd doc dV kV h2 h3 h4 h5 (defOf_name hdef ▸ h1) L.gens args vs as hpre hlay L.reads L.well (L.low GR.low)
    refine ⟨vs, s₁, laid, wpK.first (wpAny_nsGet G₁.T.g ?_)⟩
    rw [h1]
    have ends (x : Result) (s' : Shared) (g : GoodWG r.toRowW.claim (classAt s.heap) (ExcName.means s.heap) args s₁ x s') := g.laid (c := r.toRowW.claim) f1 (List.isEmpty_iff.mp ok4) (ident_freeW f2 f3 f4) L
    refine wpK.bind (body.mono (fun v s' g => wpK.of (wpAny_pure ⟨_, rfl, ⟨(ends _ _ g).1, (ends _ _ g).2.1, fun qw => ⟨namesKept_of T' ns _ up g.2.1.old, noTable hwr qw⟩⟩, (ends _ _ g).2.2⟩)) fun e s' g => ⟨⟨(ends _ _ g).1, (ends _ _ g).2.1, fun qw => ⟨namesKept_of T' ns _ up g.2.1.old, noTable hwr qw⟩⟩, (ends _ _ g).2.2⟩)
end Mine
end
section
open PySem PySem.W PyProof.Rows PySem.Spec PySem.Calls
namespace Mine
section
variable {α β : Type} {M : Model} {A : Around} {E : Value → Shared → Prop} {s : Shared} {env : Env}
theorem wpK.attempt {m : Sem α} {Q : Except Value α → Shared → Prop} (h : wpK M A m (fun a => Q (.ok a)) (fun e => Q (.error e)) s) : wpK M A m.attempt Q E s := fun Γ p hΓ hc => by
  rw [Sem.wp_attempt]; exact h Γ p hΓ hc
theorem wpK.holding {vs : List Value} {m : Sem α} {Q : α → Shared → Prop} (h : wpK M A m Q E s) : wpK M A (PySem.holding vs m) Q E s := fun Γ p hΓ hc => by
  rw [Sem.wp_holding]; exact h Γ p hΓ hc
theorem wpK.keep {vs : List Value} {m : Sem α} {Q : α → Shared → Prop} (h : wpK M A m Q E s) : wpK M A (m.keep vs) Q E s := fun Γ p hΓ hc => by
  rw [Sem.wp_keep]; exact h Γ p hΓ hc
theorem wpK.pure {a : α} {Q : α → Shared → Prop} (h : Q a s) : wpK M A (Pure.pure a) Q E s := wpK.of (wpAny_pure h)
theorem wpK.standAt {pos : Pos} {f : Unit → Sem α} {Q : α → Shared → Prop} (h : wpK M A (f ()) Q E s) : wpK M A (PySem.standAt pos >>= f) Q E s := wpK.first (wpAny_standAt h)
theorem wpK.run {c : Code} {h : Option Value} {Q : Flow → Shared → Prop} (hc : codeK M (A.mark h) c (fun r s' => match r with | .ok f => Q f s' | .error e => E e s') s) (hnb : h ≠ some byPass := by intro x; cases x) : wpK M A (PySem.run c h) Q E s := fun Γ p hΓ hk => by
  rw [Sem.wp_run]; exact hc _ p rfl (hΓ.enter c h p hnb) (hk p)
theorem wpK.runOwn {c : Code} {h : Option Value} {Q : Flow → Shared → Prop} (hc : codeK M (A.mark h) c (fun r s' => match r with | .ok f => Q f s' | .error e => cameBackBy M A env E e s') s) (hnb : h ≠ some byPass := by intro x; cases x) : wpK M A (PySem.runOwn c env h) Q E s := by
  unfold PySem.runOwn
  exact wpK.onRaise (wpK.run hc hnb)
/-- a block, its first statement in the contexts of the claim -/
theorem execsK {st : Stmt} {rest : List Stmt} {Q : Flow → Shared → Prop} (h : wpK M A (exec st env) (fun f s' => match f with | .next => wpK M A (execs rest env) Q E s' | f => Q f s') E s) : wpK M A (execs (st :: rest) env) Q E s := by
  rw [execs_cons]
  refine wpK.bind (h.mono (fun f s' hf => ?_) fun _ _ e => e)
  cases f <;> first | exact hf | exact wpK.pure hf
/-- a block, its first statement in every context -/
theorem execsA {st : Stmt} {rest : List Stmt} {Q : Flow → Shared → Prop} (h : wpAny M A (exec st env) (fun f s' => match f with | .next => wpK M A (execs rest env) Q E s' | f => Q f s') E s) : wpK M A (execs (st :: rest) env) Q E s := execsK (wpK.of h)
theorem assignK {x : Str} {pos' pos : Pos} {value : Expr} {Q : Flow → Shared → Prop} (h : wpK M A (eval value env) (fun v s₁ => wpAny M A (storeName env x v) (fun _ => Q .next) E s₁) E s)
    (hs : swapsWith value (some (.Name x pos')) pos.line env = Pure.pure false := by rfl) : wpK M A (exec (.Assign [.Name x pos'] value pos) env) Q E s := fun Γ p hΓ hc => by
  simp only [exec_Assign_Name env x pos' value pos hs, Sem.wp_bind', Sem.wp_cmd_standAt, Sem.wp_bindName, Sem.wp_pure']
  exact Sem.wp_mono M Γ _ (fun v _ s₁ h₁ => h₁ Γ _ hΓ) (fun _ _ _ h' => h') _ _ (h Γ _ hΓ hc)
theorem tryK {body orelse : List Stmt} {h₀ : ExceptHandler} {hs : List ExceptHandler} {pos : Pos} {Q : Flow → Shared → Prop}
    (h : wpK M A (execs body env) (fun f s₁ => match f with | .next => wpK M A (execs orelse env) Q E s₁ | f => Q f s₁)
      (fun e s₁ => wpAny M A (noteFrame e env) (fun _ s₂ => wpAny M A (setFlight e none) (fun _ s₃ => wpK M A (handleBy e env (h₀ :: hs)) Q E s₃) E s₂) E s₁) s) :
    wpK M A (exec (.Try body (h₀ :: hs) orelse [] pos) env) Q E s := by
  rw [arm_exec_Try]
  refine wpK.standAt ?_
  unfold tryStmt
  simp only [List.isEmpty_nil, if_true, List.isEmpty_cons, Bool.false_and, Bool.false_eq_true, if_false]
  refine wpK.bind (wpK.attempt (h.mono (fun f s₁ h₁ => ?_) fun e s₁ h₁ => ?_))
  · cases f <;> first | exact h₁ | exact wpK.pure h₁
  · exact wpK.first (wpAny_mono h₁ (fun _ _ h₂ => wpK.first h₂) fun _ _ x => x)
theorem callEvalK {func : Expr} {args : List Expr} {pos : Pos} {Q : Value → Shared → Prop}
    (h : wpAny M A (eval func env) (fun f s₁ => wpK M A (callWith pos f [] (backTo pos (starEach args env)) []) Q E s₁) E s)
    (he : eval (.Call func args [] pos) env = (do callWith pos (← eval func env) [] (backTo pos (starEach args env)) (backToKw pos (keywordEach [] env))) := by rfl) : wpK M A (eval (.Call func args [] pos) env) Q E s := by
  rw [he]; exact wpK.first h
theorem callWithK_fn {pos : Pos} {a : Addr} {a₀ : Sem Value} {args : List (Bool × Sem Value)} {Q : Value → Shared → Prop} (hp : args.any (·.1) = false)
    (h : wpAny M A (spliced ((false, a₀) :: args)) (fun vs s₁ => (∃ o fd, s₁.heap.get? a = some o ∧ o.data = .func fd) ∧ wpK M A (call (.ref a) vs) Q E s₁) E s) : wpK M A (callWith pos (.ref a) [] ((false, a₀) :: args) []) Q E s := by
  unfold callWith
  refine wpK.first (wpAny_holding (evalArgs_plain (wpAny_mono h (fun vs s₁ h₁ => wpK.standAt ?_) fun _ _ x => x)))
  obtain ⟨⟨o, fd, ho, hd⟩, hc⟩ := h₁
  have tail {t : Sem Value} (ht : wpK M A t Q E s₁) : wpK M A (t >>= fun r => PySem.holding [r] point >>= fun _ => Pure.pure r) Q E s₁ :=
    wpK.bind (ht.mono (fun r s₂ hr => wpK.of (wpAny_bind (wpAny_holding (wpAny_point (wpAny_pure hr))))) fun _ _ x => x)
  simp only [List.any_cons, hp, List.any_nil, Bool.or_false]
  refine wpK.first (m := keeperOf (.ref a)) ?_
  unfold keeperOf
  refine wpAny_bind (wpAny_load ho ?_)
  rw [hd]
  refine wpAny_pure ?_
  split
  all_goals first | exact tail hc | exact tail (by unfold callMarked; exact wpK.keep hc) | (split <;> first | exact tail hc | exact tail (by unfold callMarked; exact wpK.keep hc))
theorem callWithK_type {pos : Pos} {T : String} {a₀ : Sem Value} {args : List (Bool × Sem Value)} {Q : Value → Shared → Prop} (hp : args.any (·.1) = false)
    (h : wpAny M A (spliced ((false, a₀) :: args)) (fun vs s₁ => wpK M A (call (.type T) vs) Q E s₁) E s) : wpK M A (callWith pos (.type T) [] ((false, a₀) :: args) []) Q E s := by
  unfold callWith
  refine wpK.first (wpAny_holding (evalArgs_plain (wpAny_mono h (fun vs s₁ h₁ => wpK.standAt ?_) fun _ _ x => x)))
  simp only [List.any_cons, hp, List.any_nil, Bool.or_false]
  refine wpK.first (wpAny_pure ?_)
  exact wpK.bind (h₁.mono (fun r s₂ hr => wpK.of (wpAny_bind (wpAny_holding (wpAny_point (wpAny_pure hr))))) fun _ _ x => x)
end
end Mine
end
section
open PySem PySem.W PyProof.Rows PySem.Spec PySem.Calls
namespace Mine
section
variable {prog : Program} {w : World} {A₀ : Around} {E : Value → Shared → Prop} {s' : Shared} {base g g₀ G : Heap} {outer : List Env} {L a e t : Addr} {m : Str → Option Value} {name : Str} {scope : Scope} {cd : Value}
  {vs : List Value} {n : Str} {b₀ : Stmt} {suite : List Stmt} {pos np : Pos} {rest : List ExceptHandler} {Q : Flow → Shared → Prop} {news : List (Addr × Obj)} {KF : Frag}
  {p : Program} {loose : List Str} {mean : ExcName → Option Value} {mg mb : Str → Option Value}
/-- what was caught: its texts lie in the ledger, behind all that was made before -/
def Caught (vs : List Value) (o : Obj) : Prop := o.cls = .type "tuple" ∧ ∃ n, o.data = .seq vs.toArray n
end
end Mine
end
section
open PySem PySem.W PyProof.Rows PySem.Spec PySem.Calls
namespace Mine
section
variable {prog : Program} {w : World} {A : Around} {s : Shared} {R : Result → Shared → Prop}
theorem wpK.noted {α : Type} {E : Value → Shared → Prop} {env : Env} {m : Sem α} {Q : α → Shared → Prop} (h : wpK (model prog w) A m Q (notedBy (model prog w) A env E) s) : wpK (model prog w) A (m.onRaise fun x => do noteFrame x env; theTreesLotGoes x) Q E s :=
  wpK.onRaise (h.mono (fun _ _ q => q) fun _ _ hx => wpAny_bind (wpAny_mono hx (fun _ _ e => wpAny_theTreesLotGoes e) fun _ _ e => e))
theorem funcK {body : List Stmt} {env : Env}
    (h : wpK (model prog w) (A.deeper env) (execs body env) (fun f s' => R (.ok (.ret (match f with | .ret v => v | _ => .none))) s')
      (fun e s' => wpAny (model prog w) (A.deeper env) (leaving env e) (fun _ s'' => R (.error e) s'') (fun e' s'' => R (.error e') s'') s') s) : codeK (model prog w) A (.func body env) R s := by
  refine codeK.tree ?_
  show wpK _ (A.deeper env) (do point; match ← (execs body env).onRaise (leaving env) with | .ret v => ret v | _ => ret .none) _ _ s
  refine wpK.first (wpAny_point ?_)
  refine wpK.bind ?_
  intro Γ p hΓ hc
  rw [Sem.wp_onRaise]
  refine Sem.wp_mono _ Γ _ (fun f p' s' h' => ?_) (fun e p' s' h' => h' Γ p' hΓ) p s (h Γ p hΓ hc)
  cases f <;> exact wpK.pure h'
theorem callFunctionK {a : Addr} {args : Args} {o : Obj} {fd : FuncData} {body : List Stmt} (hroom : A.depth < recursionLimit)
    (ho : s.heap.get? a = some o) (hd' : o.data = .func fd) (hco : fd.scope.isCoroutine = false) (hgen : fd.scope.isGenerator = false) (hbody : fd.body = .stmts body) (hcd : s.heap.CodeRec fd.code fd.qualname)
    (h : wpAny (model prog w) A.in1 (bindArgs fd args) (fun binds s₁ =>
      wpAny (model prog w) A.in1 (newFunctionEnv fd.scope fd.globals fd.closure binds (fd.qualname ++ ".<locals>.") (some a) fd.code none fd.builtins)
        (fun env s₂ => s₂.heap.NoLimit ∧ codeK (model prog w) A (.func body env) R s₂) (fun e s' => R (.error e) s') s₁) (fun e s' => R (.error e) s') s) :
    codeK (model prog w) A (.call (.ref a) args) R s := by
  refine codeK.tree ?_
  show wpK _ A.in1 (callAny (.ref a) args) _ _ s
  simp only [callAny]
  refine wpK.first (wpAny_load ho ?_)
  obtain ⟨c, oc, vs, tq, hc, hoc, hdc, hq⟩ := hcd
  simp only [hd', callFunction, hco, hgen, hbody, hc]
  rw [hc] at h
  refine wpK.first (m := field (.ref c) 1) (wpAny_field hoc hdc hq (wpK.first (wpAny_pure ?_)))
  exact wpK.first (wpAny_mono h (fun binds s₁ h₁ => wpK.first (wpAny_mono h₁ (fun env s₂ h₂ => wpK.first (wpAny_enterFrame h₂.1 hroom
    (wpK.pure (And.intro rfl h₂.2)))) fun _ _ h' => h')) fun _ _ h' => h')
theorem callDefK {a : Addr} {o : Obj} {fd : FuncData} {body : List Stmt} {args : Args} {binds : List (Str × Value)}
    (hroom : A.depth < recursionLimit) (ho : s.heap.get? a = some o) (hdata : o.data = .func fd) (hlim : s.heap.NoLimit) (hcd : s.heap.CodeRec fd.code fd.qualname)
    (hbody : fd.body = .stmts body) (hbind : BindsTo s fd args binds)
    (hcell : ∀ x ∈ fd.scope.names, x.2 ≠ .cell) (hloc : ∀ x ∈ binds, fd.scope.names.lookup x.1 = some .local)
    (h : ∀ h₀, h₀.Ns s.heap.objs.size (fun x => binds.reverse.lookup x) → (∀ b o, s.heap.get? b = some o → h₀.get? b = some o) →
      wpK (model prog w) (A.deeper (callEnv fd s.heap.objs.size a)) (execs body (callEnv fd s.heap.objs.size a)) (fun f s' => R (.ok (.ret (match f with | .ret v => v | _ => .none))) s')
        (fun e s' => wpAny (model prog w) (A.deeper (callEnv fd s.heap.objs.size a)) (leaving (callEnv fd s.heap.objs.size a) e) (fun _ s'' => R (.error e) s'') (fun e' s'' => R (.error e') s'') s')
        { s with heap := h₀, toks := s.toks + binds.length })
    (hco : fd.scope.isCoroutine = false := by rfl) (hgen : fd.scope.isGenerator = false := by rfl) (hk : fd.scope.kind = .function := by rfl) :
    codeK (model prog w) A (.call (.ref a) args) R s := by
  refine callFunctionK hroom ho hdata hco hgen hbody hcd (hbind _ _ _ _ ?_)
  refine wpAny_newFunctionEnv hcell hloc (fun h₀ hns₀ hsb₀ => ⟨hlim.fresh _ hsb₀, funcK (h h₀ hns₀ fun b o e => ?_)⟩) hk
  exact hsb₀.extBut b o (Nat.ne_of_lt (Heap.lt_size e)) (Heap.get?_push_of_some _ e)
/-- a for loop, its turns in the contexts of the claim -/
theorem forLoopK {target : Expr} {it : Value} {body : List Stmt} {env : Env} (I : Nat → Shared → Prop)
    (turn : ∀ n s, I n s → wpAny (model prog w) A (pyNext it) (fun r s₁ => match r with
      | none => R (.ok .next) s₁
      | some v => wpAny (model prog w) A (letOwnedTupleGo target it v) (fun _ s₁' => wpAny (model prog w) A (assign target env v) (fun _ s₂ => wpK (model prog w) A (execs body env) (fun f s₃ => match f with
          | .next | .cont => ∃ m, m < n ∧ I m s₃
          | .brk => R (.ok .next) s₃
          | .ret v => R (.ok (.ret v)) s₃) (notedBy (model prog w) A env fun e s' => R (.error e) s') s₂) (notedBy (model prog w) A env fun e s' => R (.error e) s') s₁') (notedBy (model prog w) A env fun e s' => R (.error e) s') s₁) (notedBy (model prog w) A env fun e s' => R (.error e) s') s)
    (n : Nat) (h : I n s) : codeK (model prog w) A (.forLoop target it body [] env) R s := by
  induction n using Nat.strongRecOn generalizing s with
  | ind n ih =>
    refine codeK.tree ?_
    show wpK _ A ((forTurn target it body [] env).onRaise (fun x => do noteFrame x env; theTreesLotGoes x)) _ _ s
    refine wpK.noted ?_
    simp only [forTurn]
    refine wpK.standAt (wpK.first (wpAny_onRaise (wpAny_mono (turn n s h) (fun r s₁ h₁ => ?_) fun _ _ h' => wpAny_standAt h')))
    cases r with
    | none => exact wpK.pure ⟨rfl, codeK.of (codeAny_block (wpAny_execs_nil h₁))⟩
    | some v =>
      refine wpK.first (wpAny_mono h₁ (fun _ s₁' h₁' => wpK.first (wpAny_mono h₁' (fun _ s₂ h₂ => wpK.bind (h₂.mono (fun f s₃ h₃ => ?_) fun _ _ h' => h')) fun _ _ h' => h')) fun _ _ h' => h')
      cases f with
      | next => obtain ⟨m, hm, hI⟩ := h₃; exact wpK.pure ⟨rfl, ih m hm hI⟩
      | cont => obtain ⟨m, hm, hI⟩ := h₃; exact wpK.pure ⟨rfl, ih m hm hI⟩
      | brk => exact wpK.pure h₃
      | ret v => exact wpK.pure h₃
theorem forK {target iter : Expr} {body : List Stmt} {pos : Pos} {env : Env} {E : Value → Shared → Prop} {Q : Flow → Shared → Prop}
    (h : wpAny (model prog w) A (eval iter env) (fun x s₁ => wpAny (model prog w) A (pyIter x) (fun it s₂ =>
      codeK (model prog w) A (.forLoop target it body [] env) (fun r s' => match r with | .ok f => Q f s' | .error e => cameBackBy (model prog w) A env E e s') s₂) E s₁) E s)
    (hs : ∀ x, foldedSetIterable iter env x = pure x := by intro _; rfl) : wpK (model prog w) A (exec (.For target iter body [] pos) env) Q E s := by
  rw [exec_For]
  refine wpK.standAt (wpK.first (wpAny_mono h (fun x s₁ h₁ => ?_) fun _ _ e => e))
  rw [hs x]
  refine wpK.first (wpAny_pure (wpK.standAt (wpK.first (wpAny_holding (wpAny_mono h₁ (fun it s₂ h₂ => wpK.runOwn h₂) fun _ _ e => e)))))
end
end Mine
end
section
open PySem PySem.W PyProof.Rows PySem.Spec PySem.Calls PySem.NumText
namespace Mine
theorem wpK.iteT {α : Type} {M : Model} {A : Around} {E : Value → Shared → Prop} {s : Shared} {c : Prop} [Decidable c] {a b : Sem α} {Q : α → Shared → Prop} (hc : c) (h : wpK M A a Q E s) : wpK M A (if c then a else b) Q E s := by rw [if_pos hc]; exact h
theorem wpK.iteF {α : Type} {M : Model} {A : Around} {E : Value → Shared → Prop} {s : Shared} {c : Prop} [Decidable c] {a b : Sem α} {Q : α → Shared → Prop} (hc : ¬ c) (h : wpK M A b Q E s) : wpK M A (if c then a else b) Q E s := by rw [if_neg hc]; exact h
/-- the words of int()'s refusal -/
abbrev badInt (x : PySem.Str) : PySem.Str := PySem.Str.ofString (toString "invalid literal for int() with base " ++ toString (10 : Nat) ++ toString ": ") ++ (⟨(reprText x).cps.extract 0 200⟩ : PySem.Str)
section
variable {prog : Program} {w : World} {A : Around} {s : Shared} {E : Value → Shared → Prop} {Q : Value → Shared → Prop}
theorem text_tail {x : PySem.Str} {u : Tok} (hh : A.handled = none) (hr : (reprText x).length ≤ 100)
    (h : ∀ h' e tk k, Heap.MadeExc s.heap h' e "ValueError" [.str (badInt x) k] → E (.ref e) { s with heap := h', toks := tk }) (f : PySem.Str → Sem Value)
    (hf : ∀ y, f y = (do let t ← mkStr (PySem.Str.ofString (toString "invalid literal for int() with base " ++ toString (10 : Nat) ++ toString ": ") ++ (⟨y.cps.extract 0 200⟩ : PySem.Str)); let e ← newExc (.type "ValueError") [t]; markTheRefusal ["int.__new__"] e; raiseNew e)) :
    wpK (model prog w) A (pyRepr (.str x u) >>= f) Q E s := by
  refine wpK.first (wpAny_pyRepr_str ?_ (Nat.le_trans hr (by decide)))
  rw [hf]
  refine wpK.first (wpAny_mkStr ?_ ?_)
  · refine wpK.first (wpAny_newExc_plain plainExc_ValueError (fun h' e me => ?_) (by show 1 ≤ sizeLine; decide))
    exact wpK.bind (mark_no (wpK.of (wpAny_raiseNew_none hh (h h' e _ _ me))))
  · have e1 : (PySem.Str.ofString (toString "invalid literal for int() with base " ++ toString (10 : Nat) ++ toString ": ")).length ≤ 50 := by decide +kernel
    have e2 : (⟨(reprText x).cps.extract 0 200⟩ : PySem.Str).length ≤ 200 := by show ((reprText x).cps.extract 0 200).size ≤ 200; rw [Array.size_extract]; omega
    have e3 : (PySem.Str.ofString (toString "invalid literal for int() with base " ++ toString (10 : Nat) ++ toString ": ") ++ (⟨(reprText x).cps.extract 0 200⟩ : PySem.Str)).length = _ := Array.size_append
    rw [e3, sizeLine_eq]
    exact Nat.le_trans (Nat.add_le_add e1 e2) (by decide)
theorem text_bad {x : PySem.Str} {u : Tok} (hl : x.length ≤ 640) (hn : PySem.intText? x = none) (hh : A.handled = none) (hr : (reprText x).length ≤ 100)
    (h : ∀ h' e tk k, Heap.MadeExc s.heap h' e "ValueError" [.str (badInt x) k] → E (.ref e) { s with heap := h', toks := tk }) :
    wpK (model prog w) A ((int_private% "intFromText") (.str x u) (numTextOf x) 10) Q E s := by
  have hs : (numSeenOf x).length ≤ 640 := Nat.le_trans (seen_length x) hl
  refine wpK.iteT (show ((numTextOf x).takeWhile (· != 0)).length ≤ 640 from hs) ?_
  refine wpK.first (wpAny_pure ?_)
  dsimp only
  rcases read0 x hs with ⟨n, h1, _⟩ | ⟨_, hv | ⟨i, hv, hne⟩⟩
  · rw [hn] at h1; cases h1
  · have hv' : (int_private% "readNumeral") 0 10 ((numTextOf x).takeWhile (· != 0)) = _ := hv
    rw [hv']
    dsimp only
    refine wpK.first ?_
    (repeat (any_goals (first | assumption | wp_step)))
    refine wpK.iteF (by simp) ?_
    refine wpK.first (wpAny_rule ?_)
    refine wpK.first ?_
    (repeat (any_goals (first | assumption | wp_step)))
    exact text_tail hh hr h _ fun _ => rfl
  · have hv' : (int_private% "readNumeral") 0 10 ((numTextOf x).takeWhile (· != 0)) = _ := hv
    rw [hv']
    dsimp only
    refine wpK.iteF hne ?_
    refine wpK.first (wpAny_rule ?_)
    refine wpK.first ?_
    (repeat (any_goals (first | assumption | wp_step)))
    exact text_tail hh hr h _ fun _ => rfl
end
end Mine
end
section
open PySem PySem.W PyProof.Rows PySem.Spec PySem.Calls PySem.NumText
namespace Mine
section
variable {prog : Program} {w : World} {A : Around} {s : Shared} {E : Value → Shared → Prop} {Q : Value → Shared → Prop}
theorem obj_bad {x : PySem.Str} {u : Tok} (hl : x.length ≤ 640) (hn : PySem.intText? x = none) (hh : A.handled = none) (hr : (reprText x).length ≤ 100)
    (h : ∀ h' e tk k, Heap.MadeExc s.heap h' e "ValueError" [.str (badInt x) k] → E (.ref e) { s with heap := h', toks := tk }) :
    wpK (model prog w) A ((int_private% "intFromObject") (.str x u)) Q E s := by
  have f3 := KIN.str_int
  have f4 := KIN.str_idx
  have f5 := KIN.str_trunc
  have f6 : typeOf (.str x u) = pure (.type "str") := rfl
  refine wpK.first ?_
  (repeat (any_goals (first | assumption | wp_step)))
  refine wpK.first ?_
  (repeat (any_goals (first | assumption | wp_step)))
  refine wpK.iteF (by simp) ?_
  refine wpK.first ?_
  (repeat (any_goals (first | assumption | wp_step)))
  refine wpK.first ?_
  (repeat (any_goals (first | assumption | wp_step)))
  exact text_bad hl hn hh hr h
theorem new_bad {x : PySem.Str} {u : Tok} {Q : Fin → Shared → Prop} (hl : x.length ≤ 640) (hn : PySem.intText? x = none) (hh : A.handled = none) (hr : (reprText x).length ≤ 100)
    (h : ∀ h' e tk k, Heap.MadeExc s.heap h' e "ValueError" [.str (badInt x) k] → E (.ref e) { s with heap := h', toks := tk }) :
    wpK (model prog w) A (Builtin.«int.__new__» ⟨[.type "int", .str x u], []⟩) Q E s := by
  have f1 := F.conv_sub_int
  have f2 := F.madeHere_int
  refine wpK.first ?_
  (repeat (any_goals (first | assumption | wp_step)))
  refine wpK.iteF (by decide) ?_
  refine wpK.first ?_
  (repeat (any_goals (first | assumption | wp_step)))
  refine wpK.iteF (by decide) ?_
  refine wpK.first ?_
  (repeat (any_goals (first | assumption | wp_step)))
  refine wpK.iteF (by simp) ?_
  refine wpK.iteF (show ¬ (1 + 0 > 2) from by decide) ?_
  refine wpK.first ?_
  (repeat (any_goals (first | assumption | wp_step)))
  exact wpK.bind (obj_bad hl hn hh hr h)
theorem callBuiltinK {id : String} {args : Args} {b : Builtin} {R : Result → Shared → Prop} (hq : plainId id = true) (hb : entryFor table id = some b)
    (h : wpAny (model prog w) A.in1 (checkBuiltinCall id args) (fun _ s₁ => wpK (model prog w) A.in1 (b args)
      (fun fin s' => match fin with | .done f => R (.ok f) s' | .again c' => c'.quiet = true ∧ codeK (model prog w) A c' R s') (fun e s' => R (.error e) s') s₁)
      (fun e s' => R (.error e) s') s) : codeK (model prog w) A (.call (.builtin id) args) R s := by
  refine codeK.tree ?_
  show wpK _ A.in1 (do checkBuiltinCall id args; again (.builtin id args)) _ _ s
  refine wpK.first (wpAny_mono h (fun _ s₁ h₁ => wpK.pure (And.intro (plainId_quiet hq args) (codeK.tree ?_))) fun _ _ h' => h')
  rw [Around.under_plainId hq args]
  show wpK _ _ (match entryFor table id with | some b => b args | none => unsupported ((withoutEnding? id "#data").getD id)) _ _ s₁
  rw [hb]; exact h₁
theorem builtinK {id : String} {args : Args} {b : Builtin} {R : Result → Shared → Prop} (hb : entryFor table id = some b)
    (h : wpK (model prog w) (A.under (.builtin id args)) (b args)
      (fun fin s' => match fin with | .done f => R (.ok f) s' | .again c' => c'.quiet = true ∧ codeK (model prog w) A c' R s') (fun e s' => R (.error e) s') s) : codeK (model prog w) A (.builtin id args) R s := by
  refine codeK.tree ?_
  show wpK _ _ (match entryFor table id with | some b => b args | none => unsupported ((withoutEnding? id "#data").getD id)) _ _ s
  rw [hb]; exact h
theorem callTypeK {T : String} {args : List Value} {R : Result → Shared → Prop} (h : wpK (model prog w) A.in1 (Builtin.«type.__call__» ⟨.type T :: args, []⟩)
      (fun fin s' => match fin with | .done f => R (.ok f) s' | .again c' => c'.quiet = true ∧ codeK (model prog w) A c' R s') (fun e s' => R (.error e) s') s) : codeK (model prog w) A (.call (.type T) ⟨args, []⟩) R s := by
  refine codeK.tree ?_
  show wpK _ _ (callAny (.type T) _) _ _ _
  refine wpK.pure ⟨Code.quiet_builtin _ (by decide +kernel), builtinK F.entry_type_call ?_⟩
  rw [Around.under_plain (weight_type_call_type T args []) (units_type_call_type T args [])]
  exact h
/-- int(text) that refuses its text -/
theorem int_bad {x : PySem.Str} {u : Tok} (hl : x.length ≤ 640) (hn : PySem.intText? x = none) (hh : A.handled = none) (hr : (reprText x).length ≤ 100)
    (h : ∀ h' e tk k, Heap.MadeExc s.heap h' e "ValueError" [.str (badInt x) k] → E (.ref e) { s with heap := h', toks := tk }) :
    wpK (model prog w) A (call (.type "int") [.str x u]) Q E s := by
  have ft := F.called_int
  obtain ⟨c, tl, hmro⟩ := ft.mro
  have hmade := ft.made
  have hct := F.typeCall_int_1 (.str x u)
  refine wpK.call (callTypeK ?_)
  have h1 := ft.notType
  have h2 := ft.canCreate
  unfold Builtin.«type.__call__»
  dsimp only
  refine wpK.iteF (by rw [h1]; decide) ?_
  refine wpK.iteF (by rw [h2]; decide) ?_
  refine wpK.first ?_
  (repeat (any_goals (first | assumption | wp_step)))
  refine wpK.first ?_
  (repeat (any_goals (first | assumption | wp_step)))
  refine wpK.iteF (by simp) ?_
  refine wpK.first ?_
  (repeat (any_goals (first | assumption | wp_step)))
  refine wpK.first (wpAny_pure ?_)
  exact wpK.bind (wpK.holding (wpK.call (callBuiltinK ft.plain F.entry_int_new (wpAny_of_eq (F.newCall_int_1 (.str x u)) (new_bad hl hn hh hr h)))))
end
end Mine
end
section
open PySem PySem.W PyProof.Rows PySem.NumText
namespace Mine
/-- figures with single underscores between, read on from v; b: a figure stands right ahead -/
def scan : List Nat → Bool → Int → Option Int
  | [], b, v => if b then some v else none
  | c :: cs, b, v => if c = 95 then (if b then scan cs false v else none) else if 48 ≤ c ∧ c ≤ 57 then scan cs true (10 * v + ((c : Int) - 48)) else none
abbrev val10 (ds : Array Nat) : Nat := ds.foldl (fun acc d => acc * 10 + d) 0
theorem val_push (ds : Array Nat) (d : Nat) : val10 (ds.push d) = val10 ds * 10 + d := by simp [val10]
theorem scan_fold : ∀ (cs : List Nat) (ds : Array Nat) (b : Bool), (((cs.foldlM (NumText.step 10) (ds, b)).bind fun p => if p.2 then some p.1 else none).map fun e => ((val10 e : Nat) : Int)) = scan cs b ((val10 ds : Nat) : Int)
  | [], ds, b => by cases b <;> rfl
  | c :: cs, ds, b => by
    rw [List.foldlM_cons]
    by_cases h95 : c = 95
    · subst h95
      cases b
      · rfl
      · show (((cs.foldlM (NumText.step 10) (ds, false)).bind _).map _) = scan cs false _
        exact scan_fold cs ds false
    · by_cases hd : 48 ≤ c ∧ c ≤ 57
      · rw [step_digit hd]
        show (((cs.foldlM (NumText.step 10) (ds.push (c - 48), true)).bind _).map _) = _
        rw [scan_fold cs _ true, val_push]
        have e2 (v : Int) : scan (c :: cs) b v = scan cs true (10 * v + ((c : Int) - 48)) := by simp [scan, h95, hd]
        rw [e2]
        have e : ((val10 ds * 10 + (c - 48) : Nat) : Int) = 10 * ((val10 ds : Nat) : Int) + ((c : Int) - 48) := by generalize val10 ds = z; omega
        rw [e]
      · have e : NumText.step 10 (ds, b) c = none := by
          unfold NumText.step
          rw [if_neg (by simpa using h95)]
          unfold digit?
          rw [if_neg (by simp; omega)]
          split
          · rename_i d hh
            split at hh
            · cases hh; rw [if_neg]; rename_i q; simp at q; omega
            · split at hh
              · cases hh; rw [if_neg]; rename_i q; simp at q; omega
              · cases hh
          · rfl
        rw [e]
        have e2 (v : Int) : scan (c :: cs) b v = none := by simp [scan, h95, hd]
        rw [e2]
        rfl
theorem scan_digits (cs : List Nat) : ((digits? 10 cs).map fun e => ((val10 e : Nat) : Int)) = scan cs false 0 := scan_fold cs #[] false
/-- a text cut at its underscores -/
def splitU : List Nat → List (List Nat)
  | [] => [[]]
  | c :: cs => if c = 95 then [] :: splitU cs else match splitU cs with | [] => [[c]] | r :: rs => (c :: r) :: rs
theorem splitU_ne (cs : List Nat) : splitU cs ≠ [] := by
  cases cs with
  | nil => simp [splitU]
  | cons c cs => unfold splitU; split; simp; split <;> simp
/-- one run of figures, read on from v -/
def runI : List Nat → Int → Option Int
  | [], v => some v
  | c :: cs, v => if 48 ≤ c ∧ c ≤ 57 then runI cs (10 * v + ((c : Int) - 48)) else none
/-- the runs, none of them empty -/
def runsI : List (List Nat) → Int → Option Int
  | [], v => some v
  | r :: rs, v => if r = [] then none else (runI r v).bind (runsI rs)
theorem scan_runs : ∀ (cs : List Nat) (v : Int), scan cs false v = runsI (splitU cs) v ∧ scan cs true v = match splitU cs with | [] => none | r :: rs => (runI r v).bind (runsI rs)
  | [], v => ⟨rfl, rfl⟩
  | c :: cs, v => by
    have ne := splitU_ne cs
    by_cases h95 : c = 95
    · subst h95
      refine ⟨by simp [scan, splitU, runsI], ?_⟩
      show scan cs false v = _
      rw [(scan_runs cs v).1]
      simp [splitU, runI]
    · cases hs : splitU cs with
      | nil => exact absurd hs ne
      | cons r rs =>
        have e1 : splitU (c :: cs) = (c :: r) :: rs := by simp [splitU, h95, hs]
        by_cases hd : 48 ≤ c ∧ c ≤ 57
        · have ih := (scan_runs cs (10 * v + ((c : Int) - 48))).2
          rw [hs] at ih
          have e2 (b : Bool) : scan (c :: cs) b v = scan cs true (10 * v + ((c : Int) - 48)) := by simp [scan, h95, hd]
          have e3 : runI (c :: r) v = runI r (10 * v + ((c : Int) - 48)) := by simp [runI, hd]
          rw [e1, e2, e2]
          dsimp only
          refine ⟨?_, by rw [e3]; exact ih⟩
          unfold runsI
          rw [if_neg (by simp), e3]; exact ih
        · have e2 (b : Bool) : scan (c :: cs) b v = none := by simp [scan, h95, hd]
          have e3 : runI (c :: r) v = none := by simp [runI, hd]
          rw [e1, e2, e2]
          dsimp only
          refine ⟨?_, by rw [e3]; rfl⟩
          unfold runsI
          rw [if_neg (by simp), e3]; rfl
/-- blanks off at the right -/
abbrev rstr (l : List Nat) : List Nat := (l.reverse.dropWhile blank).reverse
theorem rstr_cons {c : Nat} {r : List Nat} (h : blank c = false) : rstr (c :: r) = c :: rstr r := by
  unfold rstr
  rw [List.reverse_cons, List.dropWhile_append]
  split
  · rename_i he
    have : List.dropWhile blank r.reverse = [] := by simpa using he
    simp [this, List.dropWhile, h]
  · simp
theorem head_drop : ∀ (l : List Nat), l.dropWhile blank = [] ∨ ∃ c r, l.dropWhile blank = c :: r ∧ blank c = false
  | [] => .inl rfl
  | c :: l => by
    by_cases h : blank c = true
    · rw [List.dropWhile_cons_of_pos h]; exact head_drop l
    · rw [List.dropWhile_cons_of_neg h]; exact .inr ⟨c, l, rfl, by simpa using h⟩
theorem sign_rstr (l : List Nat) : sign (rstr (l.dropWhile blank)) = ((sign (l.dropWhile blank)).1, rstr (sign (l.dropWhile blank)).2) := by
  rcases head_drop l with h | ⟨c, r, h, hb⟩
  · rw [h]; rfl
  · rw [h, rstr_cons hb]
    by_cases h1 : c = 45
    · subst h1; rfl
    · by_cases h2 : c = 43
      · subst h2; rfl
      · rw [sign_of h1 h2, sign_of h1 h2, rstr_cons hb]
/-- the number that the law reads in a room -/
def numI (l : List Nat) : Option Int :=
  (runsI (splitU (sign (rstr (l.dropWhile blank))).2) 0).map fun n => if (sign (rstr (l.dropWhile blank))).1 = true then -n else n
theorem num_is {l : List Nat} (ha : ∀ c ∈ l, 0 < c ∧ c < 128) (hl : l.length ≤ 640) : PySem.intText? ⟨l.toArray⟩ = numI l := by
  have t1 : numTextOf ⟨l.toArray⟩ = l := by
    show (if (l.toArray.all (· < 128)) = true then l.toArray.toList else _) = l
    rw [if_pos (by simp; exact fun c hc => (ha c hc).2)]
  have t2 : numSeenOf ⟨l.toArray⟩ = l := by
    show (numTextOf ⟨l.toArray⟩).takeWhile (· != 0) = l
    rw [t1]
    exact takeWhile_all fun c hc => by have := (ha c hc).1; simp; omega
  unfold PySem.intText? numI
  rw [t1, t2, if_pos (by simp), sign_rstr]
  dsimp only
  rw [← (scan_runs _ 0).1]
  have hs := scan_digits (rstr (sign (l.dropWhile blank)).2)
  show (match digits? 10 (rstr (sign (l.dropWhile blank)).2) with | some ds => _ | none => none) = _
  rw [← hs]
  cases hd : digits? 10 (rstr (sign (l.dropWhile blank)).2) with
  | none => rfl
  | some ds =>
    have hz := digits_size hd
    dsimp only [Option.map_some]
    rw [if_pos ?_]
    · rfl
    · have a1 : (rstr (sign (l.dropWhile blank)).2).length ≤ (sign (l.dropWhile blank)).2.length := by
        have := (List.dropWhile_sublist (l := (sign (l.dropWhile blank)).2.reverse) blank).length_le
        simpa using this
      have a2 : (sign (l.dropWhile blank)).2.length ≤ (l.dropWhile blank).length := by
        generalize l.dropWhile blank = z
        unfold sign; split <;> simp
      have a3 : (l.dropWhile blank).length ≤ l.length := (List.dropWhile_sublist blank).length_le
      omega
end Mine
end
section
open PySem PySem.W PyProof.Rows PySem.NumText
namespace Mine
abbrev blanks : PySem.Str := PySem.Str.ofString " \t\n\r\x0b\x0c"
theorem blanks_is (c : Nat) : blanks.cps.contains c = blank c := by
  have e : blanks.cps = #[32, 9, 10, 13, 11, 12] := by decide +kernel
  rw [e]
  unfold blank
  rw [Bool.eq_iff_iff]
  simp
  omega
theorem rev_take (p : Nat → Bool) (d : List Nat) : d.take (d.length - (d.reverse.takeWhile p).length) = (d.reverse.dropWhile p).reverse := by
  have h : d = (d.reverse.dropWhile p).reverse ++ (d.reverse.takeWhile p).reverse := by
    rw [← List.reverse_append, List.takeWhile_append_dropWhile, List.reverse_reverse]
  have hl : d.length - (d.reverse.takeWhile p).length = (d.reverse.dropWhile p).reverse.length := by
    have := congrArg List.length h
    simp only [List.length_append, List.length_reverse] at this ⊢
    omega
  rw [hl]
  conv => lhs; arg 2; rw [h]
  exact List.take_left
theorem drop_take (p : Nat → Bool) (l : List Nat) : l.drop (l.takeWhile p).length = l.dropWhile p := by
  conv => lhs; arg 2; rw [← List.takeWhile_append_dropWhile (p := p) (l := l)]
  exact List.drop_left
theorem strip_is (l : List Nat) : PySem.Txt.stripChars ⟨l.toArray⟩ blanks = ⟨(rstr (l.dropWhile blank)).toArray⟩ := by
  have hg : (fun c => blanks.cps.contains c) = blank := funext blanks_is
  show PySem.Txt.stripBy (fun c => blanks.cps.contains c) true true _ = _
  rw [hg, PyProof.Rows.stripBy_eq]
  have lo : stripLo blank true (⟨l.toArray⟩ : PySem.Str) = (l.takeWhile blank).length := rfl
  have hi : stripHi blank true (⟨l.toArray⟩ : PySem.Str) (l.takeWhile blank).length = l.length - ((l.dropWhile blank).reverse.takeWhile blank).length := by
    unfold stripHi
    rw [if_pos rfl]
    show l.toArray.size - (((l.toArray).toList.drop _).reverse.takeWhile blank).length = _
    rw [List.size_toArray, List.toList_toArray, drop_take]
  rw [lo, hi]
  refine Str.ext' (Array.toList_inj.mp ?_)
  show ((l.toArray).extract (l.takeWhile blank).length (l.length - ((l.dropWhile blank).reverse.takeWhile blank).length)).toList = rstr (l.dropWhile blank)
  unfold rstr
  rw [← rev_take]
  have hl : l.length = (l.takeWhile blank).length + (l.dropWhile blank).length := by
    have := congrArg List.length (List.takeWhile_append_dropWhile (p := blank) (l := l))
    rw [List.length_append] at this; exact this.symm
  simp only [Array.toList_extract, List.extract_eq_drop_take]
  rw [drop_take]
  congr 1
  omega
end Mine
end
section
open PySem PySem.W PyProof.Rows PySem.NumText PySem.Builtin.Str PySem.StrLaws
namespace Mine
theorem occ_run (l : List Nat) (c : Nat) : ∀ (k j : Nat) (fnd : Array Nat) (free : Nat), free ≤ j → fnd.size ≤ j → j + k = l.length + 1 →
    ((forIn (List.range' j k) (fnd, free) (occBody ⟨l.toArray⟩ ⟨#[c]⟩ l.length (l.length + 1))).run.fst).toList = fnd.toList ++ (List.range' j k).filter (fun i => l[i]? = some c)
  | 0, j, fnd, free, _, _, _ => by simp
  | k + 1, j, fnd, free, hf, hs, hj => by
    have sub := subAt_one ⟨l.toArray⟩ c j
    have hlen : (⟨l.toArray⟩ : PySem.Str).length = l.length := List.size_toArray
    rw [hlen] at sub
    rw [List.range'_succ, List.forIn_cons]
    unfold occBody
    by_cases hc : l[j]? = some c
    · have q := sub.mpr hc
      have hsz : fnd.size < l.length + 1 := by omega
      have hq1 : j + (⟨#[c]⟩ : PySem.Str).length ≤ l.length := q.1
      rw [if_pos ⟨⟨⟨hsz, hf⟩, hq1⟩, q.2⟩]
      have ih := occ_run l c k (j + 1) (fnd.push j) (j + 1) (Nat.le_refl _) (by simp; omega) (by omega)
      rw [List.filter_cons_of_pos (by simpa using hc)]
      refine Eq.trans (b := _) ?_ (ih.trans ?_)
      · rfl
      · simp
    · rw [if_neg (fun q => hc (sub.mp ⟨q.1.2, q.2⟩))]
      have ih := occ_run l c k (j + 1) fnd free (by omega) (by omega) (by omega)
      rw [List.filter_cons_of_neg (by simpa using hc)]
      exact ih
/-- the underscores' places, counted from o -/
def cutsOf : List Nat → Nat → List Nat
  | [], _ => []
  | c :: cs, o => if c = 95 then o :: cutsOf cs (o + 1) else cutsOf cs (o + 1)
theorem pieces (L : List Nat) : ∀ (l : List Nat) (a o : Nat), a ≤ o → L.drop o = l → o + l.length = L.length →
    ((a :: (cutsOf l o).map (· + 1)).zip (cutsOf l o ++ [L.length])).map (fun p => (L.take p.2).drop p.1) = match splitU l with | [] => [] | r :: rs => ((L.take o).drop a ++ r) :: rs
  | [], a, o, ha, hd, hl => by
    have : o = L.length := by simpa using hl
    subst this
    simp [cutsOf, splitU]
  | c :: cs, a, o, ha, hd, hl => by
    have hd' : L.drop (o + 1) = cs := by rw [← List.drop_drop, hd]; rfl
    have hc : L[o]? = some c := by
      have := congrArg (fun z => z[0]?) hd
      simpa using this
    have hlt : o < L.length := by simp at hl; omega
    by_cases h95 : c = 95
    · have ih := pieces L cs (o + 1) (o + 1) (Nat.le_refl _) hd' (by simp at hl ⊢; omega)
      subst h95
      have e : cutsOf (95 :: cs) o = o :: cutsOf cs (o + 1) := by simp [cutsOf]
      rw [e]
      simp only [List.map_cons, List.cons_append, List.zip_cons_cons]
      rw [ih]
      have ne := splitU_ne cs
      cases hs : splitU cs with
      | nil => exact absurd hs ne
      | cons r rs =>
        have e2 : splitU (95 :: cs) = [] :: r :: rs := by simp [splitU, hs]
        rw [e2]
        simp
    · have ih := pieces L cs a (o + 1) (by omega) hd' (by simp at hl ⊢; omega)
      have e : cutsOf (c :: cs) o = cutsOf cs (o + 1) := by simp [cutsOf, h95]
      rw [e, ih]
      have ne := splitU_ne cs
      cases hs : splitU cs with
      | nil => exact absurd hs ne
      | cons r rs =>
        have e2 : splitU (c :: cs) = (c :: r) :: rs := by simp [splitU, h95, hs]
        rw [e2]
        dsimp only
        have e3 : (L.take (o + 1)).drop a = (L.take o).drop a ++ [c] := by
          rw [List.take_add_one, hc]
          simp only [Option.toList_some]
          rw [List.drop_append_of_le_length (by rw [List.length_take]; omega)]
        rw [e3, List.append_assoc]
        rfl
theorem cuts_filter (L : List Nat) : ∀ (l : List Nat) (o : Nat), L.drop o = l → o + l.length = L.length → (List.range' o (l.length + 1)).filter (fun i => L[i]? = some 95) = cutsOf l o
  | [], o, hd, hl => by
    have : L[o]? = none := List.getElem?_eq_none (by simp at hl; omega)
    simp [cutsOf, List.range'_succ, this]
  | c :: cs, o, hd, hl => by
    have hd' : L.drop (o + 1) = cs := by rw [← List.drop_drop, hd]; rfl
    have hc : L[o]? = some c := by
      have := congrArg (fun z => z[0]?) hd
      simpa using this
    have ih := cuts_filter L cs (o + 1) hd' (by simp at hl ⊢; omega)
    rw [List.length_cons, List.range'_succ]
    by_cases h95 : c = 95
    · subst h95
      rw [List.filter_cons_of_pos (by simpa using hc), ih]
      simp [cutsOf]
    · rw [List.filter_cons_of_neg (by rw [hc]; simpa using h95), ih]
      simp [cutsOf, h95]
theorem lit_us : PySem.Str.ofString "_" = ⟨#[95]⟩ := by decide +kernel
theorem occ_us (l : List Nat) : occurrences ⟨l.toArray⟩ ⟨#[95]⟩ 0 l.length (l.length + 1) = cutsOf l 0 := by
  rw [occ_eq]
  have h := occ_run l 95 (l.length + 1) 0 #[] 0 (Nat.le_refl _) (Nat.le_refl _) (by omega)
  rw [show l.length + 1 - 0 = l.length + 1 from rfl, h, cuts_filter l l 0 rfl (by omega)]
  rfl
theorem all_pieces (l : List Nat) : ((0 :: (cutsOf l 0).map (· + 1)).zip (cutsOf l 0 ++ [l.length])).map (fun p => (l.take p.2).drop p.1) = splitU l := by
  rw [pieces l l 0 0 (Nat.le_refl _) rfl (by omega)]
  have ne := splitU_ne l
  cases hs : splitU l with
  | nil => exact absurd hs ne
  | cons r rs => simp
theorem kind_one (x : PySem.Str) : 1 ≤ PySem.Builtin.Str.strKind x := by
  unfold PySem.Builtin.Str.strKind; split
  · decide
  · split <;> decide
theorem split_is (l : List Nat) : PySem.Txt.split ⟨l.toArray⟩ (PySem.Str.ofString "_") = (splitU l).map fun r => (⟨r.toArray⟩ : PySem.Str) := by
  rw [lit_us]
  have hlen : (⟨l.toArray⟩ : PySem.Str).length = l.length := List.size_toArray
  have h1 : (⟨#[95]⟩ : PySem.Str).length = 1 := rfl
  have k1 : PySem.Builtin.Str.strKind (⟨#[95]⟩ : PySem.Str) = 1 := by decide +kernel
  have hk := kind_one ⟨l.toArray⟩
  have ap := all_pieces l
  unfold PySem.Txt.split
  rw [hlen, h1, k1, occ_us]
  by_cases h0 : l.length < 1
  · have : l = [] := List.eq_nil_of_length_eq_zero (by omega)
    subst this
    rfl
  · rw [if_neg (by rw [decide_eq_false h0, decide_eq_false (Nat.not_lt.mpr hk)]; decide)]
    by_cases he : (cutsOf l 0).isEmpty = true
    · rw [if_pos he]
      have hc : cutsOf l 0 = [] := List.isEmpty_iff.mp he
      rw [hc] at ap
      rw [← ap]
      simp
    · rw [if_neg he, ← ap]
      unfold partsBetween
      rw [hlen, List.map_map]
      refine List.map_congr_left fun p _ => ?_
      refine Str.ext' (Array.toList_inj.mp ?_)
      show ((l.toArray).extract p.1 p.2).toList = (l.take p.2).drop p.1
      simp only [Array.toList_extract, List.extract_eq_take_drop]
      rw [List.drop_take]
end Mine
end
section
open PySem PySem.W PyProof.Rows PySem.NumText
namespace Mine
theorem runI_append : ∀ (a b : List Nat) (v : Int), runI (a ++ b) v = (runI a v).bind (runI b)
  | [], b, v => rfl
  | c :: a, b, v => by
    by_cases h : 48 ≤ c ∧ c ≤ 57
    · simp [runI, h, runI_append a b]
    · simp [runI, h]
theorem runsI_append : ∀ (a b : List (List Nat)) (v : Int), runsI (a ++ b) v = (runsI a v).bind (runsI b)
  | [], b, v => rfl
  | r :: a, b, v => by
    by_cases h : r = []
    · simp [runsI, h]
    · simp only [List.cons_append, runsI, if_neg h]
      cases hr : runI r v with
      | none => rfl
      | some m => exact runsI_append a b m
section
variable {r : List Nat} {i c : Nat} {n m : Int} (h : runI (r.take i) n = some m) (hc : r[i]? = some c)
include h hc
theorem run_bad (hb : ¬ (48 ≤ c ∧ c ≤ 57)) : runI r n = none := by
  obtain ⟨hi, e⟩ := List.getElem?_eq_some_iff.mp hc
  rw [← List.take_append_drop i r, List.drop_eq_getElem_cons hi, e, runI_append, h]
  simp [runI, hb]
theorem run_more (hb : 48 ≤ c ∧ c ≤ 57) : runI (r.take (i + 1)) n = some (10 * m + ((c : Int) - 48)) := by
  obtain ⟨hi, e⟩ := List.getElem?_eq_some_iff.mp hc
  rw [List.take_add_one, hc, runI_append, h]
  simp [runI, hb]
end
section
variable {rs : List (List Nat)} {r : List Nat} {i : Nat} {v n m : Int} (h : runsI (rs.take i) v = some n) (hr : rs[i]? = some r)
include h hr
theorem runs_empty (he : r = []) : runsI rs v = none := by
  obtain ⟨hi, e⟩ := List.getElem?_eq_some_iff.mp hr
  rw [← List.take_append_drop i rs, List.drop_eq_getElem_cons hi, e, runsI_append, h]
  simp [runsI, he]
theorem runs_bad (he : runI r n = none) : runsI rs v = none := by
  obtain ⟨hi, e⟩ := List.getElem?_eq_some_iff.mp hr
  rw [← List.take_append_drop i rs, List.drop_eq_getElem_cons hi, e, runsI_append, h]
  by_cases h0 : r = []
  · simp [runsI, h0]
  · simp [runsI, h0, he]
theorem runs_more (h0 : r ≠ []) (he : runI r n = some m) : runsI (rs.take (i + 1)) v = some m := by
  rw [List.take_add_one, hr, runsI_append, h]
  simp [runsI, h0, he]
end
/-- what is known of the runs of a text -/
theorem splitU_mem : ∀ (l : List Nat) (r : List Nat), r ∈ splitU l → ∀ c ∈ r, c ∈ l
  | [], r, h, c, hc => by simp [splitU] at h; subst h; cases hc
  | d :: l, r, h, c, hc => by
    by_cases h95 : d = 95
    · have : splitU (d :: l) = [] :: splitU l := by simp [splitU, h95]
      rw [this] at h
      rcases List.mem_cons.mp h with rfl | h
      · cases hc
      · exact List.mem_cons_of_mem _ (splitU_mem l r h c hc)
    · have ne := splitU_ne l
      cases hs : splitU l with
      | nil => exact absurd hs ne
      | cons a as =>
        have : splitU (d :: l) = (d :: a) :: as := by simp [splitU, h95, hs]
        rw [this] at h
        rcases List.mem_cons.mp h with rfl | h
        · rcases List.mem_cons.mp hc with rfl | hc
          · exact List.mem_cons_self
          · exact List.mem_cons_of_mem _ (splitU_mem l a (by rw [hs]; exact List.mem_cons_self) c hc)
        · exact List.mem_cons_of_mem _ (splitU_mem l r (by rw [hs]; exact List.mem_cons_of_mem _ h) c hc)
theorem body_mem {l : List Nat} {c : Nat} (h : c ∈ rstr (l.dropWhile blank)) : c ∈ l := by
  unfold rstr at h
  rw [List.mem_reverse] at h
  have h1 := (List.dropWhile_sublist blank).subset h
  rw [List.mem_reverse] at h1
  exact (List.dropWhile_sublist blank).subset h1
/-- a room's number as the law gives it back -/
def IsNum (r : Option Int) (v : Value) (new : List (Addr × Obj)) : Prop := new = [] ∧ match r with
  | none => v = .none
  | some n => ∃ t, v = .int n t
end Mine
end
section
namespace Mine
theorem mon_form (y : Int) : monI y = 7 * ((dbyI y + 3) / 7) + 1 := by
  unfold monI
  generalize dbyI y = D
  dsimp only
  split <;> omega
theorem week_a (D : Int) (h : (D + 1) % 7 = 4) : (D + (365 + 1) + 3) / 7 = (D + 3) / 7 + 53 ∧ (D + (365 + 0) + 3) / 7 = (D + 3) / 7 + 53 := by omega
theorem week_b (D : Int) (h : (D + 1) % 7 = 3) : (D + (365 + 1) + 3) / 7 = (D + 3) / 7 + 53 := by omega
theorem week_c (D : Int) (h : (D + 1) % 7 ≠ 4) : (D + (365 + 0) + 3) / 7 = (D + 3) / 7 + 52 := by omega
theorem week_d (D : Int) (h : (D + 1) % 7 ≠ 4) (h2 : (D + 1) % 7 ≠ 3) : (D + (365 + 1) + 3) / 7 = (D + 3) / 7 + 52 := by omega
theorem seven {a b k : Int} (h : a = b + k) : 7 * a + 1 = 7 * b + 1 + 7 * k := by omega
theorem mon_succ (y : Int) : monI (y + 1) = monI y + 7 * (if WeekOk y 53 then 53 else 52) := by
  have hw : WeekOk y 53 ↔ longB y = true := by
    unfold WeekOk
    constructor
    · rintro (⟨_, h⟩ | ⟨_, h⟩)
      · exact absurd h (by decide)
      · exact h
    · exact fun h => .inr ⟨rfl, h⟩
  have hl : longB y = true ↔ (dbyI y + 1) % 7 = 4 ∨ ((dbyI y + 1) % 7 = 3 ∧ leapB y = true) := by
    unfold longB; simp only [Bool.or_eq_true, Bool.and_eq_true, beq_iff_eq]
  rw [mon_form, mon_form, dby_succ y]
  refine seven ?_
  unfold ylI
  by_cases h4 : (dbyI y + 1) % 7 = 4
  · rw [if_pos (hw.mpr (hl.mpr (.inl h4)))]
    split
    · exact (week_a _ h4).1
    · exact (week_a _ h4).2
  · by_cases hb : leapB y = true
    · rw [if_pos hb]
      by_cases h3 : (dbyI y + 1) % 7 = 3
      · rw [if_pos (hw.mpr (hl.mpr (.inr ⟨h3, hb⟩)))]; exact week_b _ h3
      · rw [if_neg fun q => (hl.mp (hw.mp q)).elim h4 fun z => h3 z.1]; exact week_d _ h4 h3
    · rw [if_neg hb, if_neg fun q => (hl.mp (hw.mp q)).elim h4 fun z => hb z.2]; exact week_c _ h4
theorem mon_bounds (y : Int) : dbyI y - 2 ≤ monI y ∧ monI y ≤ dbyI y + 4 := by
  unfold monI; simp only; split <;> omega
end Mine
end
section
open PySem PySem.W PyProof.Rows PySem.Spec PySem.Calls PyProof.Rows.LCg
namespace Mine
theorem Fr.congr {g h : Heap} {L : Addr} {m m' : Str → Option Value} (e : ∀ z, m z = m' z) (F : Fr g L h m) : Fr g L h m' := by
  have : m = m' := funext e
  subst this; exact F
end Mine
end
section
open PySem PySem.W PyProof.Rows PySem.Spec PySem.Calls
namespace Mine
section
variable {prog : Program} {w : World} {A : Around} {E : Value → Shared → Prop} {s : Shared} {env : Env} {h₀ : Heap} {x : Str} {body : List Stmt} {Q : Flow → Shared → Prop}
/-- a turn's end: the ledger stands -/
def LoopPost (h₀ : Heap) (L : Addr) (need : List (Addr × Obj)) (s : Shared) (Q : Flow → Shared → Prop) (f : Flow) (s₂ : Shared) : Prop := match f with
  | .ret v => Q (.ret v) s₂
  | .brk => Q .next s₂
  | _ => ∃ h' tk m' news', s₂ = { s with heap := h', toks := tk } ∧ Fr h₀ L h' m' ∧ News h₀ L h' news' ∧ ∀ p ∈ need, p ∈ news'
theorem LoopPost.next {L : Addr} {need news' : List (Addr × Obj)} {s : Shared} {Q : Flow → Shared → Prop} {h' : Heap} {tk : Nat} {m' : Str → Option Value} (F : Fr h₀ L h' m') (N : News h₀ L h' news') (hs : ∀ p ∈ need, p ∈ news') : LoopPost h₀ L need s Q .next { s with heap := h', toks := tk } := ⟨h', tk, m', news', rfl, F, N, hs⟩
/-- a list of the script's and a made one, one behind the other -/
theorem add_script {a b : Addr} {L : Addr} {m : Str → Option Value} {vs us : List Value} {k : Nat} {news : List (Addr × Obj)} {Q : Value → Shared → Prop} (F : Fr h₀ L s.heap m) (N : News h₀ L s.heap news) (ha : h₀.IsList a vs.toArray) (hb : (b, W.listOf us.toArray k) ∈ news)
    (hsz : vs.length + us.length ≤ sizeLine)
    (h : ∀ l h', Fr h₀ L h' m → News h₀ L h' ((l, W.listOf (vs ++ us).toArray 0) :: news) → (∀ p ∈ news, p.1 < l) → Q (.ref l) { s with heap := h' }) :
    wpAny (model prog w) A (binaryOp .Add (.ref a) (.ref b)) Q E s :=
  add_arrays (hsz := by rw [List.size_toArray, List.size_toArray]; exact hsz) F N (ha.at fun o e => F.keep a o e) ⟨_, (N _ hb).1, rfl, _, rfl⟩ fun h' F' N' => h _ h' F' (by simpa using N') fun p hp => Heap.lt_size (N p hp).1
end
end Mine
end
section
namespace Mine
/-- a ValueError flies -/
abbrev cBadP (P : List Value → Prop) : Cont := fun base h₀ L m news fr s _ E => ∀ (e t : Addr) (vs : List Value) (h' G : Heap) (tk' : Nat), P vs → RaisedS base G fr e (.type "ValueError") t vs news h' → Fr h₀ L G m → G.UpToSlots h' → E (.ref e) { s with heap := h', toks := tk' }
/-- a value, and the new objects that bear it -/
abbrev cVal (P : Value → List (Addr × Obj) → Prop) : Cont := fun _ h₀ L m news _ s Q _ => ∀ (v : Value) (new : List (Addr × Obj)) (h' : Heap) (tk' : Nat), P v new → (∀ q ∈ new, ∀ p ∈ news, p.1 < q.1) → Fr h₀ L h' m → News h₀ L h' (news ++ new) → Q v { s with heap := h', toks := tk' }
section
variable {base h₀ h' G : Heap} {L : Addr} {m : Str → Option Value} {news news' : List (Addr × Obj)} {fr : List Env} {s : Shared} {Q E : Value → Shared → Prop} {t : Tok} {tk' : Nat}
theorem endVal {P : Value → List (Addr × Obj) → Prop} {v : Value} (hret : cVal P base h₀ L m news fr s Q E) (e : P v []) (F : Fr h₀ L h' m) (N : News h₀ L h' news') (hs : ∀ p ∈ news, p ∈ news') : Q v { s with heap := h', toks := tk' } := hret v [] h' tk' e (fun q hq => nomatch hq) F (cb_drop N (by simpa using hs))
theorem ltX {d : Addr} {l x : List (Addr × Obj)} (h : AllLt d (l ++ x)) : ∀ p ∈ l, p.1 < d := fun p hp => lt0 h p (List.mem_append_left _ hp)
end
end Mine
end
section
namespace Mine
theorem mon_mod (y : Int) : monI y % 7 = 1 := by unfold monI; dsimp only; split <;> omega
end Mine
end
section
namespace Mine
abbrev tupOf (items : Array Value) : Obj := { cls := .type "tuple", data := .seq items }
theorem week_iff {y w : Int} : WeekOk y w ↔ dbyI y < monI y + (w - 1) * 7 + 3 ∧ monI y + (w - 1) * 7 + 3 ≤ dbyI (y + 1) := by
  have ms := mon_succ y
  have m1 := mon_bounds y
  have m2 := mon_bounds (y + 1)
  by_cases h : WeekOk y 53
  · rw [if_pos h] at ms
    have hl : longB y = true := by rcases h with h | h; omega; exact h.2
    unfold WeekOk; simp only [hl, and_true]; omega
  · rw [if_neg h] at ms
    have hl : ¬ longB y = true := fun q => h (.inr ⟨rfl, q⟩)
    have hl' : longB y = false := by simpa using hl
    unfold WeekOk; simp only [hl', Bool.false_eq_true, and_false, or_false]; omega
abbrev thI (y w : Int) : Int := dbyI y + 1 + (3 - dbyI y).fmod 7 + 7 * (w - 1)
theorem th_mon (y w : Int) : thI y w = monI y + (w - 1) * 7 + 3 := by
  show dbyI y + 1 + (3 - dbyI y).fmod 7 + 7 * (w - 1) = _
  have m1 := mon_bounds y
  have m2 := mon_mod y
  rw [Int.fmod_eq_emod_of_nonneg _ (by decide)]
  omega
end Mine
end
section
open PySem PySem.W PyProof.Rows PySem.NumText
namespace Mine
/-- a figure's sign -/
def dg (n : Nat) : Nat := 48 + n % 10
theorem dg_is (n : Nat) : 48 ≤ dg n ∧ dg n ≤ 57 := by unfold dg; omega
theorem char_back {c : Nat} (h : 48 ≤ c ∧ c ≤ 57) : (Char.ofNat c).toNat = c := by
  have e : c = 48 ∨ c = 49 ∨ c = 50 ∨ c = 51 ∨ c = 52 ∨ c = 53 ∨ c = 54 ∨ c = 55 ∨ c = 56 ∨ c = 57 := by omega
  rcases e with rfl | rfl | rfl | rfl | rfl | rfl | rfl | rfl | rfl | rfl <;> rfl
theorem map_back {cs : List Nat} (h : AllDigits cs) : (cs.map Char.ofNat).map Char.toNat = cs := by
  rw [List.map_map]
  conv => rhs; rw [← List.map_id cs]
  exact List.map_congr_left fun c hc => char_back (h c hc)
theorem padded : ∀ (cs : List Nat), AllDigits cs → cs ≠ [] → List.replicate (cs.length - (Nat.toDigits 10 (digitsVal cs)).length) 48 ++ (Nat.toDigits 10 (digitsVal cs)).map Char.toNat = cs := by
  intro cs h hne
  rw [toDigits_all cs h]
  have hs := List.takeWhile_append_dropWhile (p := fun x : Nat => x == 48) (l := cs)
  have hr : cs.takeWhile (· == 48) = List.replicate (cs.takeWhile (· == 48)).length 48 := List.eq_replicate_iff.mpr ⟨rfl, fun b hb => by
    have := List.all_eq_true.mp (List.all_takeWhile (p := fun x : Nat => x == 48) (l := cs)) b hb
    simpa using this⟩
  have hlen := congrArg List.length hs
  rw [List.length_append] at hlen
  cases hd : cs.dropWhile (· == 48) with
  | nil =>
    rw [hd] at hs hlen
    simp only [List.append_nil] at hs
    rw [hs] at hr
    show List.replicate (cs.length - 1) 48 ++ [48] = cs
    have hp : 0 < cs.length := List.length_pos_iff.mpr hne
    conv => rhs; rw [hr]
    rw [← List.replicate_succ', show cs.length - 1 + 1 = cs.length by omega]
  | cons c r =>
    rw [hd] at hs hlen
    have ha : AllDigits (c :: r) := fun x hx => h x (hs ▸ List.mem_append_right _ hx)
    show List.replicate (cs.length - ((c :: r).map Char.ofNat).length) 48 ++ ((c :: r).map Char.ofNat).map Char.toNat = cs
    rw [map_back ha, List.length_map, show cs.length - (c :: r).length = (cs.takeWhile (· == 48)).length by omega, ← hr]
    exact hs
open Builtin Builtin.Float in
theorem spec_text {spec : PySem.Str} {f : FormatSpec} {W : Nat} {a : Int} {cs : List Nat} (hp : parseFormatSpec spec.cps.toList "int" 62 = .ok f) (hgr : f.grouping = none) (hsg : f.sign = none) (hf : f.fill = 48) (hal : f.align = 61) (hw : f.width.getD 0 = W)
    (h0 : 0 ≤ a) (ha : AllDigits cs) (hl : cs.length = W) (hne : cs ≠ []) (hv : digitsVal cs = a.toNat) : intSpecTextOf spec a = ⟨cs.toArray⟩ := by
  have e : intSpecTextOf spec a = intSpecText f a := by unfold intSpecTextOf; rw [hp]
  rw [e, intSpecText_zero hgr hsg hf hal h0, hw]
  obtain ⟨n, rfl⟩ := Int.eq_ofNat_of_zero_le h0
  have hv' : digitsVal cs = n := by simpa using hv
  have p := padded cs ha hne
  rw [hv', hl] at p
  refine Str.ext' ?_
  rw [Str.cps_append]
  apply Array.toList_inj.mp
  rw [Array.toList_append, KIN.signs_num]
  exact p
def l2 (n : Nat) : List Nat := [dg (n / 10), dg n]
def l4 (n : Nat) : List Nat := [dg (n / 1000), dg (n / 100), dg (n / 10), dg n]
theorem all1 (n : Nat) : AllDigits [dg n] := by intro c hc; simp only [List.mem_cons, List.not_mem_nil, or_false] at hc; rcases hc with rfl; exact dg_is _
theorem all2 (n : Nat) : AllDigits (l2 n) := by intro c hc; simp only [l2, List.mem_cons, List.not_mem_nil, or_false] at hc; rcases hc with rfl | rfl <;> exact dg_is _
theorem all4 (n : Nat) : AllDigits (l4 n) := by intro c hc; simp only [l4, List.mem_cons, List.not_mem_nil, or_false] at hc; rcases hc with rfl | rfl | rfl | rfl <;> exact dg_is _
theorem val2 {n : Nat} (h : n < 100) : digitsVal (l2 n) = n := by simp only [digitsVal, l2, List.foldl_cons, List.foldl_nil, dg]; omega
theorem val4 {n : Nat} (h : n < 10000) : digitsVal (l4 n) = n := by simp only [digitsVal, l4, List.foldl_cons, List.foldl_nil, dg]; omega
theorem fmt4 {y : Int} (h0 : 0 ≤ y) (h1 : y < 10000) : intSpecTextOf (PySem.Str.ofString "04d") y = ⟨(l4 y.toNat).toArray⟩ :=
  spec_text (W := 4) (f := { fill := 48, align := 61, width := some 4, type := some 100 }) (by rfl) rfl rfl rfl rfl rfl h0 (all4 _) rfl (by simp [l4]) (val4 (by omega))
theorem fmt2 {y : Int} (h0 : 0 ≤ y) (h1 : y < 100) : intSpecTextOf (PySem.Str.ofString "02d") y = ⟨(l2 y.toNat).toArray⟩ :=
  spec_text (W := 2) (f := { fill := 48, align := 61, width := some 2, type := some 100 }) (by rfl) rfl rfl rfl rfl rfl h0 (all2 _) rfl (by simp [l2]) (val2 (by omega))
end Mine
end
section
open PySem PySem.W PyProof.Rows PySem.Spec PySem.Calls PySem.MeetsSeq PySem.MeetsSeq3
open PySem.AutoSeq1 (wpAny_loadPart')
namespace Mine
/-- the order of dates is the order of their numbers -/
theorem dby_mono {y y' : Int} (h : y ≤ y') : dbyI y ≤ dbyI y' := by unfold dbyI; omega
theorem dbm_tab : ∀ (a b : Fin 13) (lp : Bool), 1 ≤ a.val → a.val < b.val →
    ([-1, 0, 31, 59, 90, 120, 151, 181, 212, 243, 273, 304, 334].getD a.val 0 + if 2 < (a.val : Int) ∧ lp = true then 1 else 0) + (if (a.val : Int) = 2 ∧ lp = true then 29 else [-1, 31, 28, 31, 30, 31, 30, 31, 31, 30, 31, 30, 31].getD a.val 0) ≤
    (([-1, 0, 31, 59, 90, 120, 151, 181, 212, 243, 273, 304, 334].getD b.val 0 + if 2 < (b.val : Int) ∧ lp = true then 1 else 0 : Int)) := by decide +kernel
theorem dbm_step {y m m' : Int} (h1 : 1 ≤ m) (h2 : m < m') (h3 : m' ≤ 12) : dbmI y m + dimI y m ≤ dbmI y m' := by
  have := dbm_tab ⟨m.toNat, by omega⟩ ⟨m'.toNat, by omega⟩ (leapB y) (by show 1 ≤ m.toNat; omega) (by show m.toNat < m'.toNat; omega)
  have e1 : ((m.toNat : Nat) : Int) = m := by omega
  have e2 : ((m'.toNat : Nat) : Int) = m' := by omega
  simp only [e1, e2] at this
  exact this
section
variable {y m d y' m' d' : Int} (a1 : 1 ≤ m) (a2 : m ≤ 12) (a3 : 1 ≤ d) (a4 : d ≤ dimI y m) (b1 : 1 ≤ m') (b2 : m' ≤ 12) (b3 : 1 ≤ d') (b4 : d' ≤ dimI y' m')
include a1 a2 a3 a4 b1 b2 b3 b4
theorem lex_lt (h : y < y' ∨ y = y' ∧ (m < m' ∨ m = m' ∧ d < d')) : ordI y m d < ordI y' m' d' := by
  have hb := dbm_bound a1 a2 a3 a4
  have hb' := dbm_bound b1 b2 b3 b4
  unfold ordI
  rcases h with h | ⟨rfl, h | ⟨rfl, h⟩⟩
  · have h1 := dby_succ y
    have h2 := dby_mono (show y + 1 ≤ y' by omega)
    omega
  · have := dbm_step (y := y) a1 h b2
    omega
  · omega
theorem lex_eq (h : ordI y m d = ordI y' m' d') : [y, m, d] = [y', m', d'] := by
  have hlt := lex_lt a1 a2 a3 a4 b1 b2 b3 b4
  have hgt := lex_lt b1 b2 b3 b4 a1 a2 a3 a4
  have e1 : y = y' := by
    rcases Int.lt_trichotomy y y' with q | q | q
    · have := hlt (.inl q); omega
    · exact q
    · have := hgt (.inl q); omega
  have e2 : m = m' := by
    rcases Int.lt_trichotomy m m' with q | q | q
    · have := hlt (.inr ⟨e1, .inl q⟩); omega
    · exact q
    · have := hgt (.inr ⟨e1.symm, .inl q⟩); omega
  have e3 : d = d' := by
    rcases Int.lt_trichotomy d d' with q | q | q
    · have := hlt (.inr ⟨e1, .inr ⟨e2, q⟩⟩); omega
    · exact q
    · have := hgt (.inr ⟨e1.symm, .inr ⟨e2.symm, q⟩⟩); omega
  subst e1 e2 e3; rfl
end
end Mine
end
section
namespace Mine
abbrev c4 (y : Int) : List Nat := [dg (y.toNat / 1000), dg (y.toNat / 100), dg (y.toNat / 10), dg y.toNat]
abbrev c2 (y : Int) : List Nat := [dg (y.toNat / 10), dg y.toNat]
abbrev c1 (y : Int) : List Nat := [dg y.toNat]
section
variable {prog : Program} {w : World} {A : Around} {E : Value → Shared → Prop} {s : Shared} {Q : Value → Shared → Prop}
/-- a remainder, by its bounds alone -/
theorem mod_gen {a b : Int} {t u : Tok} (hb : 0 < b) (h : ∀ r, r = a.fmod b → 0 ≤ r → r < b → Q (.int r s.toks) { s with toks := s.toks + 1 }) : wpAny (model prog w) A (binaryOp .Mod (.int a t) (.int b u)) Q E s :=
  mod_int (by omega) (h _ rfl (Int.fmod_nonneg_of_pos _ hb) (Int.fmod_lt_of_pos _ hb))
end
end Mine
end
section
open PySem PySem.W PyProof.Rows PySem.Spec PySem.Calls
namespace Mine
section
variable {prog : Program} {w : World} {A : Around} {E : Value → Shared → Prop} {s : Shared} {env : Env} {h₀ : Heap} {body : List Stmt} {Q : Flow → Shared → Prop}
/-- the end of a turn that turns the name a alone, and k -/
def VarPost (h₀ : Heap) (L : Addr) (a k : Str) (m₀ : Str → Option Value) (P : Value → Prop) (need : List (Addr × Obj)) (s : Shared) (Q : Flow → Shared → Prop) (f : Flow) (s₂ : Shared) : Prop := match f with
  | .ret v => Q (.ret v) s₂
  | .brk => Q .next s₂
  | _ => ∃ h' tk m' news' x, s₂ = { s with heap := h', toks := tk } ∧ Fr h₀ L h' m' ∧ News h₀ L h' news' ∧ (∀ p ∈ need, p ∈ news') ∧ m' a = some x ∧ (∀ z, z ≠ a → z ≠ k → m' z = m₀ z) ∧ P x
theorem VarPost.next {L : Addr} {a k : Str} {m₀ m' : Str → Option Value} {P : Value → Prop} {need news' : List (Addr × Obj)} {s : Shared} {Q : Flow → Shared → Prop} {h' : Heap} {tk : Nat} {x : Value} (F : Fr h₀ L h' m') (N : News h₀ L h' news') (hs : ∀ p ∈ need, p ∈ news') (ha : m' a = some x) (hm : ∀ z, z ≠ a → z ≠ k → m' z = m₀ z) (hP : P x) : VarPost h₀ L a k m₀ P need s Q .next { s with heap := h', toks := tk } :=
  ⟨h', tk, m', news', x, rfl, F, N, hs, ha, hm, hP⟩
theorem var_map {a k : Str} {m₀ m₁ : Str → Option Value} {v x : Value} (ha : m₁ a = some x) (hm : ∀ z, z ≠ a → z ≠ k → m₁ z = m₀ z) (z : Str) : (if z = k then some v else m₁ z) = if z = k then some v else if z = a then some x else m₀ z := by
  by_cases h1 : z = k
  · simp [h1]
  · simp only [if_neg h1]
    by_cases h2 : z = a
    · rw [if_pos h2, h2, ha]
    · rw [if_neg h2, hm z h2 h1]
theorem var_end {a k : Str} {m₀ m₁ : Str → Option Value} {x : Value} (ha : m₁ a = some x) (hm : ∀ z, z ≠ a → z ≠ k → m₁ z = m₀ z) (z : Str) : m₁ z = if z = a then some x else if z = k then m₁ k else m₀ z := by
  by_cases h2 : z = a
  · rw [if_pos h2, h2, ha]
  · rw [if_neg h2]
    by_cases h1 : z = k
    · rw [if_pos h1, h1]
    · rw [if_neg h1, hm z h2 h1]
/-- a loop that turns one name, over whatever walks -/
theorem loop_var {I : Addr} {fp wr : List Addr} {n : Nat} {P : Nat → Value → Prop} {St : Nat → Heap → Prop} {a k : Str} {m₀ : Str → Option Value} {news : List (Addr × Obj)} {x₀ : Value} (J : Nat → Value → Prop)
    (W : Walks prog w A I fp wr n P St) (hfw : ∀ a ∈ fp, a ∈ wr) (hwf : ∀ b ∈ wr, b ∈ fp) (hob : ∀ i h, St i h → ∀ b ∈ wr, ∃ o, h.get? b = some o) (hLf : env.locals ∉ fp) (hwr : ∀ b ∈ wr, h₀.get? b = none) (hnw : ∀ p ∈ news, p.1 ∉ wr) (hst : St 0 s.heap)
    (F : Fr h₀ env.locals s.heap m₀) (N : News h₀ env.locals s.heap news) (hl : m₀ a = some x₀) (hJ : J 0 x₀)
    (turn : ∀ (i : Nat) (v x : Value) (h : Heap) (tk : Nat) (own : List (Addr × Obj)), i < n → P i v → J i x → Fr h₀ env.locals h (fun y => if y = k then some v else if y = a then some x else m₀ y) → News h₀ env.locals h (news ++ own) →
      wpAny (model prog w) A (execs body env) (VarPost h₀ env.locals a k m₀ (J (i + 1)) (news ++ own) { s with heap := h, toks := tk } Q) E { s with heap := h, toks := tk })
    (done : ∀ (x : Value) (u : Option Value) (h : Heap) (tk : Nat), J n x → Fr h₀ env.locals h (fun y => if y = a then some x else if y = k then u else m₀ y) → News h₀ env.locals h news → Q .next { s with heap := h, toks := tk }) :
    LoopAtV prog w A h₀ env k body Q E (.ref I) s := by
  refine kdr_loop (m₀ := m₀) (news := news) (fun i m nx => nx = news ∧ (∃ x, m a = some x ∧ J i x) ∧ ∀ z, z ≠ a → z ≠ k → m z = m₀ z) W hfw hwf hob hLf hwr hnw hst F N ⟨rfl, ⟨x₀, hl, hJ⟩, fun _ _ _ => rfl⟩ ?_ ?_
  · rintro i v m₁ nx h tk own hi hPv hoff ⟨rfl, ⟨x, ha, hJi⟩, hm⟩ F₁ N₁
    refine wpAny_mono (turn i v x h tk own hi hPv hJi (Mine.Fr.congr (var_map ha hm) F₁) N₁) (fun f s₂ p => ?_) fun _ _ e => e
    have up : (∃ h' tk' m' news' x, s₂ = { s with heap := h', toks := tk' } ∧ Fr h₀ env.locals h' m' ∧ News h₀ env.locals h' news' ∧ (∀ p ∈ nx ++ own, p ∈ news') ∧ m' a = some x ∧ (∀ z, z ≠ a → z ≠ k → m' z = m₀ z) ∧ J (i + 1) x) →
        InvEndG h₀ env.locals (fun m nx' => nx' = nx ∧ (∃ x, m a = some x ∧ J (i + 1) x) ∧ ∀ z, z ≠ a → z ≠ k → m z = m₀ z) own { s with heap := h, toks := tk } s₂ := by
      rintro ⟨h', tk', m', news', x', e, F', N', hs, ha', hm', hJ'⟩
      exact ⟨h', tk', m', news', nx, e, F', N', fun p hp => hs p (List.mem_append_left _ hp), fun p hp => hs p (List.mem_append_right _ hp), hoff, rfl, ⟨x', ha', hJ'⟩, hm'⟩
    cases f with
    | ret v => exact p
    | brk => exact p
    | next => exact up p
    | cont => exact up p
  · rintro m₁ nx h tk ⟨rfl, ⟨x, ha, hJi⟩, hm⟩ F₁ N₁
    exact done x (m₁ k) h tk hJi (Mine.Fr.congr (var_end ha hm) F₁) N₁
/-- the same over the signs of a text -/
theorem loop_varC {y : PySem.Str} {t : Tok} {a k : Str} {m₀ : Str → Option Value} {news : List (Addr × Obj)} {x₀ : Value} (J : Nat → Value → Prop) (hh : A.handled = none) (hy : y.cps.all (· < 128) = true)
    (F : Fr h₀ env.locals s.heap m₀) (N : News h₀ env.locals s.heap news) (hl : m₀ a = some x₀) (hJ : J 0 x₀)
    (turn : ∀ (i : Nat) (v x : Value) (h : Heap) (tk : Nat) (own : List (Addr × Obj)), i < y.cps.size → SignAt y i v → J i x → Fr h₀ env.locals h (fun z => if z = k then some v else if z = a then some x else m₀ z) → News h₀ env.locals h (news ++ own) →
      wpAny (model prog w) A (execs body env) (VarPost h₀ env.locals a k m₀ (J (i + 1)) (news ++ own) { s with heap := h, toks := tk } Q) E { s with heap := h, toks := tk })
    (done : ∀ (x : Value) (u : Option Value) (h : Heap) (tk : Nat), J y.cps.size x → Fr h₀ env.locals h (fun z => if z = a then some x else if z = k then u else m₀ z) → News h₀ env.locals h news → Q .next { s with heap := h, toks := tk }) :
    wpAny (model prog w) A (pyIter (.str y t)) (fun it s₂ => LoopAtV prog w A h₀ env k body Q E it s₂) E s := by
  refine wpAny_pyIter_ascii hy ?_
  refine loop_var J (Walks.strAscii hh s.heap.objs.size y t) (fun _ h => h) (fun _ h => h) (fun i h st b hb => ?_) ?_ ?_ ?_ ?_ (F.push _) (fun p hp => ⟨Heap.get?_push_of_some _ (N p hp).1, (N p hp).2⟩) hl hJ turn done
  · rw [List.mem_singleton.mp hb]; obtain ⟨o, ho, _⟩ := st; exact ⟨o, ho⟩
  · intro hm; exact absurd F.ns.lt ((List.mem_singleton.mp hm) ▸ Nat.lt_irrefl _)
  · intro b hb; rw [List.mem_singleton.mp hb]; exact next_is_new F
  · intro p hp hq; exact absurd (Heap.lt_size (N p hp).1) ((List.mem_singleton.mp hq) ▸ Nat.lt_irrefl _)
  · exact ⟨_, Heap.get?_push_size _ rfl, rfl, rfl⟩
end
end Mine
end
section
open PySem PySem.W PyProof.Rows PySem.Spec PySem.Calls
namespace Mine
section
variable {prog : Program} {w : World} {A : Around} {E : Value → Shared → Prop} {s : Shared} {env : Env} {h₀ : Heap} {body : List Stmt} {Q : Flow → Shared → Prop}
/-- the end of a turn that turns the names a, b, c, and k -/
def TriPost (h₀ : Heap) (L : Addr) (a b c k : Str) (m₀ : Str → Option Value) (P : Value → Option Value → Option Value → Prop) (need : List (Addr × Obj)) (s : Shared) (Q : Flow → Shared → Prop) (f : Flow) (s₂ : Shared) : Prop := match f with
  | .ret v => Q (.ret v) s₂
  | .brk => Q .next s₂
  | _ => ∃ h' tk m' news' x, s₂ = { s with heap := h', toks := tk } ∧ Fr h₀ L h' m' ∧ News h₀ L h' news' ∧ (∀ p ∈ need, p ∈ news') ∧ m' a = some x ∧ (∀ z, z ≠ a → z ≠ b → z ≠ c → z ≠ k → m' z = m₀ z) ∧ P x (m' b) (m' c)
theorem TriPost.next {L : Addr} {a b c k : Str} {m₀ m' : Str → Option Value} {P : Value → Option Value → Option Value → Prop} {need news' : List (Addr × Obj)} {s : Shared} {Q : Flow → Shared → Prop} {h' : Heap} {tk : Nat} {x : Value} (F : Fr h₀ L h' m') (N : News h₀ L h' news') (hs : ∀ p ∈ need, p ∈ news') (ha : m' a = some x) (hm : ∀ z, z ≠ a → z ≠ b → z ≠ c → z ≠ k → m' z = m₀ z) (hP : P x (m' b) (m' c)) : TriPost h₀ L a b c k m₀ P need s Q .next { s with heap := h', toks := tk } :=
  ⟨h', tk, m', news', x, rfl, F, N, hs, ha, hm, hP⟩
theorem tri_map {a b c k : Str} {m₀ m₁ : Str → Option Value} {v x : Value} (ha : m₁ a = some x) (hm : ∀ z, z ≠ a → z ≠ b → z ≠ c → z ≠ k → m₁ z = m₀ z) (z : Str) : (if z = k then some v else m₁ z) = if z = k then some v else if z = a then some x else if z = b then m₁ b else if z = c then m₁ c else m₀ z := by
  by_cases h1 : z = k
  · simp [h1]
  · simp only [if_neg h1]
    by_cases h2 : z = a
    · rw [if_pos h2, h2, ha]
    · rw [if_neg h2]
      by_cases h3 : z = b
      · rw [if_pos h3, h3]
      · rw [if_neg h3]
        by_cases h4 : z = c
        · rw [if_pos h4, h4]
        · rw [if_neg h4, hm z h2 h3 h4 h1]
theorem tri_end {a b c k : Str} {m₀ m₁ : Str → Option Value} {x : Value} (ha : m₁ a = some x) (hm : ∀ z, z ≠ a → z ≠ b → z ≠ c → z ≠ k → m₁ z = m₀ z) (z : Str) : m₁ z = if z = a then some x else if z = b then m₁ b else if z = c then m₁ c else if z = k then m₁ k else m₀ z := by
  by_cases h2 : z = a
  · rw [if_pos h2, h2, ha]
  · rw [if_neg h2]
    by_cases h3 : z = b
    · rw [if_pos h3, h3]
    · rw [if_neg h3]
      by_cases h4 : z = c
      · rw [if_pos h4, h4]
      · rw [if_neg h4]
        by_cases h1 : z = k
        · rw [if_pos h1, h1]
        · rw [if_neg h1, hm z h2 h3 h4 h1]
/-- the same over a sequence that lies in the ledger -/
theorem loop_triS {I l : Addr} {n : Nat} {P : Nat → Value → Prop} {St : Nat → Heap → Prop} {a b c k : Str} {m₀ : Str → Option Value} {news : List (Addr × Obj)} {x₀ : Value} (J : Nat → Value → Option Value → Option Value → Prop)
    (W : Walks prog w A I [I, l] [I] n P St) (hL1 : env.locals ≠ I) (hL2 : env.locals ≠ l) (hI : h₀.get? I = none) (hnw : ∀ p ∈ news, p.1 ≠ I) (hst : St 0 s.heap)
    (F : Fr h₀ env.locals s.heap m₀) (N : News h₀ env.locals s.heap news) (hl : m₀ a = some x₀) (hJ : J 0 x₀ (m₀ b) (m₀ c))
    (turn : ∀ (i : Nat) (v x : Value) (xb xc : Option Value) (h : Heap) (tk : Nat) (own : List (Addr × Obj)), i < n → P i v → J i x xb xc → Fr h₀ env.locals h (fun y => if y = k then some v else if y = a then some x else if y = b then xb else if y = c then xc else m₀ y) → News h₀ env.locals h (news ++ own) →
      wpAny (model prog w) A (execs body env) (TriPost h₀ env.locals a b c k m₀ (J (i + 1)) (news ++ own) { s with heap := h, toks := tk } Q) E { s with heap := h, toks := tk })
    (done : ∀ (x : Value) (xb xc u : Option Value) (h : Heap) (tk : Nat), J n x xb xc → Fr h₀ env.locals h (fun y => if y = a then some x else if y = b then xb else if y = c then xc else if y = k then u else m₀ y) → News h₀ env.locals h news → Q .next { s with heap := h, toks := tk }) :
    LoopAtV prog w A h₀ env k body Q E (.ref I) s := by
  refine ⟨I, [I, l], [I], n, P, St, m₀, news, (fun i m nx => nx = news ∧ (∃ x, m a = some x ∧ J i x (m b) (m c)) ∧ ∀ z, z ≠ a → z ≠ b → z ≠ c → z ≠ k → m z = m₀ z), rfl, W, ?_, ?_, ?_, hst, F, N, ⟨rfl, ⟨x₀, hl, hJ⟩, fun _ _ _ _ _ => rfl⟩, ?_, ?_⟩
  · intro hm
    rcases List.mem_cons.mp hm with e | hm
    · exact hL1 e
    · exact hL2 (List.mem_singleton.mp hm)
  · intro b hb
    rw [List.mem_singleton.mp hb]; exact hI
  · intro p hp hq
    exact hnw p hp (List.mem_singleton.mp hq)
  · rintro i v m₁ news₁ s₁ own ⟨hh, tk, rfl⟩ hin hPv ⟨rfl, ⟨x, ha, hJi⟩, hm⟩ hoff _ _ _ _ F₁ N₁
    have N₂ : News h₀ env.locals hh (news₁ ++ own) := fun p hp => N₁ p ((List.mem_append.mp hp).elim (fun h => List.mem_append.mpr (.inr h)) fun h => List.mem_append.mpr (.inl h))
    refine wpAny_mono (turn i v x (m₁ b) (m₁ c) hh tk own hin hPv hJi (Mine.Fr.congr (tri_map ha hm) F₁) N₂) (fun f s₂ p => ?_) fun _ _ e => e
    have up : (∃ h' tk' m' news' x, s₂ = { s with heap := h', toks := tk' } ∧ Fr h₀ env.locals h' m' ∧ News h₀ env.locals h' news' ∧ (∀ p ∈ news₁ ++ own, p ∈ news') ∧ m' a = some x ∧ (∀ z, z ≠ a → z ≠ b → z ≠ c → z ≠ k → m' z = m₀ z) ∧ J (i + 1) x (m' b) (m' c)) →
        LoopStepU h₀ env.locals [I] own (fun m nx => nx = news₁ ∧ (∃ x, m a = some x ∧ J (i + 1) x (m b) (m c)) ∧ ∀ z, z ≠ a → z ≠ b → z ≠ c → z ≠ k → m z = m₀ z) { s with heap := hh, toks := tk } .next s₂ := by
      rintro ⟨h', tk', m', news', x', e, F', N', hs, ha', hm', hJ'⟩
      exact ⟨rfl, h', tk', m', news₁, e, F', fun p hp => N' p (hs p (List.mem_append.mpr (List.mem_append.mp hp).symm)), hoff, rfl, ⟨x', ha', hJ'⟩, hm'⟩
    cases f with
    | ret v => exact p
    | brk => exact p
    | next => exact up p
    | cont => exact up p
  · rintro h' tk m' news' F' N' _ ⟨rfl, ⟨x, ha, hJn⟩, hm⟩
    exact done x (m' b) (m' c) (m' k) h' tk hJn (Mine.Fr.congr (tri_end ha hm) F') N'
theorem loop_triL {l : Addr} {vs : List Value} {nn : Nat} {a b c k : Str} {m₀ : Str → Option Value} {news : List (Addr × Obj)} {x₀ : Value} (J : Nat → Value → Option Value → Option Value → Prop) (hh : A.handled = none)
    (F : Fr h₀ env.locals s.heap m₀) (N : News h₀ env.locals s.heap news) (hm : (l, W.listOf vs.toArray nn) ∈ news) (hl : m₀ a = some x₀) (hJ : J 0 x₀ (m₀ b) (m₀ c))
    (turn : ∀ (i : Nat) (v x : Value) (xb xc : Option Value) (h : Heap) (tk : Nat) (own : List (Addr × Obj)), i < vs.length → vs[i]? = some v → J i x xb xc → Fr h₀ env.locals h (fun y => if y = k then some v else if y = a then some x else if y = b then xb else if y = c then xc else m₀ y) → News h₀ env.locals h (news ++ own) →
      wpAny (model prog w) A (execs body env) (TriPost h₀ env.locals a b c k m₀ (J (i + 1)) (news ++ own) { s with heap := h, toks := tk } Q) E { s with heap := h, toks := tk })
    (done : ∀ (x : Value) (xb xc u : Option Value) (h : Heap) (tk : Nat), J vs.length x xb xc → Fr h₀ env.locals h (fun y => if y = a then some x else if y = b then xb else if y = c then xc else if y = k then u else m₀ y) → News h₀ env.locals h news → Q .next { s with heap := h, toks := tk }) :
    wpAny (model prog w) A (pyIter (.ref l)) (fun it s₂ => LoopAtV prog w A h₀ env k body Q E it s₂) E s := by
  have hol := (N _ hm).1
  have hls : s.heap.IsList l vs.toArray := ⟨_, hol, rfl, nn, rfl⟩
  have hne : l ≠ s.heap.objs.size := Nat.ne_of_lt (Heap.lt_size hol)
  refine wpAny_pyIter_list hls ?_
  have W := Walks.list (prog := prog) (w := w) hh s.heap.objs.size l hne vs.toArray
  have hlen : vs.toArray.size = vs.length := by simp
  rw [hlen] at W
  refine loop_triS J W (fun e => absurd F.ns.lt (e ▸ Nat.lt_irrefl _)) (fun e => (N _ hm).2.1 e.symm) (next_is_new F) (fun p hp e => absurd (Heap.lt_size (N p hp).1) (e ▸ Nat.lt_irrefl _)) ⟨⟨_, Heap.get?_push_size _ rfl, rfl, rfl⟩, hls.at fun o e => Heap.get?_push_of_some _ e⟩ (F.push _) (fun p hp => ⟨Heap.get?_push_of_some _ (N p hp).1, (N p hp).2⟩) hl hJ (fun i v x xb xc h tk own hi hv => turn i v x xb xc h tk own hi (by simpa using hv)) done
theorem loop_triT {l : Addr} {vs : List Value} {a b c k : Str} {m₀ : Str → Option Value} {news : List (Addr × Obj)} {x₀ : Value} (J : Nat → Value → Option Value → Option Value → Prop) (hh : A.handled = none)
    (F : Fr h₀ env.locals s.heap m₀) (N : News h₀ env.locals s.heap news) (hm : (l, ({ cls := .type "tuple", data := .seq vs.toArray } : Obj)) ∈ news) (hl : m₀ a = some x₀) (hJ : J 0 x₀ (m₀ b) (m₀ c))
    (turn : ∀ (i : Nat) (v x : Value) (xb xc : Option Value) (h : Heap) (tk : Nat) (own : List (Addr × Obj)), i < vs.length → vs[i]? = some v → J i x xb xc → Fr h₀ env.locals h (fun y => if y = k then some v else if y = a then some x else if y = b then xb else if y = c then xc else m₀ y) → News h₀ env.locals h (news ++ own) →
      wpAny (model prog w) A (execs body env) (TriPost h₀ env.locals a b c k m₀ (J (i + 1)) (news ++ own) { s with heap := h, toks := tk } Q) E { s with heap := h, toks := tk })
    (done : ∀ (x : Value) (xb xc u : Option Value) (h : Heap) (tk : Nat), J vs.length x xb xc → Fr h₀ env.locals h (fun y => if y = a then some x else if y = b then xb else if y = c then xc else if y = k then u else m₀ y) → News h₀ env.locals h news → Q .next { s with heap := h, toks := tk }) :
    wpAny (model prog w) A (pyIter (.ref l)) (fun it s₂ => LoopAtV prog w A h₀ env k body Q E it s₂) E s := by
  have hol := (N _ hm).1
  have hls : s.heap.IsTuple l vs.toArray := ⟨_, hol, rfl, _, rfl⟩
  have hne : l ≠ s.heap.objs.size := Nat.ne_of_lt (Heap.lt_size hol)
  refine wpAny_pyIter_tuple hls ?_
  have W := Walks.tuple (prog := prog) (w := w) hh s.heap.objs.size l hne vs.toArray
  have hlen : vs.toArray.size = vs.length := by simp
  rw [hlen] at W
  refine loop_triS J W (fun e => absurd F.ns.lt (e ▸ Nat.lt_irrefl _)) (fun e => (N _ hm).2.1 e.symm) (next_is_new F) (fun p hp e => absurd (Heap.lt_size (N p hp).1) (e ▸ Nat.lt_irrefl _)) ⟨⟨_, Heap.get?_push_size _ rfl, rfl, rfl⟩, hls.at fun o e => Heap.get?_push_of_some _ e⟩ (F.push _) (fun p hp => ⟨Heap.get?_push_of_some _ (N p hp).1, (N p hp).2⟩) hl hJ (fun i v x xb xc h tk own hi hv => turn i v x xb xc h tk own hi (by simpa using hv)) done
end
end Mine
end
section
open PySem PySem.W PyProof.Rows PySem.Spec PySem.Calls
namespace Mine
section
variable {M : Model} {A : Around} {E : Value → Shared → Prop} {s : Shared} {env : Env} {pos : Pos} {Q : Value → Shared → Prop}
theorem ifK {test : Expr} {body orelse : List Stmt} {pos : Pos} {Q : Flow → Shared → Prop} (h : wpAny M A (isTrue test env (eval test env)) (fun b s₁ => if b then wpK M A (execs body env) Q E s₁ else wpK M A (execs orelse env) Q E s₁) E s) : wpK M A (exec (.If test body orelse pos) env) Q E s := by
  rw [exec_If]
  refine wpK.standAt (wpK.first (wpAny_mono h (fun b s₁ h₁ => ?_) fun _ _ e => e))
  cases b <;> exact h₁
theorem callTypeArgsK {T : String} {e : Expr} {rest : List Expr} (h : wpAny M A (spliced (backTo pos (starEach (e :: rest) env))) (fun vs s₁ => wpK M A (call (.type T) vs) Q E s₁) E s)
    (he : starEach (e :: rest) env = (false, eval e env) :: starEach rest env := by rfl) (hp : (backTo pos (starEach rest env)).any (·.1) = false := by rfl) : wpK M A (callWith pos (.type T) [] (backTo pos (starEach (e :: rest) env)) []) Q E s := by
  rw [he] at h ⊢
  exact callWithK_type hp h
theorem callFnArgsK {a : Addr} {e : Expr} {rest : List Expr} (h : wpAny M A (spliced (backTo pos (starEach (e :: rest) env))) (fun vs s₁ => (∃ o fd, s₁.heap.get? a = some o ∧ o.data = .func fd) ∧ wpK M A (call (.ref a) vs) Q E s₁) E s)
    (he : starEach (e :: rest) env = (false, eval e env) :: starEach rest env := by rfl) (hp : (backTo pos (starEach rest env)).any (·.1) = false := by rfl) : wpK M A (callWith pos (.ref a) [] (backTo pos (starEach (e :: rest) env)) []) Q E s := by
  rw [he] at h ⊢
  exact callWithK_fn hp h
end
/-- a contract of a def that ends in a ValueError, in the contexts of the claim -/
abbrev CtrK (prog : Program) (w : World) (K : Frag) (p : Program) (loose : List Str) (mean : ExcName → Option Value) (mg mb : Str → Option Value) (f : Addr) (d u : Nat) (vs : List Value) (bad : List Value → Prop) : Prop :=
  ∀ (dp un : Nat) (gd : Option (List Code)) (cn : Str) (cs : Scope) (a : Addr) (ccd : Value) (cl : List (Str × Addr)) (outer : List Env) (A₀ : Around) (base h₀ : Heap) (L : Addr) (m : Str → Option Value) (news : List (Addr × Obj)) (s : Shared) (Q E : Value → Shared → Prop),
    Below A₀ base outer h₀ → Fr h₀ L s.heap m → K.In h₀ → News h₀ L s.heap news → Top p loose mean mg mb h₀ → cs.kind = .function →
    dp + d < recursionLimit → un + u < cLine → cBadP bad base h₀ L m news (envX cn cs L a ccd cl :: outer) s Q E →
    wpK (model prog w) (ktrTop dp un gd cn cs L a ccd cl outer) (call (.ref f) vs) Q E s
section
variable {prog : Program} {w : World} {A₀ A : Around} {s : Shared} {base h₀ : Heap} {outer : List Env} {L : Addr} {m : Str → Option Value} {env : Env} {news : List (Addr × Obj)} {K : Frag} {p : Program} {loose : List Str} {mean : ExcName → Option Value} {mg mb : Str → Option Value}
  {R : Result → Shared → Prop} {name qual : Str} {params : Arguments} {body : List Stmt} {scope : Scope} {dV kV doc pm cdv ct oc : Value} {an od : Option Addr} {osl : Array (Option Value)} {f : Addr} {args : Args} {binds : List (Str × Value)}
theorem enterK (B : Below A₀ base outer h₀) (F : Fr h₀ L s.heap m) (X₀ : K.In h₀) (N : News h₀ L s.heap news) (T : Top p loose mean mg mb h₀) (hA : A.frames = some (env :: outer)) (hf : env.frame = some L) (hke : env.scope.kind = .function)
    (ho : K.lookup f = some ⟨oc, od, .func (fnOf name qual params body scope dV kV doc pm an cdv ct), osl⟩) (hcd : codeIn K cdv qual = true) (hroom : A.depth < recursionLimit)
    (hbind : BindsTo s (fnOf name qual params body scope dV kV doc pm an cdv ct) args binds) (hloc : ∀ y ∈ binds, scope.names.lookup y.1 = some .local)
    (h : ∀ g L' h₁, Fr h₀ L g m → Fr g L' h₁ (fun y => binds.reverse.lookup y) → News g L' h₁ news → Below A base (env :: outer) g → K.In g → Top p loose mean mg mb g →
      wpK (model prog w) (A.deeper (envOf qual scope L' f cdv)) (execs body (envOf qual scope L' f cdv)) (fun _ _ => False)
        (fun e s' => wpAny (model prog w) (A.deeper (envOf qual scope L' f cdv)) (leaving (envOf qual scope L' f cdv) e) (fun _ s'' => R (.error e) s'') (fun e' s'' => R (.error e') s'') s')
        { s with heap := h₁, toks := s.toks + binds.length })
    (hco : scope.isCoroutine = false) (hgen : scope.isGenerator = false) (hk : scope.kind = .function)
    (hcell : ∀ x ∈ scope.names, x.2 ≠ .cell) : codeK (model prog w) A (.call (.ref f) args) R s := by
  obtain ⟨FG, BG, st, _⟩ := groundX (R := R) B F N hA hf hke
  refine callDefK (fd := fnOf name qual params body scope dV kV doc pm an cdv ct) (body := body) (binds := binds) hroom ((X₀.keeps F.keep) _ _ ho) rfl (T.nolimit.keeps F.keep) (codeRec_of (X₀.keeps F.keep) hcd) rfl hbind hcell hloc (fun h₁ hns hk₁ => ?_) hco hgen hk
  exact (h _ s.heap.objs.size h₁ FG ⟨hns, fun b o e => hk₁ b o (of_hideAll _ e), Nat.le_of_eq (hideAll_size _ _)⟩
    (fun p hp => ⟨hk₁ _ _ (N p hp).1, Nat.ne_of_lt (Heap.lt_size (N p hp).1), hideAll_none _ (List.mem_map_of_mem hp)⟩) BG (X₀.keeps st) (T.keeps st)).mono (fun fl s' hl => hl.elim) fun _ _ y => y
end
section
variable {M : Model} {A : Around} {E : Value → Shared → Prop} {s s' : Shared} {base g g₀ h : Heap} {outer : List Env} {L L₀ a e : Addr} {m m₀ : Str → Option Value} {name : Str} {scope : Scope} {cd : Value} {news all : List (Addr × Obj)} {bad : List Value → Prop} {vs : List Value} {Q : Value → Shared → Prop}
/-- the end of such a def: int() has refused -/
theorem badK (hret : cBadP bad base g₀ L₀ m₀ news outer s Q E) (hb : bad vs) (K : Below A base outer g) (hx : Heap.MadeExc h s'.heap e "ValueError" vs) (FG : Fr g₀ L₀ g m₀) (F : Fr g L h m) (N : News g L h all) (hs : ∀ q ∈ news, q ∈ all) (hsame : ∃ h' tk, s' = { s with heap := h', toks := tk }) (hk : scope.kind = .function := by rfl) :
    wpAny M (A.deeper (envOf name scope L a cd)) (leaving (envOf name scope L a cd) (.ref e)) (fun _ s'' => E (.ref e) s'') (fun e' s'' => E e' s'') s' := by
  obtain ⟨h', tk, rfl⟩ := hsame
  refine leave_raiseS K (Heap.MadeExc.of hx) F N (fun h'' t R _ U => ?_) hk
  exact hret e t vs h'' g tk hb (RaisedS.drop R hs) FG U
end
end Mine
end
section
namespace Mine
section
variable {E : Value → Shared → Prop} {A : Around} {s : Shared} {h₀ : Heap} {L : Addr} {m : Str → Option Value} {news : List (Addr × Obj)}
/-- the ways of a value meet: a number -/
def JI (k : Int) (h₀ : Heap) (L : Addr) (m : Str → Option Value) (news : List (Addr × Obj)) (s : Shared) (v : Value) (s₂ : Shared) : Prop :=
  ∃ (h : Heap) (tk : Nat) (t : Tok), v = .int k t ∧ s₂ = { s with heap := h, toks := tk } ∧ Fr h₀ L h m ∧ News h₀ L h news
theorem JI.intro {k k' : Int} {h : Heap} {tk : Nat} {t : Tok} {news' : List (Addr × Obj)} (e : k' = k) (F : Fr h₀ L h m) (N : News h₀ L h news') (hs : ∀ p ∈ news, p ∈ news') : JI k h₀ L m news s (.int k' t) { s with heap := h, toks := tk } :=
  ⟨h, tk, t, by rw [e], rfl, F, cb_drop N hs⟩
theorem joinI {M : Model} {c : Sem Value} {Q : Value → Shared → Prop} (k : Int) (_F : Fr h₀ L s.heap m) (_N : News h₀ L s.heap news)
    (hc : JMark → wpAny M A c (fun v s₂ => JI k h₀ L m news s v s₂) E s)
    (hk : ∀ (h : Heap) (tk : Nat) (t : Tok), Fr h₀ L h m → News h₀ L h news → Q (.int k t) { s with heap := h, toks := tk }) : wpAny M A c Q E s := by
  refine wpAny_mono (hc True.intro) (fun v s₂ hq => ?_) fun _ _ h => h
  obtain ⟨h, tk, t, rfl, rfl, F, N⟩ := hq
  exact hk h tk t F N
/-- the ways of a statement that gives the name a the text y meet -/
def JG (y : Str) (a : Str) (h₀ : Heap) (L : Addr) (m : Str → Option Value) (news : List (Addr × Obj)) (s : Shared) (f : Flow) (s₂ : Shared) : Prop :=
  ∃ (h : Heap) (tk : Nat) (t : Tok) (m' : Str → Option Value), f = .next ∧ m' a = some (.str y t) ∧ s₂ = { s with heap := h, toks := tk } ∧ (∀ z, z ≠ a → m' z = m z) ∧ Fr h₀ L h m' ∧ News h₀ L h news
theorem JG.intro {y x : Str} {a : Str} {h : Heap} {tk : Nat} {t : Tok} {m' : Str → Option Value} {news' : List (Addr × Obj)} (ha : m' a = some (.str x t)) (e : x = y) (hm : ∀ z, z ≠ a → m' z = m z) (F : Fr h₀ L h m') (N : News h₀ L h news') (hs : ∀ p ∈ news, p ∈ news') : JG y a h₀ L m news s .next { s with heap := h, toks := tk } :=
  ⟨h, tk, t, m', rfl, by rw [ha, e], rfl, hm, F, cb_drop N hs⟩
theorem joinG {M : Model} {c : Sem Flow} {Q : Flow → Shared → Prop} (y a : Str) (_F : Fr h₀ L s.heap m) (_N : News h₀ L s.heap news)
    (hc : JMark → wpAny M A c (fun f s₂ => JG y a h₀ L m news s f s₂) E s)
    (hk : ∀ (h : Heap) (tk : Nat) (t : Tok), Fr h₀ L h (fun z => if z = a then some (.str y t) else m z) → News h₀ L h news → Q .next { s with heap := h, toks := tk }) : wpAny M A c Q E s := by
  refine wpAny_mono (hc True.intro) (fun v s₂ hq => ?_) fun _ _ h => h
  obtain ⟨h, tk, t, m', rfl, ha, rfl, hm, F, N⟩ := hq
  refine hk h tk t (Fr.congr0 (fun z => ?_) F) N
  by_cases h2 : z = a
  · rw [if_pos h2, h2, ha]
  · rw [if_neg h2, hm z h2]
end
end Mine
end
section
namespace Mine
/-- a text's parts at its underscores -/
structure SplitAs (T : PySem.Str) (rs : List (List Nat)) : Prop where
  eq : PySem.Txt.split T (PySem.Str.ofString "_") = rs.map fun r => (⟨r.toArray⟩ : PySem.Str)
  asc : ∀ r ∈ rs, ∀ c ∈ r, c < 128
def RunJ (rs : List (List Nat)) (i : Nat) (x : Value) (_ _ : Option Value) : Prop := ∃ n t, x = .int n t ∧ runsI (rs.take i) 0 = some n
theorem runJ0 {rs : List (List Nat)} {t : Tok} {a b : Option Value} : RunJ rs 0 (.int 0 t) a b := ⟨0, t, rfl, rfl⟩
theorem len_vals {rs : List (List Nat)} {T : PySem.Str} {l : List (PySem.Str × Tok)} (S : SplitAs T rs) (e : l.map (·.1) = PySem.Txt.split T (PySem.Str.ofString "_")) : (strValues l).length = rs.length := by
  have := congrArg List.length (e.trans S.eq)
  simpa [strValues] using this
theorem run_all {rs : List (List Nat)} {T : PySem.Str} {l : List (PySem.Str × Tok)} {n : Int} (S : SplitAs T rs) (e : l.map (·.1) = PySem.Txt.split T (PySem.Str.ofString "_")) (h : runsI (rs.take (strValues l).length) 0 = some n) : runsI rs 0 = some n := by
  rw [len_vals S e, List.take_length] at h; exact h
theorem run_item {rs : List (List Nat)} {T : PySem.Str} {l : List (PySem.Str × Tok)} {i : Nat} {v : Value} (S : SplitAs T rs) (e : l.map (·.1) = PySem.Txt.split T (PySem.Str.ofString "_")) (h : (strValues l)[i]? = some v) : ∃ r t, rs[i]? = some r ∧ v = .str ⟨r.toArray⟩ t ∧ ((⟨r.toArray⟩ : PySem.Str).cps.all (· < 128)) = true := by
  have e2 := e.trans S.eq
  unfold strValues at h
  rw [List.getElem?_map] at h
  obtain ⟨⟨x, t⟩, hx, rfl⟩ := Option.map_eq_some_iff.mp h
  have e3 := congrArg (fun z => z[i]?) e2
  simp only [List.getElem?_map, hx, Option.map_some] at e3
  cases hr : rs[i]? with
  | none => rw [hr] at e3; cases e3
  | some r =>
    rw [hr] at e3
    refine ⟨r, t, rfl, ?_, ?_⟩
    · rw [Option.map_some] at e3; exact congrArg (Value.str · t) (Option.some.inj e3)
    · show (r.toArray.all _) = true
      rw [List.all_toArray, List.all_eq_true]
      intro c hc
      exact decide_eq_true (S.asc r (List.mem_of_getElem? hr) c hc)
structure RunAt (rs : List (List Nat)) (i : Nat) (r : List Nat) (n : Int) : Prop where
  hr : rs[i]? = some r
  hn : runsI (rs.take i) 0 = some n
abbrev RunJof {T : PySem.Str} {rs : List (List Nat)} (_ : SplitAs T rs) := RunJ rs
def SignJ (r : List Nat) (n : Int) (i : Nat) (x : Value) : Prop := ∃ m t, x = .int m t ∧ runI (r.take i) n = some m
abbrev SignJof {rs : List (List Nat)} {i : Nat} {r : List Nat} {n : Int} (_ : RunAt rs i r n) := SignJ r n
theorem signJ0 {r : List Nat} {n : Int} {t : Tok} : SignJ r n 0 (.int n t) := ⟨n, t, rfl, rfl⟩
theorem sign_all {r : List Nat} {n : Int} {x : Value} (h : SignJ r n (⟨r.toArray⟩ : PySem.Str).cps.size x) : ∃ m t, x = .int m t ∧ runI r n = some m := by
  obtain ⟨m, t, e, h⟩ := h
  refine ⟨m, t, e, ?_⟩
  rwa [show (⟨r.toArray⟩ : PySem.Str).cps.size = r.length from List.size_toArray, List.take_length] at h
theorem sign_item {r : List Nat} {i : Nat} {v : Value} (h : SignAt ⟨r.toArray⟩ i v) : ∃ c t, r[i]? = some c ∧ v = .str ⟨#[c]⟩ t := by
  obtain ⟨c, u, hc, rfl⟩ := h
  exact ⟨c, u, by rw [← List.getElem?_toArray]; exact hc, rfl⟩
theorem fig_table : ∀ c : Nat, c < 128 → (Builtin.Str.occurrences (PySem.Str.ofString "0123456789") ⟨#[c]⟩ 0 (PySem.Str.ofString "0123456789").length 1).isEmpty = !(decide (48 ≤ c) && decide (c ≤ 57)) := by decide +kernel
theorem c_asc {r : List Nat} {i c : Nat} (ha : ((⟨r.toArray⟩ : PySem.Str).cps.all fun x => decide (x < 128)) = true) (hc : r[i]? = some c) : c < 128 := by
  have h : (r.toArray.all fun x => decide (x < 128)) = true := ha
  rw [List.all_toArray, List.all_eq_true] at h
  exact of_decide_eq_true (h c (List.mem_of_getElem? hc))
theorem signS {rs : List (List Nat)} {i j : Nat} {r : List Nat} {n m : Int} {c : Nat} {t : Tok} (_ : RunAt rs i r n) (ha : ((⟨r.toArray⟩ : PySem.Str).cps.all fun x => decide (x < 128)) = true) (hc : r[j]? = some c) (hm : runI (r.take j) n = some m)
    (ho : (Builtin.Str.occurrences (PySem.Str.ofString "0123456789") ⟨#[c]⟩ 0 (PySem.Str.ofString "0123456789").length 1).isEmpty = false) : SignJ r n (j + 1) (.int (10 * m + (c : Int) - 48) t) := by
  have := fig_table c (c_asc ha hc)
  rw [ho] at this
  have hd : 48 ≤ c ∧ c ≤ 57 := by simpa using this.symm
  exact ⟨_, t, rfl, by rw [run_more hm hc hd, Int.add_sub_assoc]⟩
theorem signX {rs : List (List Nat)} {i j : Nat} {r : List Nat} {n m : Int} {c : Nat} (R : RunAt rs i r n) (ha : ((⟨r.toArray⟩ : PySem.Str).cps.all fun x => decide (x < 128)) = true) (hc : r[j]? = some c) (hm : runI (r.take j) n = some m)
    (ho : (Builtin.Str.occurrences (PySem.Str.ofString "0123456789") ⟨#[c]⟩ 0 (PySem.Str.ofString "0123456789").length 1).isEmpty = true) : runsI rs 0 = none := by
  have := fig_table c (c_asc ha hc)
  rw [ho] at this
  have hd : ¬ (48 ≤ c ∧ c ≤ 57) := by have h9 := this.symm; simp at h9; omega
  exact runs_bad R.hn R.hr (run_bad hm hc hd)
theorem runX {rs : List (List Nat)} {i : Nat} {r : List Nat} {n : Int} (R : RunAt rs i r n) (he : ((⟨r.toArray⟩ : PySem.Str) == PySem.Str.ofString "") = true) : runsI rs 0 = none := by
  refine runs_empty R.hn R.hr ?_
  have h := congrArg PySem.Str.cps (eq_of_beq he)
  have h2 : r.toArray.toList = (PySem.Str.ofString "").cps.toList := congrArg Array.toList h
  have h3 : (PySem.Str.ofString "").cps.toList = [] := by decide +kernel
  rw [h3] at h2
  simpa using h2
theorem runS {rs : List (List Nat)} {i : Nat} {r : List Nat} {n m : Int} {t : Tok} {a b : Option Value} (R : RunAt rs i r n) (he : ((⟨r.toArray⟩ : PySem.Str) == PySem.Str.ofString "") = false) (hm : runI r n = some m) : RunJ rs (i + 1) (.int m t) a b := by
  refine ⟨m, t, rfl, runs_more R.hn R.hr (fun e => ?_) hm⟩
  subst e
  exact absurd he (by decide +kernel)
theorem isNumX {rs : List (List Nat)} {sd : Int} (h : runsI rs 0 = none) : IsNum ((runsI rs 0).map fun n => sd * n) .none [] := ⟨rfl, by rw [h]; rfl⟩
theorem isNumV {rs : List (List Nat)} {sd n : Int} {t : Tok} (h : runsI rs 0 = some n) : IsNum ((runsI rs 0).map fun n => sd * n) (.int (sd * n) t) [] := ⟨rfl, by rw [h]; exact ⟨t, rfl⟩⟩
theorem triRet {h₀ : Heap} {L : Addr} {a b c k : PySem.Str} {m₀ : PySem.Str → Option Value} {P : Value → Option Value → Option Value → Prop} {need : List (Addr × Obj)} {s s₂ : Shared} {Q : Flow → Shared → Prop} {v : Value} (h : Q (.ret v) s₂) : TriPost h₀ L a b c k m₀ P need s Q (.ret v) s₂ := h
theorem varRet {h₀ : Heap} {L : Addr} {a k : PySem.Str} {m₀ : PySem.Str → Option Value} {P : Value → Prop} {need : List (Addr × Obj)} {s s₂ : Shared} {Q : Flow → Shared → Prop} {v : Value} (h : Q (.ret v) s₂) : VarPost h₀ L a k m₀ P need s Q (.ret v) s₂ := h
theorem triBrk {h₀ : Heap} {L : Addr} {a b c k : PySem.Str} {m₀ : PySem.Str → Option Value} {P : Value → Option Value → Option Value → Prop} {need : List (Addr × Obj)} {s s₂ : Shared} {Q : Flow → Shared → Prop} (h : Q .next s₂) : TriPost h₀ L a b c k m₀ P need s Q .brk s₂ := h
/-- what is left of a room's text behind its sign, and the sign's side -/
inductive BodyIs (z : PySem.Str) : PySem.Str → Int → Prop
  | m (d1 : (PySem.Txt.slice z none (some 1) == PySem.Str.ofString "-") = true) : BodyIs z (PySem.Txt.slice z (some 1) none) (-1)
  | p (d1 : (PySem.Txt.slice z none (some 1) == PySem.Str.ofString "-") = false) (d2 : (PySem.Txt.slice z none (some 1) == PySem.Str.ofString "+") = true) : BodyIs z (PySem.Txt.slice z (some 1) none) 1
  | n (d1 : (PySem.Txt.slice z none (some 1) == PySem.Str.ofString "-") = false) (d2 : (PySem.Txt.slice z none (some 1) == PySem.Str.ofString "+") = false) : BodyIs z z 1
section
variable {z y : PySem.Str} {sd : Int}
theorem BodyIs.sideM (h : BodyIs z y sd) (d : (PySem.Txt.slice z none (some 1) == PySem.Str.ofString "-") = true) : -1 = sd := by cases h <;> simp_all
theorem BodyIs.sideP (h : BodyIs z y sd) (d : (PySem.Txt.slice z none (some 1) == PySem.Str.ofString "-") = false) : 1 = sd := by cases h <;> simp_all
theorem BodyIs.cutM (h : BodyIs z y sd) (d : (PySem.Txt.slice z none (some 1) == PySem.Str.ofString "-") = true) : PySem.Txt.slice z (some 1) none = y := by cases h <;> simp_all
theorem BodyIs.cutP (h : BodyIs z y sd) (d : (PySem.Txt.slice z none (some 1) == PySem.Str.ofString "+") = true) : PySem.Txt.slice z (some 1) none = y := by cases h <;> simp_all
theorem BodyIs.cutN (h : BodyIs z y sd) (d1 : (PySem.Txt.slice z none (some 1) == PySem.Str.ofString "-") = false) (d2 : (PySem.Txt.slice z none (some 1) == PySem.Str.ofString "+") = false) : z = y := by cases h <;> simp_all
end
theorem BodyIs.mul {z y : PySem.Str} {sd n : Int} (h : BodyIs z y sd) : PySem.IntMulOk sd n := by cases h <;> exact PySem.IntMulOk.of_left (by decide +kernel)
abbrev SideOf {z y : PySem.Str} {sd : Int} (_ : BodyIs z y sd) : Int := sd
abbrev TextOf {z y : PySem.Str} {sd : Int} (_ : BodyIs z y sd) : PySem.Str := y
set_option maxHeartbeats 16000000 in
theorem c_num (w : World) (mean : ExcName → Option Value) (mg mb : Str → Option Value) (x y : PySem.Str) (sd : Int) (rs : List (List Nat)) (t : Tok) (hL : x.length ≤ 10) (hY : y.length ≤ 10) (hS : SplitAs y rs) (hB : BodyIs (PySem.Txt.stripChars x (PySem.Str.ofString " \t\n\r\x0b\x0c")) y sd) : C w mean mg mb 101 8 32 [.str x t] (cVal (IsNum ((runsI rs 0).map fun n => sd * n))) := by
  w_top off
  k_with_none
  (k_with "exec For Name Name cons nil" => (k_here; (rename Fr _ _ _ _ => lF'); (with_unfolding_all refine' For_invVF lF' ?wq7k1 ?wq7k2 ?_; (case wq7k1 => exact rfl); (case wq7k2 => exact rfl); k_whole)))
  (k_with "exec For Name Call cons nil" => (k_here; (rename Fr _ _ _ _ => lF'); (with_unfolding_all refine' For_invVF lF' ?wq7k1 ?wq7k2 ?_; (case wq7k1 => exact rfl); (case wq7k2 => exact rfl); k_whole)))
  (k_with "pyIter ref" => (k_here; (with_reducible show wpAny _ _ (pyIter (Value.ref _)) (fun it s₂ => LoopAtV _ _ _ _ _ _ _ _ _ it s₂) _ _); (with_reducible rename SplitAs _ _ => hS9); k_dflt (refine' loop_triL (a := PySem.Str.ofString "value") (b := PySem.Str.ofString "sign") (c := PySem.Str.ofString "sign") (RunJof hS9) ?wq7zh ?wq7zF ?wq7zN ?wq7zm ?wq7zl ?wq7zJ ?_ ?_; (case wq7zh => exact rfl); (case wq7zF => k_asm); (case wq7zN => k_asm); (case wq7zm => (repeat (first | (exact List.mem_cons_self) | (with_reducible assumption) | (with_reducible refine List.mem_cons_of_mem _ ?_) | (with_reducible refine List.mem_append_left _ ?_)))); (case wq7zl => with_unfolding_all exact rfl); (case wq7zJ => exact runJ0)); (rotate_left 1; (intro x9 xb9 xc9 u9 h9 tk9 hJ9 F9 N9; k_dflt (obtain ⟨n9, t9, ex9, hn9⟩ := hJ9; subst ex9; replace hn9 := run_all hS9 (by assumption) hn9); (try dsimp only); (try k_fold)); rotate_right 1; (intro i9 v9 x9 xb9 xc9 h9 tk9 own9 hi9 hv9 hJ9 F9 N9; k_dflt (obtain ⟨r9, tr9, hr9, ev9, ha9⟩ := run_item hS9 (by assumption) hv9; obtain ⟨n9, t9, ex9, hn9⟩ := hJ9; subst ev9 ex9; have hR9 := RunAt.mk hr9 hn9; clear hr9 hn9); (try simp only [List.cons_append, List.nil_append] at N9); (try dsimp only); (try k_fold)))))
  (k_with "pyIter str" => (k_here; (with_reducible rename RunAt _ _ _ _ => hR9); k_dflt (refine' loop_varC (a := PySem.Str.ofString "value") (SignJof hR9) ?wq7zh ?wq7zy ?wq7zF ?wq7zN ?wq7zl ?wq7zJ ?_ ?_; (case wq7zh => exact rfl); (case wq7zy => assumption); (case wq7zF => k_asm); (case wq7zN => k_asm); (case wq7zl => with_unfolding_all exact rfl); (case wq7zJ => exact signJ0)); (rotate_left 1; (intro x9 u9 h9 tk9 hJ9 F9 N9; k_dflt (obtain ⟨m9, t9, ex9, hm9⟩ := sign_all hJ9; subst ex9); (try dsimp only); (try k_fold)); rotate_right 1; (intro i9 v9 x9 h9 tk9 own9 hi9 hv9 hJ9 F9 N9; k_dflt (obtain ⟨c9, tc9, hc9, ev9⟩ := sign_item hv9; obtain ⟨m9, t9, ex9, hm9⟩ := hJ9; subst ev9 ex9); (try simp only [List.cons_append, List.nil_append] at N9); (try dsimp only); (try k_fold)))))
  (k_with "TriPost ret" => (k_here; (refine triRet ?_); (try dsimp only)))
  (k_with "VarPost ret" => (k_here; (refine varRet ?_); (try dsimp only)))
  (k_with "eval IfExp" => (k_here; (fail_if_success (with_reducible rename JMark => jM')); (with_reducible rename BodyIs _ _ _ => hB9); k_dflt ((refine' joinI (SideOf hB9) ?wq7F ?wq7N ?_ ?_); (case wq7F => k_asm); (case wq7N => k_asm)); (rotate_left 1; (intro h9 tk9 t9 F9 N9; (try dsimp only [SideOf, TextOf] at F9); (try dsimp only [SideOf, TextOf]); (try k_fold)); rotate_right 1; intro jM')))
  (k_with "JI" => ((with_reducible rename BodyIs _ _ _ => hB9); k_dflt ((refine' JI.intro ?wq7e ?wq7F ?wq7N ?wq7S); (case wq7F => k_asm); (case wq7N => k_asm); (case wq7S => kcf_all); (case wq7e => first | with_reducible exact hB9.sideM (by with_reducible assumption) | with_reducible exact hB9.sideP (by with_reducible assumption)))))
  (k_with "exec If" => (k_here; (with_reducible show wpAny _ _ (exec (PySem.Stmt.If (PySem.Expr.BoolOp _ _ _) _ _ _) _) _ _ _); (fail_if_success (with_reducible rename JMark => jM')); (with_reducible rename BodyIs _ _ _ => hB9); k_dflt ((refine' joinG (TextOf hB9) (PySem.Str.ofString "body") ?wq7F ?wq7N ?_ ?_); (case wq7F => k_asm); (case wq7N => k_asm)); (rotate_left 1; (intro h9 tk9 t9 F9 N9; (try dsimp only [SideOf, TextOf] at F9); (try dsimp only [SideOf, TextOf]); (try k_fold)); rotate_right 1; intro jM')))
  (k_with "JG" => ((with_reducible rename BodyIs _ _ _ => hB9); k_dflt ((refine' JG.intro ?wq7a ?wq7e ?wq7m ?wq7F ?wq7N ?wq7S); (case wq7F => k_asm); (case wq7N => k_asm); (case wq7S => kcf_all); (case wq7a => with_unfolding_all exact rfl); (case wq7m => (intro z9 hz1; simp only [if_neg hz1])); (case wq7e => first | with_reducible exact hB9.cutM (by with_reducible assumption) | with_reducible exact hB9.cutP (by with_reducible assumption) | with_reducible exact hB9.cutN (by with_reducible assumption) (by with_reducible assumption)))))
  (k_with "binaryOp Mult int int" => (k_here; (with_reducible rename BodyIs _ _ _ => hB9); with_reducible refine mul_int (hm := hB9.mul) ?_))
  unfold C Ctr; k_fill
  intro dp un gd cn cs a ccd cl outer A₀ base h₀ L m news s Q E B F X N T hk hd hu hret
  have D0 : KtsDicts [] h₀ := ktsDicts_nil
  refine wpAny_call ?_
  k_dflt cell_enter
  (refine tk_any ?_; intro tk0)
  rename Fr _ _ _ _ => F'
  (refine fr_in1 (PySem.Str.ofString "room") F' (by with_unfolding_all exact rfl) ?_; clear F'; intro m0 F')
  k_steps
  all_goals (try k_data)
  all_goals first
  | (refine' endVal (Q := Q) (s := s) (hret) ?ze ?zF ?zN ?zS; (case zF => k_asm); (case zN => k_asm); (case zS => kcj_all); (case ze => (first | exact isNumX (runX (by assumption) (by assumption)) | exact isNumX (signX (by assumption) (by assumption) (by assumption) (by assumption) (by assumption)) | exact isNumV (by assumption))))
  | (refine' VarPost.next ?zF ?zN ?zS ?za ?zm ?zP; (case zF => k_asm); (case zN => k_asm); (case zS => kcf_all); (case za => with_unfolding_all exact rfl); (case zm => (intro z9 hz1 hz2; simp only [if_neg hz1, if_neg hz2])); (case zP => exact signS (by assumption) (by assumption) (by assumption) (by assumption) (by assumption)))
  | (refine' TriPost.next ?zF ?zN ?zS ?za ?zm ?zP; (case zF => k_asm); (case zN => k_asm); (case zS => kcf_all); (case za => with_unfolding_all exact rfl); (case zm => (intro z9 hz1 hz2 hz3 hz4; simp only [if_neg hz1, if_neg hz2, if_neg hz3, if_neg hz4])); (case zP => exact runS (by assumption) (by assumption) (by assumption)))
theorem c_numM (w : World) (mean : ExcName → Option Value) (mg mb : Str → Option Value) (x : PySem.Str) (rs : List (List Nat)) (t : Tok) (hL : x.length ≤ 10) (hS : SplitAs (PySem.Txt.slice (PySem.Txt.stripChars x (PySem.Str.ofString " \t\n\r\x0b\x0c")) (some 1) none) rs) (d1 : (PySem.Txt.slice (PySem.Txt.stripChars x (PySem.Str.ofString " \t\n\r\x0b\x0c")) none (some 1) == PySem.Str.ofString "-") = true) : C w mean mg mb 101 8 32 [.str x t] (cVal (IsNum ((runsI rs 0).map fun n => -1 * n))) := c_num w mean mg mb x _ (-1) rs t hL (Nat.le_trans (PySem.Txt.slice_le _ _ _) (Nat.le_trans (len_stripChars _ _) hL)) hS (.m d1)
theorem c_numP (w : World) (mean : ExcName → Option Value) (mg mb : Str → Option Value) (x : PySem.Str) (rs : List (List Nat)) (t : Tok) (hL : x.length ≤ 10) (hS : SplitAs (PySem.Txt.slice (PySem.Txt.stripChars x (PySem.Str.ofString " \t\n\r\x0b\x0c")) (some 1) none) rs) (d1 : (PySem.Txt.slice (PySem.Txt.stripChars x (PySem.Str.ofString " \t\n\r\x0b\x0c")) none (some 1) == PySem.Str.ofString "-") = false)(d2 : (PySem.Txt.slice (PySem.Txt.stripChars x (PySem.Str.ofString " \t\n\r\x0b\x0c")) none (some 1) == PySem.Str.ofString "+") = true) : C w mean mg mb 101 8 32 [.str x t] (cVal (IsNum ((runsI rs 0).map fun n => 1 * n))) := c_num w mean mg mb x _ (1) rs t hL (Nat.le_trans (PySem.Txt.slice_le _ _ _) (Nat.le_trans (len_stripChars _ _) hL)) hS (.p d1 d2)
theorem c_numN (w : World) (mean : ExcName → Option Value) (mg mb : Str → Option Value) (x : PySem.Str) (rs : List (List Nat)) (t : Tok) (hL : x.length ≤ 10) (hS : SplitAs (PySem.Txt.stripChars x (PySem.Str.ofString " \t\n\r\x0b\x0c")) rs) (d1 : (PySem.Txt.slice (PySem.Txt.stripChars x (PySem.Str.ofString " \t\n\r\x0b\x0c")) none (some 1) == PySem.Str.ofString "-") = false)(d2 : (PySem.Txt.slice (PySem.Txt.stripChars x (PySem.Str.ofString " \t\n\r\x0b\x0c")) none (some 1) == PySem.Str.ofString "+") = false) : C w mean mg mb 101 8 32 [.str x t] (cVal (IsNum ((runsI rs 0).map fun n => 1 * n))) := c_num w mean mg mb x _ (1) rs t hL (Nat.le_trans (len_stripChars _ _) hL) hS (.n d1 d2)
end Mine
end
section
namespace Mine
/-- the weekday of the year's doomsday, as the law counts it -/
abbrev doomI (y : Int) : Int := (2 + 5 * (y % 4) + 4 * (y % 100) + 6 * (y % 400)) % 7
theorem doom_mod (y : Int) : (ylI y - 303 - doomI y) % 7 = (3 - dbyI y) % 7 := by
  have hs := dby_succ y
  have e : dbyI (y + 1) = y * 365 + y / 4 - y / 100 + y / 400 := by unfold dbyI; rw [Int.add_sub_cancel]
  rw [e] at hs
  generalize ylI y = z at *
  generalize dbyI y = b at *
  unfold doomI
  omega
/-- the law's Thursday, counted in its year -/
abbrev thL (y w : Int) : Int := (ylI y - 303 - doomI y) % 7 + 7 * w - 6
theorem thL_is (y w : Int) : dbyI y + thL y w = monI y + (w - 1) * 7 + 3 := by
  have h := th_mon y w
  show dbyI y + ((ylI y - 303 - doomI y) % 7 + 7 * w - 6) = _
  rw [doom_mod, ← h]
  show _ = dbyI y + 1 + (3 - dbyI y).fmod 7 + 7 * (w - 1)
  rw [Int.fmod_eq_emod_of_nonneg _ (by decide)]
  omega
theorem thL_week {y w : Int} : WeekOk y w ↔ 1 ≤ thL y w ∧ thL y w ≤ ylI y := by
  rw [week_iff]
  have h := thL_is y w
  have hs := dby_succ y
  omega
theorem thL_day (y w k : Int) : dbyI y + (thL y w + k - 4) = monI y + ((w - 1) * 7 + (k - 1)) := by
  have h := thL_is y w
  omega
end Mine
end
section
namespace Mine
/-- the days of the year ahead of the month i + 1, all its days behind the twelfth -/
def preI (y : Int) (i : Nat) : Int := if i = 12 then ylI y else dbmI y ((i : Int) + 1)
theorem pre_tab : ∀ (i : Fin 12) (lp : Bool),
    (if i.val + 1 = 12 then (365 : Int) + (if lp = true then 1 else 0) else [-1, 0, 31, 59, 90, 120, 151, 181, 212, 243, 273, 304, 334].getD ((((i.val + 1 : Nat) : Int) + 1)).toNat 0 + if 2 < ((i.val + 1 : Nat) : Int) + 1 ∧ lp = true then 1 else 0)
      = ([-1, 0, 31, 59, 90, 120, 151, 181, 212, 243, 273, 304, 334].getD (((i.val : Nat) : Int) + 1).toNat 0 + if 2 < ((i.val : Nat) : Int) + 1 ∧ lp = true then 1 else 0)
        + (if ((i.val : Nat) : Int) + 1 = 2 ∧ lp = true then 29 else [-1, 31, 28, 31, 30, 31, 30, 31, 31, 30, 31, 30, 31].getD (((i.val : Nat) : Int) + 1).toNat 0) := by decide +kernel
theorem pre_next (y : Int) {i : Nat} (h : i < 12) : preI y (i + 1) = preI y i + dimI y ((i : Int) + 1) := by
  have e : preI y i = dbmI y ((i : Int) + 1) := if_neg (by omega)
  rw [e]
  exact pre_tab ⟨i, h⟩ (leapB y)
theorem pre_end (y : Int) : preI y 12 = ylI y := if_pos rfl
theorem pre_0 (y : Int) : preI y 0 = 0 := (if_neg (by decide)).trans (dbm1 y)
structure YearAt (y n : Int) : Prop where
  lo : 1 ≤ n
  hi : n ≤ ylI y
def MonJ (y n : Int) (i : Nat) (x : Value) (b _ : Option Value) : Prop := ∃ (p : Int) (tp tm : Tok), x = .int p tp ∧ b = some (.int ((i : Int) + 1) tm) ∧ 1 ≤ p ∧ p + preI y i = n
abbrev MonJof {y n : Int} (_ : YearAt y n) := MonJ y n
theorem mon0 {y n : Int} (Y : YearAt y n) {t u : Tok} {c : Option Value} : MonJ y n 0 (.int n t) (some (.int 1 u)) c := ⟨n, t, u, rfl, rfl, Y.lo, by rw [pre_0]; omega⟩
structure MonAt (y n : Int) (i : Nat) (p : Int) : Prop where
  lt : i < 12
  lo : 1 ≤ p
  eq : p + preI y i = n
theorem dim_len : ∀ (i : Fin 12) (lp : Bool), (if ((i.val : Nat) : Int) + 1 = 2 ∧ lp = true then 29 else [-1, 31, 28, 31, 30, 31, 30, 31, 31, 30, 31, 30, 31].getD (((i.val : Nat) : Int) + 1).toNat 0)
    = [31, (365 : Int) + (if lp = true then 1 else 0) - 337, 31, 30, 31, 30, 31, 31, 30, 31, 30, 31].getD i.val 0 := by decide +kernel
theorem len_is {y : Int} {i : Nat} (h : i < 12) : dimI y ((i : Int) + 1) = [31, ylI y - 337, 31, 30, 31, 30, 31, 31, 30, 31, 30, 31].getD i 0 := dim_len ⟨i, h⟩ (leapB y)
theorem len_item {y : Int} {i : Nat} {v : Value} {a b c d e f g h j k l m : Tok} (hv : [Value.int 31 a, .int (ylI y - 337) b, .int 31 c, .int 30 d, .int 31 e, .int 30 f, .int 31 g, .int 31 h, .int 30 j, .int 31 k, .int 30 l, .int 31 m][i]? = some v) :
    i < 12 ∧ ∃ t, v = .int (dimI y ((i : Int) + 1)) t := by
  have hi : i < 12 := by
    obtain ⟨h, _⟩ := List.getElem?_eq_some_iff.mp hv
    simpa using h
  refine ⟨hi, ?_⟩
  rw [len_is hi]
  match i, hi, hv with
  | 0, _, hv => cases hv; exact ⟨_, rfl⟩
  | 1, _, hv => cases hv; exact ⟨_, rfl⟩
  | 2, _, hv => cases hv; exact ⟨_, rfl⟩
  | 3, _, hv => cases hv; exact ⟨_, rfl⟩
  | 4, _, hv => cases hv; exact ⟨_, rfl⟩
  | 5, _, hv => cases hv; exact ⟨_, rfl⟩
  | 6, _, hv => cases hv; exact ⟨_, rfl⟩
  | 7, _, hv => cases hv; exact ⟨_, rfl⟩
  | 8, _, hv => cases hv; exact ⟨_, rfl⟩
  | 9, _, hv => cases hv; exact ⟨_, rfl⟩
  | 10, _, hv => cases hv; exact ⟨_, rfl⟩
  | 11, _, hv => cases hv; exact ⟨_, rfl⟩
theorem monS {y n p : Int} {i : Nat} {t u : Tok} {c : Option Value} (M : MonAt y n i p) (h : ¬ p ≤ dimI y ((i : Int) + 1)) : MonJ y n (i + 1) (.int (p - dimI y ((i : Int) + 1)) t) (some (.int ((i : Int) + 1 + 1) u)) c :=
  ⟨_, _, _, rfl, rfl, by omega, by rw [pre_next y M.lt]; have := M.eq; omega⟩
theorem mon_end {y n : Int} (Y : YearAt y n) {x : Value} {b c : Option Value} (h : MonJ y n 12 x b c) : False := by
  obtain ⟨p, _, _, _, _, h1, h2⟩ := h
  rw [pre_end] at h2
  have := Y.hi
  omega
theorem mon_day {y n p : Int} {i : Nat} {t u v : Tok} {k : Nat} (M : MonAt y n i p) (h : p ≤ dimI y ((i : Int) + 1)) : IsLst (dbyI y + n) (W.listOf #[.int y t, .int ((i : Int) + 1) u, .int p v] k) := by
  have h1 := M.lt
  have h2 := M.eq
  have e : preI y i = dbmI y ((i : Int) + 1) := if_neg (by omega)
  rw [e] at h2
  exact ⟨_, _, _, _, _, _, _, rfl, by omega, by omega, M.lo, h, by omega⟩
/-- the year that holds the day -/
theorem year_in {y n : Int} (h1 : 1 ≤ n) (h2 : n ≤ ylI y) : YearAt y n := ⟨h1, h2⟩
theorem yl_lo (y : Int) : 365 ≤ ylI y ∧ ylI y ≤ 366 := by unfold ylI; split <;> omega
theorem year_back {y n : Int} (h1 : n < 1) (h2 : -300 < n) : YearAt (y - 1) (n + ylI (y - 1)) := ⟨by have := yl_lo (y - 1); omega, by omega⟩
theorem year_on {y n : Int} (h1 : ylI y < n) (h2 : n < 700) : YearAt (y + 1) (n - ylI y) := ⟨by omega, by have := yl_lo y; have := yl_lo (y + 1); omega⟩
theorem lst_back {y n : Int} {o : Obj} (h : IsLst (dbyI (y - 1) + (n + ylI (y - 1))) o) : IsLst (dbyI y + n) o := by
  have := dby_succ (y - 1)
  rw [Int.sub_add_cancel] at this
  have e : dbyI (y - 1) + (n + ylI (y - 1)) = dbyI y + n := by omega
  rwa [e] at h
theorem lst_on {y n : Int} {o : Obj} (h : IsLst (dbyI (y + 1) + (n - ylI y)) o) : IsLst (dbyI y + n) o := by
  have := dby_succ y
  have e : dbyI (y + 1) + (n - ylI y) = dbyI y + n := by omega
  rwa [e] at h
end Mine
end
section
namespace Mine
set_option maxHeartbeats 0 in
theorem c_date (w : World) (mean : ExcName → Option Value) (mg mb : Str → Option Value) (y n : Int) (t u : Tok) (b1 : -300 < n) (b2 : n < 700) : C w mean mg mb 115 6 24 [.int y t, .int n u] (cNew (IsLst (dbyI y + n))) := by
  w_top off
  k_with_none
  (k_with "call ref" => (k_dflt ( (refine' use ?wq7c ?wq7k1 ?wq7k2 ?wq7k3 ?wq7k4 ?wq7k5 ?wq7k6 ?wq7k7 ?wq7k8 ?_); (case wq7k2 => k_asm); (case wq7k1 => k_asm); (case wq7k3 => k_asm); (case wq7k4 => k_asm); (case wq7k5 => k_asm); (case wq7c => first  | exact c_length _ _ _ _ _ _); (case wq7k6 => first | exact rfl | assumption); (case wq7k7 => ktr_room); (case wq7k8 => ktr_units); (intro t9 h9 tk9 F9 N9; (try dsimp only); (try k_fold)))))
  (k_with "exec For Name Tuple cons nil" => (k_here; (rename Fr _ _ _ _ => lF'); (with_unfolding_all refine' For_invVF lF' ?wq7k1 ?wq7k2 ?_; (case wq7k1 => exact rfl); (case wq7k2 => exact rfl); k_whole)))
  (k_with "pyIter ref" => (k_here; (with_reducible show wpAny _ _ (pyIter (Value.ref _)) (fun it s₂ => LoopAtV _ _ _ _ _ _ _ _ _ it s₂) _ _); (with_reducible rename YearAt _ _ => hY9); k_dflt (refine' loop_triT (vs := [.int _ _, .int _ _, .int _ _, .int _ _, .int _ _, .int _ _, .int _ _, .int _ _, .int _ _, .int _ _, .int _ _, .int _ _]) (a := PySem.Str.ofString "place") (b := PySem.Str.ofString "month") (c := PySem.Str.ofString "month") (MonJof hY9) ?wq7zh ?wq7zF ?wq7zN ?wq7zm ?wq7zl ?wq7zJ ?_ ?_; (case wq7zh => exact rfl); (case wq7zF => k_asm); (case wq7zN => k_asm); (case wq7zm => (repeat (first | (with_reducible exact List.mem_cons_self) | (with_reducible refine List.mem_cons_of_mem _ ?_)))); (case wq7zl => with_unfolding_all exact rfl); (case wq7zJ => with_unfolding_all exact mon0 hY9)); (rotate_left 1; (intro x9 xb9 xc9 u9 h9 tk9 hJ9 F9 N9; exact (mon_end hY9 hJ9).elim); rotate_right 1; (intro i9 v9 x9 xb9 xc9 h9 tk9 own9 hi9 hv9 hJ9 F9 N9; k_dflt (have hq9 := len_item hv9; clear hv9 hi9; obtain ⟨hi9, t9, ev9⟩ := hq9; obtain ⟨p9, tp9, tm9, ex9, eb9, hp9, he9⟩ := hJ9; have hM9 := MonAt.mk hi9 hp9 he9; clear hp9 he9; subst ev9 ex9 eb9); (try simp only [List.cons_append, List.nil_append] at N9); (try dsimp only); (try k_fold)))))
  (k_with "TriPost brk" => (k_here; (refine triBrk ?_); (try dsimp only)))
  unfold C Ctr; k_fill
  intro dp un gd cn cs a ccd cl outer A₀ base h₀ L m news s Q E B F X N T hk hd hu hret
  have D0 : KtsDicts [] h₀ := ktsDicts_nil
  refine wpAny_call ?_
  k_dflt cell_enter
  (refine tk_any ?_; intro tk0)
  rename Fr _ _ _ _ => F'
  (refine fr_in2 (PySem.Str.ofString "year") (PySem.Str.ofString "place") F' (by with_unfolding_all exact rfl) (by with_unfolding_all exact rfl) ?_; clear F'; intro m0 F')
  have hw : n < 1 ∨ ylI y < n ∧ 1 ≤ n ∨ 1 ≤ n ∧ n ≤ ylI y := by omega
  have hyl := yl_lo y
  rcases hw with hw | ⟨hw, hw2⟩ | ⟨hw, hw2⟩
  · have hY := year_back (y := y) hw b1
    clear hyl
    k_steps
    all_goals (try k_data)
    all_goals first
    | (exfalso; k_dflt omega)
    | (refine' TriPost.next ?zF ?zN ?zS ?za ?zm ?zP; (case zF => k_asm); (case zN => k_asm); (case zS => kcf_all); (case za => with_unfolding_all exact rfl); (case zm => (intro z9 hz1 hz2 hz3 hz4; simp only [if_neg hz1, if_neg hz2, if_neg hz3, if_neg hz4])); (case zP => with_unfolding_all exact monS (by assumption) (by assumption)))
    | ((with_reducible refine' endN (Q := Q) (s := s) hret ?e ?F ?N ?S ?l); (case F => k_asm); (case N => k_asm); (case S => kcj_all); (case l => first | with_reducible assumption | exact lt0 (by with_reducible assumption) | exact lt0 (And.right (by with_reducible assumption)) | exact lt0 (And.right (And.right (by with_reducible assumption))) | exact lt0 (And.right (And.right (And.right (by with_reducible assumption)))) | exact lt0 (And.right (And.right (And.right (And.right (by with_reducible assumption))))) | exact lt0 (And.right (And.right (And.right (And.right (And.right (by with_reducible assumption)))))) | exact lt0 (And.right (And.right (And.right (And.right (And.right (And.right (by with_reducible assumption))))))) | exact lt0 (And.right (And.right (And.right (And.right (And.right (And.right (And.right (by with_reducible assumption)))))))) | exact ltX (by with_reducible assumption) | exact ltX (And.right (by with_reducible assumption)) | exact ltX (And.right (And.right (by with_reducible assumption))) | exact ltX (And.right (And.right (And.right (by with_reducible assumption)))) | exact ltX (And.right (And.right (And.right (And.right (by with_reducible assumption))))) | exact ltX (And.right (And.right (And.right (And.right (And.right (by with_reducible assumption)))))) | exact ltX (And.right (And.right (And.right (And.right (And.right (And.right (by with_reducible assumption))))))) | exact ltX (And.right (And.right (And.right (And.right (And.right (And.right (And.right (by with_reducible assumption))))))))); (case e => exact lst_back (mon_day (by assumption) (by assumption))))
  · have hY := year_on hw b2
    k_steps
    all_goals (try k_data)
    all_goals first
    | (exfalso; k_dflt omega)
    | (refine' TriPost.next ?zF ?zN ?zS ?za ?zm ?zP; (case zF => k_asm); (case zN => k_asm); (case zS => kcf_all); (case za => with_unfolding_all exact rfl); (case zm => (intro z9 hz1 hz2 hz3 hz4; simp only [if_neg hz1, if_neg hz2, if_neg hz3, if_neg hz4])); (case zP => with_unfolding_all exact monS (by assumption) (by assumption)))
    | ((with_reducible refine' endN (Q := Q) (s := s) hret ?e ?F ?N ?S ?l); (case F => k_asm); (case N => k_asm); (case S => kcj_all); (case l => first | with_reducible assumption | exact lt0 (by with_reducible assumption) | exact lt0 (And.right (by with_reducible assumption)) | exact lt0 (And.right (And.right (by with_reducible assumption))) | exact lt0 (And.right (And.right (And.right (by with_reducible assumption)))) | exact lt0 (And.right (And.right (And.right (And.right (by with_reducible assumption))))) | exact lt0 (And.right (And.right (And.right (And.right (And.right (by with_reducible assumption)))))) | exact lt0 (And.right (And.right (And.right (And.right (And.right (And.right (by with_reducible assumption))))))) | exact lt0 (And.right (And.right (And.right (And.right (And.right (And.right (And.right (by with_reducible assumption)))))))) | exact ltX (by with_reducible assumption) | exact ltX (And.right (by with_reducible assumption)) | exact ltX (And.right (And.right (by with_reducible assumption))) | exact ltX (And.right (And.right (And.right (by with_reducible assumption)))) | exact ltX (And.right (And.right (And.right (And.right (by with_reducible assumption))))) | exact ltX (And.right (And.right (And.right (And.right (And.right (by with_reducible assumption)))))) | exact ltX (And.right (And.right (And.right (And.right (And.right (And.right (by with_reducible assumption))))))) | exact ltX (And.right (And.right (And.right (And.right (And.right (And.right (And.right (by with_reducible assumption))))))))); (case e => exact lst_on (mon_day (by assumption) (by assumption))))
  · have hY := year_in hw hw2
    k_steps
    all_goals (try k_data)
    all_goals first
    | (exfalso; k_dflt omega)
    | (refine' TriPost.next ?zF ?zN ?zS ?za ?zm ?zP; (case zF => k_asm); (case zN => k_asm); (case zS => kcf_all); (case za => with_unfolding_all exact rfl); (case zm => (intro z9 hz1 hz2 hz3 hz4; simp only [if_neg hz1, if_neg hz2, if_neg hz3, if_neg hz4])); (case zP => with_unfolding_all exact monS (by assumption) (by assumption)))
    | ((with_reducible refine' endN (Q := Q) (s := s) hret ?e ?F ?N ?S ?l); (case F => k_asm); (case N => k_asm); (case S => kcj_all); (case l => first | with_reducible assumption | exact lt0 (by with_reducible assumption) | exact lt0 (And.right (by with_reducible assumption)) | exact lt0 (And.right (And.right (by with_reducible assumption))) | exact lt0 (And.right (And.right (And.right (by with_reducible assumption)))) | exact lt0 (And.right (And.right (And.right (And.right (by with_reducible assumption))))) | exact lt0 (And.right (And.right (And.right (And.right (And.right (by with_reducible assumption)))))) | exact lt0 (And.right (And.right (And.right (And.right (And.right (And.right (by with_reducible assumption))))))) | exact lt0 (And.right (And.right (And.right (And.right (And.right (And.right (And.right (by with_reducible assumption)))))))) | exact ltX (by with_reducible assumption) | exact ltX (And.right (by with_reducible assumption)) | exact ltX (And.right (And.right (by with_reducible assumption))) | exact ltX (And.right (And.right (And.right (by with_reducible assumption)))) | exact ltX (And.right (And.right (And.right (And.right (by with_reducible assumption))))) | exact ltX (And.right (And.right (And.right (And.right (And.right (by with_reducible assumption)))))) | exact ltX (And.right (And.right (And.right (And.right (And.right (And.right (by with_reducible assumption))))))) | exact ltX (And.right (And.right (And.right (And.right (And.right (And.right (And.right (by with_reducible assumption))))))))); (case e => exact id (mon_day (by assumption) (by assumption))))
end Mine
end
section
namespace Mine
theorem str_len (l : List Nat) : (⟨l.toArray⟩ : PySem.Str).length = l.length := List.size_toArray
/-- the sign at a place -/
theorem item_at {l : List Nat} {i : Int} {k c : Nat} (h0 : 0 ≤ i) (hi : i.toNat = k) (h : l[k]? = some c) : PySem.Txt.item ⟨l.toArray⟩ i = ⟨#[c]⟩ := by
  obtain ⟨hk, hc⟩ := List.getElem?_eq_some_iff.mp h
  unfold PySem.Txt.item PySem.Txt.charAt seqIndex?
  rw [str_len]
  have h1 : ¬ i < 0 := by omega
  have h2 : (decide (0 ≤ i) && decide (i < (l.length : Int))) = true := by simp; omega
  simp only [h1, if_false, h2, if_true, Option.bind_some, hi]
  simp [h]
theorem cut_head (p q : List Nat) {j : Int} (hj : j = (p.length : Int)) : PySem.Txt.slice ⟨(p ++ q).toArray⟩ none (some j) = ⟨p.toArray⟩ := by
  have := eq_of_beq (slice_closes_to (x := ⟨(p ++ q).toArray⟩) (j := j) (by subst hj; simp; omega))
  rw [this]
  subst hj
  simp
end Mine
end
section
open PySem PySem.W PyProof.Rows PySem.NumText
namespace Mine
theorem slice_one (c : Nat) (b : List Nat) : PySem.Txt.slice ⟨(c :: b).toArray⟩ none (some 1) = ⟨#[c]⟩ := cut_head [c] b rfl
theorem slice_nil : PySem.Txt.slice ⟨([] : List Nat).toArray⟩ none (some 1) = ⟨#[]⟩ := by rfl
theorem slice_rest (c : Nat) (b : List Nat) : PySem.Txt.slice ⟨(c :: b).toArray⟩ (some 1) none = ⟨b.toArray⟩ := by
  cases b with
  | nil => rfl
  | cons d b =>
    rw [slice_from_eq (b := ((c :: d :: b).length : Int)) (by omega) (by rw [str_len]; simp; omega) (by rw [str_len])]
    simp
theorem split_as {b : List Nat} (hb : ∀ c ∈ b, c < 128) : SplitAs ⟨b.toArray⟩ (splitU b) := ⟨split_is b, fun r hr c hc => hb c (splitU_mem b r hr c hc)⟩
theorem one_is {c d : Nat} : ((⟨#[c]⟩ : PySem.Str) == ⟨#[d]⟩) = decide (c = d) := by
  rw [Bool.eq_iff_iff, beq_iff_eq, decide_eq_true_eq]
  constructor
  · intro h; simpa using h
  · rintro rfl; rfl
theorem lit_minus : PySem.Str.ofString "-" = ⟨#[45]⟩ := by decide +kernel
theorem lit_plus : PySem.Str.ofString "+" = ⟨#[43]⟩ := by decide +kernel
theorem c_number (w : World) (mean : ExcName → Option Value) (mg mb : Str → Option Value) (l : List Nat) (t : Tok) (ha : ∀ c ∈ l, 0 < c ∧ c < 128) (hl : l.length ≤ 10) : C w mean mg mb 101 8 32 [.str ⟨l.toArray⟩ t] (cVal (IsNum (numI l))) := by
  have hL : (⟨l.toArray⟩ : PySem.Str).length ≤ 10 := by rw [str_len]; exact hl
  have hz := strip_is l
  have hm : ∀ c ∈ rstr (l.dropWhile blank), c < 128 := fun c hc => (ha c (body_mem hc)).2
  have e : (numI l) = (runsI (splitU (sign (rstr (l.dropWhile blank))).2) 0).map fun n => if (sign (rstr (l.dropWhile blank))).1 = true then -n else n := rfl
  rw [e]
  generalize rstr (l.dropWhile blank) = r at hz hm
  have side (b : List Nat) : (runsI (splitU b) 0).map (fun n => if true = true then -n else n) = (runsI (splitU b) 0).map (fun n => -1 * n) := by congr 1; funext n; rw [if_pos rfl]; omega
  have side2 (b : List Nat) : (runsI (splitU b) 0).map (fun n => if false = true then -n else n) = (runsI (splitU b) 0).map (fun n => 1 * n) := by congr 1; funext n; rw [if_neg (by decide)]; omega
  cases r with
  | nil =>
    show C _ _ _ _ _ _ _ _ (cVal (IsNum ((runsI (splitU []) 0).map fun n => if false = true then -n else n)))
    rw [side2]
    exact c_numN w mean mg mb ⟨l.toArray⟩ (splitU []) t hL (by rw [hz]; exact split_as (by simp)) (by rw [hz, slice_nil]; decide +kernel) (by rw [hz, slice_nil]; decide +kernel)
  | cons c b =>
    have hb : ∀ c ∈ b, c < 128 := fun d hd => hm d (List.mem_cons_of_mem _ hd)
    by_cases h1 : c = 45
    · subst h1
      show C _ _ _ _ _ _ _ _ (cVal (IsNum ((runsI (splitU b) 0).map fun n => if true = true then -n else n)))
      rw [side]
      exact c_numM w mean mg mb ⟨l.toArray⟩ (splitU b) t hL (by rw [hz, slice_rest]; exact split_as hb) (by rw [hz, slice_one, lit_minus]; rfl)
    · by_cases h2 : c = 43
      · subst h2
        show C _ _ _ _ _ _ _ _ (cVal (IsNum ((runsI (splitU b) 0).map fun n => if false = true then -n else n)))
        rw [side2]
        exact c_numP w mean mg mb ⟨l.toArray⟩ (splitU b) t hL (by rw [hz, slice_rest]; exact split_as hb) (by rw [hz, slice_one, lit_minus]; rfl) (by rw [hz, slice_one, lit_plus]; rfl)
      · rw [sign_of h1 h2]
        dsimp only
        rw [side2]
        exact c_numN w mean mg mb ⟨l.toArray⟩ (splitU (c :: b)) t hL (by rw [hz]; exact split_as hm) (by rw [hz, slice_one, lit_minus, one_is, decide_eq_false h1]) (by rw [hz, slice_one, lit_plus, one_is, decide_eq_false h2])
/-- how far a room's number goes -/
theorem runI_bound : ∀ (r : List Nat) (v n : Int) (k : Nat), 0 ≤ v → v < 10 ^ k → runI r v = some n → 0 ≤ n ∧ n < 10 ^ (k + r.length)
  | [], v, n, k, h0, h1, h => by simp [runI] at h; subst h; exact ⟨h0, by simpa using h1⟩
  | c :: r, v, n, k, h0, h1, h => by
    unfold runI at h
    split at h
    · rename_i hd
      have := runI_bound r _ n (k + 1) (by omega) (by rw [Int.pow_succ]; omega) h
      rw [List.length_cons, show k + (r.length + 1) = k + 1 + r.length from by omega]
      exact this
    · cases h
theorem splitU_len : ∀ (l : List Nat), (splitU l).flatten.length ≤ l.length
  | [] => by simp [splitU]
  | c :: l => by
    have ih := splitU_len l
    unfold splitU
    split
    · simp only [List.flatten_cons, List.length_append, List.length_cons, List.length_nil]; omega
    · split
      · rename_i hs; simp
      · rename_i r rs hs
        rw [hs] at ih
        simp only [List.flatten_cons, List.length_append, List.length_cons] at ih ⊢; omega
theorem runsI_bound : ∀ (rs : List (List Nat)) (v n : Int) (k : Nat), 0 ≤ v → v < 10 ^ k → runsI rs v = some n → 0 ≤ n ∧ n < 10 ^ (k + rs.flatten.length)
  | [], v, n, k, h0, h1, h => by simp [runsI] at h; subst h; exact ⟨h0, by simpa using h1⟩
  | r :: rs, v, n, k, h0, h1, h => by
    unfold runsI at h
    split at h
    · cases h
    · obtain ⟨m, hm, hn⟩ := Option.bind_eq_some_iff.mp h
      obtain ⟨m0, m1⟩ := runI_bound r v m k h0 h1 hm
      have := runsI_bound rs m n _ m0 m1 hn
      rw [List.flatten_cons, List.length_append, ← Nat.add_assoc]
      exact this
theorem num_bound {l : List Nat} {n : Int} {k : Nat} (hl : l.length ≤ k) (h : numI l = some n) : -(10 ^ k) < n ∧ n < 10 ^ k := by
  unfold numI at h
  obtain ⟨m, hm, rfl⟩ := Option.map_eq_some_iff.mp h
  have a1 : (rstr (sign (l.dropWhile blank)).2).length ≤ (sign (l.dropWhile blank)).2.length := by
    have := (List.dropWhile_sublist (l := (sign (l.dropWhile blank)).2.reverse) blank).length_le
    simpa using this
  have a2 : (sign (l.dropWhile blank)).2.length ≤ (l.dropWhile blank).length := by
    generalize l.dropWhile blank = z
    unfold sign; split <;> simp
  have a3 : (l.dropWhile blank).length ≤ l.length := (List.dropWhile_sublist blank).length_le
  rw [sign_rstr] at hm
  have b := runsI_bound _ 0 m 0 (by decide) (by decide) hm
  have s := splitU_len (rstr (sign (l.dropWhile blank)).2)
  have hle : 0 + (splitU (rstr (sign (l.dropWhile blank)).2)).flatten.length ≤ k := by omega
  have p : (10 : Int) ^ (0 + (splitU (rstr (sign (l.dropWhile blank)).2)).flatten.length) ≤ 10 ^ k := by exact_mod_cast Nat.pow_le_pow_right (n := 10) (by decide) hle
  dsimp only at b
  split <;> omega
end Mine
end
section
namespace Mine
def SheetJ (_ : Nat) (x : Value) (_ _ : Option Value) : Prop := ∃ (l : List Nat) (t : Tok), x = .str ⟨l.toArray⟩ t ∧ l.length = 9 ∧ ∀ c ∈ l, 0 < c ∧ c < 128
structure SheetIs (l : List Nat) : Prop where
  len : l.length = 9
  asc : ∀ c ∈ l, 0 < c ∧ c < 128
theorem SheetIs.small {l : List Nat} (h : SheetIs l) : (⟨l.toArray⟩ : PySem.Str).length ≤ 9 := by rw [str_len, h.len]; decide
theorem sheet0 {y a b : Int} {t : Tok} {i : Nat} {p q : Option Value} (h1 : 0 ≤ y) (h2 : y < 10000) (h3 : 0 ≤ a) (h4 : a < 100) (h5 : 0 ≤ b) (h6 : b < 100) :
    SheetJ i (.str (PySem.Str.empty ++ intSpecTextOf (PySem.Str.ofString "04d") y ++ intSpecTextOf (PySem.Str.ofString "02d") a ++ intSpecTextOf (PySem.Str.ofString "02d") b ++ PySem.Str.ofString "-") t) p q := by
  refine ⟨[dg (y.toNat / 1000), dg (y.toNat / 100), dg (y.toNat / 10), dg y.toNat, dg (a.toNat / 10), dg a.toNat, dg (b.toNat / 10), dg b.toNat, 45], t, ?_, rfl, ?_⟩
  · rw [fmt4 h1 h2, fmt2 h3 h4, fmt2 h5 h6]
    refine congrArg (Value.str · t) ?_
    refine Str.ext' (Array.toList_inj.mp ?_)
    simp only [Str.cps_append, Array.toList_append]
    rfl
  · have d := dg_is
    intro c hc
    simp only [List.mem_cons, List.not_mem_nil, or_false] at hc
    rcases hc with rfl | rfl | rfl | rfl | rfl | rfl | rfl | rfl | rfl <;> first | (constructor <;> (first | decide | (have := d (y.toNat / 1000); have := d (y.toNat / 100); have := d (y.toNat / 10); have := d y.toNat; have := d (a.toNat / 10); have := d a.toNat; have := d (b.toNat / 10); have := d b.toNat; omega)))
theorem nine {l : List Nat} (h : l.length = 9) : ∃ a b c d e f g h i, l = [a, b, c, d, e, f, g, h, i] := by
  match l, h with
  | [a, b, c, d, e, f, g, h, i], _ => exact ⟨a, b, c, d, e, f, g, h, i, rfl⟩
theorem item3 {a b c : Int} {t u v : Tok} {i : Nat} {x : Value} (a0 : 0 ≤ a) (a1 : a < 216) (b0 : 0 ≤ b) (b1 : b < 216) (c0 : 0 ≤ c) (c1 : c < 216) (h : [Value.int a t, .int b u, .int c v][i]? = some x) : ∃ k t, x = .int k t ∧ 0 ≤ k ∧ k < 216 := by
  match i, h with
  | 0, h => cases h; exact ⟨a, t, rfl, a0, a1⟩
  | 1, h => cases h; exact ⟨b, u, rfl, b0, b1⟩
  | 2, h => cases h; exact ⟨c, v, rfl, c0, c1⟩
  | _ + 3, h => simp at h
structure Asc9 (a b c d e f g h i : Nat) : Prop where
  a : 0 < a ∧ a < 128
  b : 0 < b ∧ b < 128
  c : 0 < c ∧ c < 128
  d : 0 < d ∧ d < 128
  e : 0 < e ∧ e < 128
  f : 0 < f ∧ f < 128
  g : 0 < g ∧ g < 128
  h : 0 < h ∧ h < 128
  i : 0 < i ∧ i < 128
theorem asc9 {a b c d e f g h i : Nat} (H : ∀ z ∈ [a, b, c, d, e, f, g, h, i], 0 < z ∧ z < 128) : Asc9 a b c d e f g h i := by
  constructor <;> exact H _ (by simp)
abbrev signs4 : PySem.Str := PySem.Str.ofString "0123456789+-_ \t\n\r\x0b\x0ceW./"
theorem pick_tab : ∀ q : Nat, q < 23 → ((PySem.Txt.item signs4 (q : Int)).cps.size = 1 ∧ ((PySem.Txt.item signs4 (q : Int)).cps.all fun c => decide (0 < c) && decide (c < 128)) = true) := by decide +kernel
theorem pick_is {q : Int} (h1 : 0 < q) (h2 : q < 24) : ∃ c, PySem.Txt.item signs4 (q - 1) = ⟨#[c]⟩ ∧ 0 < c ∧ c < 128 := by
  have e : q - 1 = ((q.toNat - 1 : Nat) : Int) := by omega
  have := pick_tab (q.toNat - 1) (by omega)
  rw [← e] at this
  obtain ⟨hs, ha⟩ := this
  generalize PySem.Txt.item signs4 (q - 1) = T at *
  obtain ⟨T⟩ := T
  match T, hs, ha with
  | ⟨[c]⟩, _, ha => exact ⟨c, rfl, by simpa using ha⟩
theorem put_cut {l : List Nat} {s : Nat} {p : Int} (hl : l.length = 9) (h0 : 0 ≤ p) (h1 : p < 9) : ∃ l' : List Nat, PySem.Txt.slice ⟨l.toArray⟩ none (some p) ++ ⟨#[s]⟩ ++ PySem.Txt.slice ⟨l.toArray⟩ (some (p + 1)) none = ⟨l'.toArray⟩ ∧ l'.length = 9 ∧ ∀ z ∈ l', z = s ∨ z ∈ l := by
  have e1 : PySem.Txt.slice ⟨l.toArray⟩ none (some p) = ⟨(l.take p.toNat).toArray⟩ := by
    have := cut_head (l.take p.toNat) (l.drop p.toNat) (j := p) (by rw [List.length_take]; omega)
    rwa [List.take_append_drop] at this
  have e2 := slice_from_eq (x := ⟨l.toArray⟩) (i := p + 1) (b := (9 : Int)) (by omega) (by rw [str_len, hl]; omega) (by rw [str_len, hl]; rfl)
  rw [e1, e2]
  refine ⟨l.take p.toNat ++ [s] ++ (l.drop (p + 1).toNat).take (9 - (p + 1)).toNat, ?_, ?_, fun z hz => ?_⟩
  · refine Str.ext' (Array.toList_inj.mp ?_)
    simp only [Str.cps_append, Array.toList_append]
  · simp only [List.length_append, List.length_take, List.length_drop, List.length_cons, List.length_nil]; omega
  · simp only [List.mem_append, List.mem_singleton] at hz
    rcases hz with (hz | hz) | hz
    · exact .inr (List.mem_of_mem_take hz)
    · exact .inl hz
    · exact .inr (List.mem_of_mem_drop (List.mem_of_mem_take hz))
theorem put_sign {l : List Nat} (S : SheetIs l) {p q : Int} {t : Tok} {i : Nat} {u v : Option Value} (h0 : 0 ≤ p) (h1 : p < 9) (q1 : 0 < q) (q2 : q < 24) :
    SheetJ i (.str (PySem.Txt.slice ⟨l.toArray⟩ none (some p) ++ PySem.Txt.item signs4 (q - 1) ++ PySem.Txt.slice ⟨l.toArray⟩ (some (p + 1)) none) t) u v := by
  obtain ⟨s, hs, hs0, hs1⟩ := pick_is q1 q2
  rw [hs]
  obtain ⟨l', e', hl, hm⟩ := put_cut (s := s) S.len h0 h1
  refine ⟨l', t, congrArg (Value.str · t) e', hl, fun z hz => ?_⟩
  rcases hm z hz with rfl | hz
  · exact ⟨hs0, hs1⟩
  · exact S.asc z hz
theorem SheetIs.J {l : List Nat} (S : SheetIs l) {t : Tok} {i : Nat} {u v : Option Value} : SheetJ i (.str ⟨l.toArray⟩ t) u v := ⟨l, t, rfl, S.len, S.asc⟩
theorem cut_mid (p q r : List Nat) {i j : Int} (hi : i = (p.length : Int)) (hj : j = ((p ++ q).length : Int)) : PySem.Txt.slice ⟨(p ++ q ++ r).toArray⟩ (some i) (some j) = ⟨q.toArray⟩ := by
  have h : (0 : Int) ≤ i ∧ i ≤ j ∧ j ≤ ((⟨(p ++ q ++ r).toArray⟩ : PySem.Str).cps.toList.length : Int) := by
    subst hi hj
    show _ ∧ _ ∧ _ ≤ (((p ++ q ++ r).toArray.toList.length : Nat) : Int)
    simp only [List.length_append]
    omega
  rw [eq_of_beq (slice_closes h)]
  have e1 : i.toNat = p.length := by omega
  have e2 : (j - i).toNat = q.length := by rw [List.length_append] at hj; omega
  rw [e1, e2]
  show (⟨(((p ++ q ++ r).drop p.length).take q.length).toArray⟩ : PySem.Str) = _
  rw [List.append_assoc, List.drop_left, List.take_left]
theorem sl46 {a b c d e f g h i : Nat} : PySem.Txt.slice ⟨[a, b, c, d, e, f, g, h, i].toArray⟩ (some 4) (some 6) = ⟨[e, f].toArray⟩ := cut_mid [a, b, c, d] [e, f] [g, h, i] rfl rfl
theorem sl68 {a b c d e f g h i : Nat} : PySem.Txt.slice ⟨[a, b, c, d, e, f, g, h, i].toArray⟩ (some 6) (some 8) = ⟨[g, h].toArray⟩ := cut_mid [a, b, c, d, e, f] [g, h] [i] rfl rfl
theorem sl04 {a b c d e f g h i : Nat} : PySem.Txt.slice ⟨[a, b, c, d, e, f, g, h, i].toArray⟩ none (some 4) = ⟨[a, b, c, d].toArray⟩ := cut_head [a, b, c, d] [e, f, g, h, i] rfl
theorem it5 {a b c d e f g h i : Nat} : PySem.Txt.item ⟨[a, b, c, d, e, f, g, h, i].toArray⟩ 5 = ⟨[f].toArray⟩ := item_at (by decide) rfl rfl
theorem it7 {a b c d e f g h i : Nat} : PySem.Txt.item ⟨[a, b, c, d, e, f, g, h, i].toArray⟩ 7 = ⟨[h].toArray⟩ := item_at (by decide) rfl rfl
theorem it8 {a b c d e f g h i : Nat} : PySem.Txt.item ⟨[a, b, c, d, e, f, g, h, i].toArray⟩ 8 = ⟨[i].toArray⟩ := item_at (by decide) rfl rfl
theorem it20 {a b : Nat} : PySem.Txt.item ⟨[a, b].toArray⟩ 0 = ⟨[a].toArray⟩ := item_at (by decide) rfl rfl
theorem it10 {a : Nat} : PySem.Txt.item ⟨[a].toArray⟩ 0 = ⟨[a].toArray⟩ := item_at (by decide) rfl rfl
theorem sl1 {a b : Nat} : PySem.Txt.slice ⟨[a, b].toArray⟩ (some 1) none = ⟨[b].toArray⟩ := by
  rw [slice_from_eq (b := (2 : Int)) (by decide) (by rw [str_len]; exact (by decide : (1 : Int) ≤ 2)) rfl]
  rfl
theorem len9 {a b c d e f g h i : Nat} : (⟨[a, b, c, d, e, f, g, h, i].toArray⟩ : PySem.Str).length ≤ sizeLine := by rw [sizeLine_eq]; exact (by decide : 9 ≤ 16777216)
theorem len2 {a b : Nat} : (⟨[a, b].toArray⟩ : PySem.Str).length ≤ sizeLine := by rw [sizeLine_eq]; exact (by decide : 2 ≤ 16777216)
section
open PySem.Calls
variable {prog : Program} {w : World} {A : Around} {E : Value → Shared → Prop} {s : Shared} {h₀ : Heap} {L : Addr} {m : Str → Option Value} {news : List (Addr × Obj)} {Q : Value → Shared → Prop} {x y : Str} {t : Tok} {value slice : Expr}
theorem cutN_ss {i j : Int} {ui uj : Tok} (e : Txt.slice x (some i) (some j) = y) (hF : Fr h₀ L s.heap m) (hN : News h₀ L s.heap news) (hsz : x.length ≤ sizeLine) (h : ∀ h' t' k, Fr h₀ L h' m → News h₀ L h' news → Q (.str y t') { s with heap := h', toks := k })
    (hs : subscripted slice false (.str x t) (.ref s.heap.objs.size) = operate [.ref s.heap.objs.size, .str x t] (getItem (.str x t) (.ref s.heap.objs.size)) := by with_unfolding_all rfl)
    (ht : ∀ r, letTemporaryGo value (.str x t) r = pure () := by intro _; with_unfolding_all rfl) :
    wpAny (model prog w) A (subscriptTail value slice (.str x t) (.ref s.heap.objs.size)) Q E { s with heap := s.heap.push { cls := .type "slice", data := .fields #[.int i ui, .int j uj, .none] } } :=
  slice_strN_ss hF hN (fun h' t' k a b => e ▸ h h' t' k a b) hs ht hsz
theorem cutN_ns {j : Int} {uj : Tok} (e : Txt.slice x none (some j) = y) (hF : Fr h₀ L s.heap m) (hN : News h₀ L s.heap news) (hsz : x.length ≤ sizeLine) (h : ∀ h' t' k, Fr h₀ L h' m → News h₀ L h' news → Q (.str y t') { s with heap := h', toks := k })
    (hs : subscripted slice false (.str x t) (.ref s.heap.objs.size) = operate [.ref s.heap.objs.size, .str x t] (getItem (.str x t) (.ref s.heap.objs.size)) := by with_unfolding_all rfl)
    (ht : ∀ r, letTemporaryGo value (.str x t) r = pure () := by intro _; with_unfolding_all rfl) :
    wpAny (model prog w) A (subscriptTail value slice (.str x t) (.ref s.heap.objs.size)) Q E { s with heap := s.heap.push { cls := .type "slice", data := .fields #[.none, .int j uj, .none] } } :=
  slice_strN_ns hF hN (fun h' t' k a b => e ▸ h h' t' k a b) hs ht hsz
theorem cutN_sn {i : Int} {ui : Tok} (e : Txt.slice x (some i) none = y) (hF : Fr h₀ L s.heap m) (hN : News h₀ L s.heap news) (hsz : x.length ≤ sizeLine) (h : ∀ h' t' k, Fr h₀ L h' m → News h₀ L h' news → Q (.str y t') { s with heap := h', toks := k })
    (hs : subscripted slice false (.str x t) (.ref s.heap.objs.size) = operate [.ref s.heap.objs.size, .str x t] (getItem (.str x t) (.ref s.heap.objs.size)) := by with_unfolding_all rfl)
    (ht : ∀ r, letTemporaryGo value (.str x t) r = pure () := by intro _; with_unfolding_all rfl) :
    wpAny (model prog w) A (subscriptTail value slice (.str x t) (.ref s.heap.objs.size)) Q E { s with heap := s.heap.push { cls := .type "slice", data := .fields #[.int i ui, .none, .none] } } :=
  slice_strN_sn hF hN (fun h' t' k a b => e ▸ h h' t' k a b) hs ht hsz
theorem itemN {i : Int} {u : Tok} {l : List Nat} (e : Txt.item ⟨l.toArray⟩ i = y) (h0 : 0 ≤ i) (h1 : i < (l.length : Int)) (h2 : i < 100)
    (h : Q (.str y s.toks) { s with toks := s.toks + 1 })
    (hs : subscripted slice false (.str ⟨l.toArray⟩ t) (.int i u) = operate [.str ⟨l.toArray⟩ t, .int i u] (getItem (.str ⟨l.toArray⟩ t) (.int i u)) := by with_unfolding_all rfl)
    (ht : ∀ r, letTemporaryGo value (.str ⟨l.toArray⟩ t) r = pure () := by intro _; with_unfolding_all rfl) :
    wpAny (model prog w) A (subscriptTail value slice (.str ⟨l.toArray⟩ t) (.int i u)) Q E s :=
  item_str (fitsSsize_of (N := 100) (by omega) h2 (by decide)) (by omega) (by rw [str_len]; exact h1) (fun _ => e ▸ h) hs ht
theorem addN {lx ly : List Nat} {u : Tok} (ex : x = ⟨lx.toArray⟩) (ey : y = ⟨ly.toArray⟩) (hsz : lx.length + ly.length ≤ 100) (h : ∀ t' k, Q (.str ⟨(lx ++ ly).toArray⟩ t') { s with toks := k }) : wpAny (model prog w) A (binaryOp .Add (.str x t) (.str y u)) Q E s := by
  subst ex ey
  refine SBL.add (fun t' k _ => ?_) (by rw [str_len, str_len, sizeLine_eq]; omega)
  have e : (⟨lx.toArray⟩ : Str) ++ ⟨ly.toArray⟩ = ⟨(lx ++ ly).toArray⟩ := by
    refine Str.ext' (Array.toList_inj.mp ?_)
    simp only [Str.cps_append, Array.toList_append]
  rw [e]
  exact h t' k
theorem lstN {a : Addr} {vs : List Value} {n : Nat} {k : Int} {u : Tok} {v : Value} (N : News h₀ L s.heap news) (hm : (a, W.listOf vs.toArray n) ∈ news) (h0 : 0 ≤ k) (h1 : k < 100) (hv : vs[k.toNat]? = some v) (h : Q v s)
    (hs : subscripted slice false (.ref a) (.int k u) = operate [.ref a, .int k u] (getItem (.ref a) (.int k u)) := by with_unfolding_all rfl) :
    wpAny (model prog w) A (subscriptTail value slice (.ref a) (.int k u)) Q E s :=
  have hL : s.heap.IsList a vs.toArray := ⟨_, (N _ hm).1, rfl, _, rfl⟩
  tail_any hL.typeIs slot_list_getitem.lookup (wpAny_getItem_list hL h0 (by omega) (by simpa using hv) h) hs
end
theorem lit_e : PySem.Str.ofString "" = ⟨([] : List Nat).toArray⟩ := by decide +kernel
theorem lit_d : PySem.Str.ofString "-" = ⟨[45].toArray⟩ := by decide +kernel
theorem lit_p : PySem.Str.ofString "+" = ⟨[43].toArray⟩ := by decide +kernel
theorem lit_W : PySem.Str.ofString "W" = ⟨[87].toArray⟩ := by decide +kernel
theorem lit_dw : PySem.Str.ofString "-W" = ⟨[45, 87].toArray⟩ := by decide +kernel
end Mine
end
section
namespace Mine
/-- a way, the rooms (year, second, third), the mark, the text -/
inductive CaseIs : Int → List Nat → List Nat → List Nat → List Nat → List Nat → Prop
  | w0 {a b c d e f g h i : Nat} (h1 : e ≠ 87) : CaseIs 0 [a, b, c, d] [e, f] [g, h] [i] [a, b, c, d, 45, e, f, i, g, h]
  | w1 {a b c d e f g h : Nat} (h1 : e ≠ 87) (h2 : e ≠ 45) : CaseIs 1 [a, b, c, d] [e, f] [g, h] [] [a, b, c, d, e, f, g, h]
  | w2 {a b c d e f h i : Nat} : CaseIs 2 [a, b, c, d] [e, f] [h] [i] [a, b, c, d, 45, 87, e, f, i, h]
  | w3 {a b c d e f h : Nat} : CaseIs 3 [a, b, c, d] [e, f] [h] [] [a, b, c, d, 87, e, f, h]
  | w4 {a b c d e f : Nat} : CaseIs 4 [a, b, c, d] [e, f] [] [] [a, b, c, d, 45, 87, e, f]
  | w5 {a b c d e f : Nat} : CaseIs 5 [a, b, c, d] [e, f] [] [] [a, b, c, d, 87, e, f]
  | w6 {a b c d e f h : Nat} (h1 : e ≠ 87) (h2 : e ≠ 45) : CaseIs 6 [a, b, c, d] [e, f] [h] [] [a, b, c, d, e, f, h]
  | w7 {a b c d f : Nat} : CaseIs 7 [a, b, c, d] [f] [] [] [a, b, c, d, 45, 87, f]
abbrev Ascii (l : List Nat) : Prop := ∀ c ∈ l, 0 < c ∧ c < 128
def IsCase (v : Value) (new : List (Addr × Obj)) : Prop := ∃ (way : Int) (Y S T M X : List Nat) (y s t m x : PySem.Str) (ty ts tt tm tx u : Tok) (n : Nat) (l d : Addr),
  CaseIs way Y S T M X ∧ Ascii X ∧ y = ⟨Y.toArray⟩ ∧ s = ⟨S.toArray⟩ ∧ t = ⟨T.toArray⟩ ∧ m = ⟨M.toArray⟩ ∧ x = ⟨X.toArray⟩ ∧ v = .ref d ∧
  new = [(l, W.listOf #[.str y ty, .str s ts, .str t tt] n), (d, tupOf #[.int way u, .ref l, .str m tm, .str x tx])]
theorem endCase {base h₀ h' : Heap} {L : Addr} {m₀ : Str → Option Value} {news all : List (Addr × Obj)} {fr : List Env} {s : Shared} {Q E : Value → Shared → Prop} {tk' : Nat} {way : Int} {Y S T M X : List Nat} {y x2 t m x : PySem.Str} {ty ts tt tm tx u : Tok} {n : Nat} {l d : Addr}
    (hret : cVal IsCase base h₀ L m₀ news fr s Q E) (F : Fr h₀ L h' m₀) (N : News h₀ L h' all)
    (mT : (d, tupOf #[.int way u, .ref l, .str m tm, .str x tx]) ∈ all) (mL : (l, W.listOf #[.str y ty, .str x2 ts, .str t tt] n) ∈ all) (e1 : y = ⟨Y.toArray⟩) (e2 : x2 = ⟨S.toArray⟩) (e3 : t = ⟨T.toArray⟩) (e4 : m = ⟨M.toArray⟩) (e5 : x = ⟨X.toArray⟩)
    (hC : CaseIs way Y S T M X) (hA : Ascii X) (hs : ∀ p ∈ news, p ∈ all) (lD : ∀ p ∈ news, p.1 < d) (ll : ∀ p ∈ news, p.1 < l) : Q (.ref d) { s with heap := h', toks := tk' } := by
  refine hret _ _ h' tk' ⟨way, Y, S, T, M, X, y, x2, t, m, x, ty, ts, tt, tm, tx, u, n, l, d, hC, hA, e1, e2, e3, e4, e5, rfl, rfl⟩ ?_ F ?_
  · intro q hq p hp
    rcases List.mem_cons.mp hq with rfl | hq
    · exact ll p hp
    · rw [List.mem_singleton.mp hq]; exact lD p hp
  · intro p hp
    rcases List.mem_append.mp hp with hp | hp
    · exact N p (hs p hp)
    · rcases List.mem_cons.mp hp with rfl | hp
      · exact N _ mL
      · rw [List.mem_singleton.mp hp]; exact N _ mT
theorem ne_of_litf {e c : Nat} {L : PySem.Str} (hl : L = ⟨#[c]⟩) (h : ((⟨[e].toArray⟩ : PySem.Str) == L) = false) : e ≠ c := by
  rintro rfl
  subst hl
  exact absurd h (by simp)
theorem ne_W {e : Nat} (h : ((⟨[e].toArray⟩ : PySem.Str) == PySem.Str.ofString "W") = false) : e ≠ 87 := ne_of_litf lit_W h
theorem ne_D {e : Nat} (h : ((⟨[e].toArray⟩ : PySem.Str) == PySem.Str.ofString "-") = false) : e ≠ 45 := ne_of_litf lit_d h
theorem fr_two {g h : Heap} {L : Addr} {m : Str → Option Value} {a b : Value} (x y : Str) (F : Fr g L h m) (hx : m x = some a) (hy : m y = some b) : ∃ m₁ : Str → Option Value, Fr g L h (fun z => if z = x then some a else if z = y then some b else m₁ z) :=
  ⟨m, Mine.Fr.congr (fun z => by
    by_cases h1 : z = x
    · rw [if_pos h1, h1, hx]
    · rw [if_neg h1]
      by_cases h2 : z = y
      · rw [if_pos h2, h2, hy]
      · rw [if_neg h2]) F⟩
theorem drop_by {P : Value → List (Addr × Obj) → Prop} {base h₀ g h : Heap} {L L' : Addr} {m : Str → Option Value} {news all : List (Addr × Obj)} {fr : List Env} {s : Shared} {Q E : Value → Shared → Prop} (_ : cVal P base h₀ L m news fr s Q E) (N : News g L' h all) (hs : ∀ p ∈ news, p ∈ all) : News g L' h news := cb_drop N hs
theorem asc_nil : Ascii [] := fun c hc => nomatch hc
theorem asc_cons {c : Nat} {l : List Nat} (h : 0 < c ∧ c < 128) (hl : Ascii l) : Ascii (c :: l) := fun z hz => by
  rcases List.mem_cons.mp hz with rfl | hz
  · exact h
  · exact hl z hz
end Mine
end
section
namespace Mine
structure WayR (r : Int) : Prop where
  lo : 0 ≤ r
  hi : r < 8
theorem eight {r : Int} (h0 : 0 ≤ r) (h1 : r < 8) : r = 0 ∨ r = 1 ∨ r = 2 ∨ r = 3 ∨ r = 4 ∨ r = 5 ∨ r = 6 ∨ r = 7 := by omega
/-- one of eight texts -/
def pick8 (k : Int) (ls : List (List Nat)) : List Nat := ls.getD k.toNat []
section
open PySem.Calls
variable {prog : Program} {w : World} {A : Around} {E : Value → Shared → Prop} {s : Shared} {h₀ : Heap} {L : Addr} {news : List (Addr × Obj)} {Q : Value → Shared → Prop} {value slice : Expr}
theorem lst8 {a : Addr} {n : Nat} {k : Int} {u t0 t1 t2 t3 t4 t5 t6 t7 : Tok} {x0 x1 x2 x3 x4 x5 x6 x7 : Str} {l0 l1 l2 l3 l4 l5 l6 l7 : List Nat} (Wy : WayR k) (N : News h₀ L s.heap news)
    (hm : (a, W.listOf ([.str x0 t0, .str x1 t1, .str x2 t2, .str x3 t3, .str x4 t4, .str x5 t5, .str x6 t6, .str x7 t7] : List Value).toArray n) ∈ news)
    (e0 : x0 = ⟨l0.toArray⟩) (e1 : x1 = ⟨l1.toArray⟩) (e2 : x2 = ⟨l2.toArray⟩) (e3 : x3 = ⟨l3.toArray⟩) (e4 : x4 = ⟨l4.toArray⟩) (e5 : x5 = ⟨l5.toArray⟩) (e6 : x6 = ⟨l6.toArray⟩) (e7 : x7 = ⟨l7.toArray⟩)
    (hl : l0.length ≤ 2 ∧ l1.length ≤ 2 ∧ l2.length ≤ 2 ∧ l3.length ≤ 2 ∧ l4.length ≤ 2 ∧ l5.length ≤ 2 ∧ l6.length ≤ 2 ∧ l7.length ≤ 2)
    (h : ∀ t, (pick8 k [l0, l1, l2, l3, l4, l5, l6, l7]).length ≤ 2 → Q (.str ⟨(pick8 k [l0, l1, l2, l3, l4, l5, l6, l7]).toArray⟩ t) s)
    (hs : subscripted slice false (.ref a) (.int k u) = operate [.ref a, .int k u] (getItem (.ref a) (.int k u)) := by with_unfolding_all rfl) :
    wpAny (model prog w) A (subscriptTail value slice (.ref a) (.int k u)) Q E s := by
  subst e0 e1 e2 e3 e4 e5 e6 e7
  obtain ⟨h0, h1⟩ := Wy
  obtain ⟨b0, b1, b2, b3, b4, b5, b6, b7⟩ := hl
  rcases eight h0 h1 with rfl | rfl | rfl | rfl | rfl | rfl | rfl | rfl
  · exact lstN N hm (by decide) (by decide) rfl (h t0 b0) hs
  · exact lstN N hm (by decide) (by decide) rfl (h t1 b1) hs
  · exact lstN N hm (by decide) (by decide) rfl (h t2 b2) hs
  · exact lstN N hm (by decide) (by decide) rfl (h t3 b3) hs
  · exact lstN N hm (by decide) (by decide) rfl (h t4 b4) hs
  · exact lstN N hm (by decide) (by decide) rfl (h t5 b5) hs
  · exact lstN N hm (by decide) (by decide) rfl (h t6 b6) hs
  · exact lstN N hm (by decide) (by decide) rfl (h t7 b7) hs
end
abbrev Mon (way : Int) : Prop := ([0, 1, 6].any fun x => x == way) = true
theorem case_end {way : Int} {a b c d f g h i : Nat} {S M : List Nat} (Wy : WayR way)
    (hS : (way = 7 ∧ S = [f]) ∨ (way ≠ 7 ∧ ∃ e, S = [e, f] ∧ (Mon way → e ≠ 87) ∧ (Mon way → way ≠ 0 → e ≠ 45)))
    (hM : (([0, 2].any fun x => x == way) = true ∧ M = [i]) ∨ (([0, 2].any fun x => x == way) = false ∧ M = [])) :
    CaseIs way [a, b, c, d] S (pick8 way [[g, h], [g, h], [h], [h], [], [], [h], []]) M ([a, b, c, d] ++ pick8 way [[45], [], [45, 87], [87], [45, 87], [87], [], [45, 87]] ++ S ++ M ++ pick8 way [[g, h], [g, h], [h], [h], [], [], [h], []]) := by
  obtain ⟨h0, h1⟩ := Wy
  rcases eight h0 h1 with rfl | rfl | rfl | rfl | rfl | rfl | rfl | rfl
  · obtain ⟨_, rfl⟩ := hM.resolve_right fun q => nomatch q.1
    obtain ⟨_, e, rfl, p, _⟩ := hS.resolve_left fun q => absurd q.1 (by decide)
    exact .w0 (p rfl)
  · obtain ⟨_, rfl⟩ := hM.resolve_left fun q => nomatch q.1
    obtain ⟨_, e, rfl, p, q⟩ := hS.resolve_left fun q => absurd q.1 (by decide)
    exact .w1 (p rfl) (q rfl (by decide))
  · obtain ⟨_, rfl⟩ := hM.resolve_right fun q => nomatch q.1
    obtain ⟨_, e, rfl, p, _⟩ := hS.resolve_left fun q => absurd q.1 (by decide)
    exact .w2
  · obtain ⟨_, rfl⟩ := hM.resolve_left fun q => nomatch q.1
    obtain ⟨_, e, rfl, p, _⟩ := hS.resolve_left fun q => absurd q.1 (by decide)
    exact .w3
  · obtain ⟨_, rfl⟩ := hM.resolve_left fun q => nomatch q.1
    obtain ⟨_, e, rfl, p, _⟩ := hS.resolve_left fun q => absurd q.1 (by decide)
    exact .w4
  · obtain ⟨_, rfl⟩ := hM.resolve_left fun q => nomatch q.1
    obtain ⟨_, e, rfl, p, _⟩ := hS.resolve_left fun q => absurd q.1 (by decide)
    exact .w5
  · obtain ⟨_, rfl⟩ := hM.resolve_left fun q => nomatch q.1
    obtain ⟨_, e, rfl, p, q⟩ := hS.resolve_left fun q => absurd q.1 (by decide)
    exact .w6 (p rfl) (q rfl (by decide))
  · obtain ⟨_, rfl⟩ := hM.resolve_left fun q => nomatch q.1
    obtain ⟨_, rfl⟩ := hS.resolve_right fun q => absurd rfl q.1
    exact .w7
theorem asc_app {l r : List Nat} (h : Ascii l) (h2 : Ascii r) : Ascii (l ++ r) := fun c hc => (List.mem_append.mp hc).elim (h c) (h2 c)
theorem asc_pick {k : Int} {ls : List (List Nat)} (h : ∀ l ∈ ls, Ascii l) : Ascii (pick8 k ls) := by
  unfold pick8
  rw [List.getD_eq_getElem?_getD]
  cases hk : ls[k.toNat]? with
  | none => exact asc_nil
  | some l => exact h l (List.mem_of_getElem? hk)
theorem asc_end {way : Int} {a b c d e f g h i : Nat} {S M : List Nat} (z : Asc9 a b c d e f g h i) (hS : Ascii S) (hM : Ascii M) :
    Ascii ([a, b, c, d] ++ pick8 way [[45], [], [45, 87], [87], [45, 87], [87], [], [45, 87]] ++ S ++ M ++ pick8 way [[g, h], [g, h], [h], [h], [], [], [h], []]) := by
  have m : (0 < 45 ∧ 45 < 128) ∧ (0 < 87 ∧ 87 < 128) := by decide
  refine asc_app (asc_app (asc_app (asc_app (asc_cons z.a (asc_cons z.b (asc_cons z.c (asc_cons z.d asc_nil)))) (asc_pick fun l hl => ?_)) hS) hM) (asc_pick fun l hl => ?_)
  · simp only [List.mem_cons, List.not_mem_nil, or_false] at hl
    rcases hl with rfl | rfl | rfl | rfl | rfl | rfl | rfl | rfl <;> first | exact asc_nil | exact asc_cons m.1 asc_nil | exact asc_cons m.2 asc_nil | exact asc_cons m.1 (asc_cons m.2 asc_nil)
  · simp only [List.mem_cons, List.not_mem_nil, or_false] at hl
    rcases hl with rfl | rfl | rfl | rfl | rfl | rfl | rfl | rfl <;> first | exact asc_nil | exact asc_cons z.h asc_nil | exact asc_cons z.g (asc_cons z.h asc_nil)
theorem no7 {r : Int} (h : r = 7) (h2 : ([0, 1, 6].any fun x => x == r) = true) : False := by subst h; cases h2
theorem no72 {r : Int} (h : r = 7) (h2 : ([0, 2].any fun x => x == r) = true) : False := by subst h; cases h2
end Mine
end
section
namespace Mine
section
variable {prog : Program} {w : World} {A : Around} {E : Value → Shared → Prop} {s : Shared} {h₀ : Heap} {L : Addr} {m : Str → Option Value} {news : List (Addr × Obj)}
/-- the ways of a value meet: a text that P tells -/
def JT (P : List Nat → Prop) (h₀ : Heap) (L : Addr) (m : Str → Option Value) (news : List (Addr × Obj)) (s : Shared) (v : Value) (s₂ : Shared) : Prop :=
  ∃ (h : Heap) (tk : Nat) (l : List Nat) (x : Str) (t : Tok), v = .str x t ∧ x = ⟨l.toArray⟩ ∧ P l ∧ s₂ = { s with heap := h, toks := tk } ∧ Fr h₀ L h m ∧ News h₀ L h news
theorem JT.intro {P : List Nat → Prop} {h : Heap} {tk : Nat} {l : List Nat} {x : Str} {t : Tok} {news' : List (Addr × Obj)} (e : x = ⟨l.toArray⟩) (p : P l) (F : Fr h₀ L h m) (N : News h₀ L h news') (hs : ∀ p ∈ news, p ∈ news') : JT P h₀ L m news s (.str x t) { s with heap := h, toks := tk } :=
  ⟨h, tk, l, x, t, rfl, e, p, rfl, F, cb_drop N hs⟩
theorem joinT {M : Model} {c : Sem Value} {Q : Value → Shared → Prop} (P : List Nat → Prop) (_F : Fr h₀ L s.heap m) (_N : News h₀ L s.heap news)
    (hc : JMark → wpAny M A c (fun v s₂ => JT P h₀ L m news s v s₂) E s)
    (hk : ∀ (h : Heap) (tk : Nat) (l : List Nat) (t : Tok), P l → Fr h₀ L h m → News h₀ L h news → Q (.str ⟨l.toArray⟩ t) { s with heap := h, toks := tk }) : wpAny M A c Q E s := by
  refine wpAny_mono (hc True.intro) (fun v s₂ hq => ?_) fun _ _ h => h
  obtain ⟨h, tk, l, x, t, rfl, rfl, p, rfl, F, N⟩ := hq
  exact hk h tk l t p F N
/-- the ways of a statement that gives the name a another text meet -/
def JF (P : List Nat → Prop) (a : Str) (h₀ : Heap) (L : Addr) (m : Str → Option Value) (news : List (Addr × Obj)) (s : Shared) (f : Flow) (s₂ : Shared) : Prop :=
  ∃ (h : Heap) (tk : Nat) (l : List Nat) (x : Str) (t : Tok) (m' : Str → Option Value), f = .next ∧ m' a = some (.str x t) ∧ x = ⟨l.toArray⟩ ∧ P l ∧ s₂ = { s with heap := h, toks := tk } ∧ (∀ z, z ≠ a → m' z = m z) ∧ Fr h₀ L h m' ∧ News h₀ L h news
theorem JF.intro {P : List Nat → Prop} {a : Str} {h : Heap} {tk : Nat} {l : List Nat} {x : Str} {t : Tok} {m' : Str → Option Value} {news' : List (Addr × Obj)} (ha : m' a = some (.str x t)) (e : x = ⟨l.toArray⟩) (p : P l) (hm : ∀ z, z ≠ a → m' z = m z) (F : Fr h₀ L h m') (N : News h₀ L h news') (hs : ∀ p ∈ news, p ∈ news') : JF P a h₀ L m news s .next { s with heap := h, toks := tk } :=
  ⟨h, tk, l, x, t, m', rfl, ha, e, p, rfl, hm, F, cb_drop N hs⟩
theorem joinF {M : Model} {c : Sem Flow} {Q : Flow → Shared → Prop} (P : List Nat → Prop) (a : Str) (_F : Fr h₀ L s.heap m) (_N : News h₀ L s.heap news)
    (hc : JMark → wpAny M A c (fun f s₂ => JF P a h₀ L m news s f s₂) E s)
    (hk : ∀ (h : Heap) (tk : Nat) (l : List Nat) (t : Tok), P l → Fr h₀ L h (fun z => if z = a then some (.str ⟨l.toArray⟩ t) else m z) → News h₀ L h news → Q .next { s with heap := h, toks := tk }) : wpAny M A c Q E s := by
  refine wpAny_mono (hc True.intro) (fun v s₂ hq => ?_) fun _ _ h => h
  obtain ⟨h, tk, l, x, t, m', rfl, ha, rfl, p, rfl, hm, F, N⟩ := hq
  refine hk h tk l t p (Mine.Fr.congr (fun z => ?_) F) N
  by_cases h2 : z = a
  · rw [if_pos h2, h2, ha]
  · rw [if_neg h2, hm z h2]
end
/-- the second room as it is cut, and as it is after the first sign's change -/
inductive Cut2 (way : Int) (e f : Nat) : List Nat → Prop
  | one (h : way = 7) : Cut2 way e f [f]
  | two (h : way ≠ 7) : Cut2 way e f [e, f]
inductive Sec2 (way : Int) (f : Nat) : List Nat → Prop
  | one (h : way = 7) : Sec2 way f [f]
  | two {e : Nat} (h : way ≠ 7) (hz : 0 < e ∧ e < 128) (h1 : Mon way → e ≠ 87) (h2 : Mon way → way ≠ 0 → e ≠ 45) : Sec2 way f [e, f]
inductive Mark2 (way : Int) (i : Nat) : List Nat → Prop
  | some (h : ([0, 2].any fun x => x == way) = true) : Mark2 way i [i]
  | none (h : ([0, 2].any fun x => x == way) = false) : Mark2 way i []
theorem Cut2.len {way : Int} {e f : Nat} {l : List Nat} (h : Cut2 way e f l) : l.length ≤ 2 := by cases h <;> exact Nat.le_of_ble_eq_true rfl
theorem Sec2.len {way : Int} {f : Nat} {l : List Nat} (h : Sec2 way f l) : l.length ≤ 2 := by cases h <;> exact Nat.le_of_ble_eq_true rfl
theorem Mark2.len {way : Int} {i : Nat} {l : List Nat} (h : Mark2 way i l) : l.length ≤ 2 := by cases h <;> exact Nat.le_of_ble_eq_true rfl
theorem case_end2 {way : Int} {a b c d f g h i : Nat} {S M : List Nat} (Wy : WayR way) (hS : Sec2 way f S) (hM : Mark2 way i M) :
    CaseIs way [a, b, c, d] S (pick8 way [[g, h], [g, h], [h], [h], [], [], [h], []]) M ([a, b, c, d] ++ pick8 way [[45], [], [45, 87], [87], [45, 87], [87], [], [45, 87]] ++ S ++ M ++ pick8 way [[g, h], [g, h], [h], [h], [], [], [h], []]) :=
  case_end Wy (by cases hS with
    | one h => exact .inl ⟨h, rfl⟩
    | two h hz h1 h2 => exact .inr ⟨h, _, rfl, h1, h2⟩) (by cases hM with
    | some h => exact .inl ⟨h, rfl⟩
    | none h => exact .inr ⟨h, rfl⟩)
theorem asc_end2 {way : Int} {a b c d e f g h i : Nat} {S M : List Nat} (z : Asc9 a b c d e f g h i) (hS : Sec2 way f S) (hM : Mark2 way i M) :
    Ascii ([a, b, c, d] ++ pick8 way [[45], [], [45, 87], [87], [45, 87], [87], [], [45, 87]] ++ S ++ M ++ pick8 way [[g, h], [g, h], [h], [h], [], [], [h], []]) :=
  asc_end z (by cases hS with
    | one h => exact asc_cons z.f asc_nil
    | two h hz h1 h2 => exact asc_cons hz (asc_cons z.f asc_nil)) (by cases hM with
    | some h => exact asc_cons z.i asc_nil
    | none h => exact asc_nil)
end Mine
namespace Mine
abbrev CutOf {r : Int} {a b c d e f g h i : Nat} (_ : WayR r) (_ : Asc9 a b c d e f g h i) : List Nat → Prop := Cut2 r e f
abbrev SecOf {r : Int} {a b c d e f g h i : Nat} (_ : WayR r) (_ : Asc9 a b c d e f g h i) : List Nat → Prop := Sec2 r f
abbrev MarkOf {r : Int} {a b c d e f g h i : Nat} (_ : WayR r) (_ : Asc9 a b c d e f g h i) : List Nat → Prop := Mark2 r i
theorem sec_put {way : Int} {f : Nat} (h : way ≠ 7) : Sec2 way f ([43] ++ [f]) := .two h (by decide) (fun _ => by decide) (fun _ _ => by decide)
theorem sec_no {way : Int} {e f : Nat} (h : way ≠ 7) (hz : 0 < e ∧ e < 128) (hm : ([0, 1, 6].any fun x => x == way) = false) : Sec2 way f [e, f] := .two h hz (fun q => absurd (hm.symm.trans q) (by decide)) (fun q => absurd (hm.symm.trans q) (by decide))
theorem sec_w {way : Int} {e f : Nat} (h : way ≠ 7) (hz : 0 < e ∧ e < 128) (h1 : ((⟨[e].toArray⟩ : PySem.Str) == PySem.Str.ofString "W") = false) (h2 : ((⟨[e].toArray⟩ : PySem.Str) == PySem.Str.ofString "-") = false) : Sec2 way f [e, f] := .two h hz (fun _ => ne_W h1) (fun _ _ => ne_D h2)
theorem sec_n {way : Int} {e f : Nat} (h : way ≠ 7) (hz : 0 < e ∧ e < 128) (h1 : ((⟨[e].toArray⟩ : PySem.Str) == PySem.Str.ofString "W") = false) (h2 : way = 0) : Sec2 way f [e, f] := .two h hz (fun _ => ne_W h1) (fun _ q => absurd h2 q)
end Mine
end
section
open PySem PySem.W PyProof.Rows PySem.Spec PySem.Calls
namespace Mine
section
variable {prog : Program} {w : World} {A : Around} {E : Value → Shared → Prop} {s : Shared} {env : Env} {h₀ : Heap} {body : List Stmt} {Q : Flow → Shared → Prop}
/-- the end of a turn that adds to a list, and turns the names a and k -/
def AppPost (h₀ : Heap) (L ln : Addr) (a k : Str) (m₀ : Str → Option Value) (P : List Value → Prop) (rest own : List (Addr × Obj)) (s : Shared) (Q : Flow → Shared → Prop) (f : Flow) (s₂ : Shared) : Prop := match f with
  | .ret v => Q (.ret v) s₂
  | .brk => Q .next s₂
  | _ => ∃ h' tk m' news' vs nn, s₂ = { s with heap := h', toks := tk } ∧ Fr h₀ L h' m' ∧ News h₀ L h' news' ∧ (ln, W.listOf vs.toArray nn) ∈ news' ∧ (∀ p ∈ rest, p ∈ news') ∧ (∀ p ∈ own, p ∈ news') ∧ (∀ z, z ≠ a → z ≠ k → m' z = m₀ z) ∧ P vs
theorem AppPost.next {L ln : Addr} {a k : Str} {m₀ m' : Str → Option Value} {P : List Value → Prop} {rest own news' : List (Addr × Obj)} {s : Shared} {Q : Flow → Shared → Prop} {h' : Heap} {tk : Nat} {vs : List Value} {nn : Nat} (F : Fr h₀ L h' m') (N : News h₀ L h' news') (hl : (ln, W.listOf vs.toArray nn) ∈ news') (hr : ∀ p ∈ rest, p ∈ news') (ho : ∀ p ∈ own, p ∈ news') (hm : ∀ z, z ≠ a → z ≠ k → m' z = m₀ z) (hP : P vs) : AppPost h₀ L ln a k m₀ P rest own s Q .next { s with heap := h', toks := tk } :=
  ⟨h', tk, m', news', vs, nn, rfl, F, N, hl, hr, ho, hm, hP⟩
theorem AppPost.back {L ln : Addr} {a k : Str} {m₀ : Str → Option Value} {P : List Value → Prop} {rest own : List (Addr × Obj)} {s s₂ : Shared} {Q : Flow → Shared → Prop} {v : Value} (h : Q (.ret v) s₂) : AppPost h₀ L ln a k m₀ P rest own s Q (.ret v) s₂ := h
theorem app_map {a k : Str} {m₀ m₁ : Str → Option Value} {v : Value} (hm : ∀ z, z ≠ a → z ≠ k → m₁ z = m₀ z) (z : Str) : (if z = k then some v else m₁ z) = if z = k then some v else if z = a then m₁ a else m₀ z := by
  by_cases h1 : z = k
  · simp [h1]
  · simp only [if_neg h1]
    by_cases h2 : z = a
    · rw [if_pos h2, h2]
    · rw [if_neg h2, hm z h2 h1]
theorem app_end {a k : Str} {m₀ m₁ : Str → Option Value} (hm : ∀ z, z ≠ a → z ≠ k → m₁ z = m₀ z) (z : Str) : m₁ z = if z = a then m₁ a else if z = k then m₁ k else m₀ z := by
  by_cases h2 : z = a
  · rw [if_pos h2, h2]
  · rw [if_neg h2]
    by_cases h1 : z = k
    · rw [if_pos h1, h1]
    · rw [if_neg h1, hm z h2 h1]
/-- a loop over a range that adds to a list -/
theorem loop_app {r ln : Addr} {a₀ b₀ : Int} {t₀ u₀ v₀ : Tok} {n nn₀ : Nat} {a k : Str} {m₀ : Str → Option Value} {rest : List (Addr × Obj)} {vs₀ : List Value} (J : Nat → List Value → Prop) (hh : A.handled = none) (hr : IsRange s.heap r a₀ b₀ 1 t₀ u₀ v₀) (hsmall : Builtin.Range.small a₀ b₀ 1 = true) (hsz : Builtin.Range.rangeSize a₀ b₀ 1 = (n : Int))
    (F : Fr h₀ env.locals s.heap m₀) (N : News h₀ env.locals s.heap ((ln, W.listOf vs₀.toArray nn₀) :: rest)) (hlt : ∀ p ∈ rest, p.1 < ln) (hJ : J 0 vs₀)
    (turn : ∀ (i : Nat) (vs : List Value) (nn : Nat) (t : Tok) (x : Option Value) (h : Heap) (tk : Nat) (own : List (Addr × Obj)), i < n → J i vs → (∀ p ∈ rest ++ own, p.1 ≠ ln) → Fr h₀ env.locals h (fun y => if y = k then some (.int (a₀ + (i : Int)) t) else if y = a then x else m₀ y) → News h₀ env.locals h ((ln, W.listOf vs.toArray nn) :: (rest ++ own)) →
      wpAny (model prog w) A (execs body env) (AppPost h₀ env.locals ln a k m₀ (J (i + 1)) rest own { s with heap := h, toks := tk } Q) E { s with heap := h, toks := tk })
    (done : ∀ (vs : List Value) (nn : Nat) (x u : Option Value) (h : Heap) (tk : Nat), J n vs → Fr h₀ env.locals h (fun y => if y = a then x else if y = k then u else m₀ y) → News h₀ env.locals h ((ln, W.listOf vs.toArray nn) :: rest) → Q .next { s with heap := h, toks := tk }) :
    wpAny (model prog w) A (pyIter (.ref r)) (fun it s₂ => LoopAtV prog w A h₀ env k body Q E it s₂) E s := by
  refine wpAny_pyIter_range hr hsmall ?_
  have Wk : Walks prog w A s.heap.objs.size [s.heap.objs.size] [s.heap.objs.size] n (fun i v => i < n ∧ ∃ t, v = .int (a₀ + i * 1) t)
      (fun i h => IsRangeIter h s.heap.objs.size (a₀ + (i : Nat) * 1) ((n : Int) - (i : Nat)) 1) := (Walks.range hh _ a₀ 1 n).bound
  refine kdr_loop (m₀ := m₀) (news := (ln, W.listOf vs₀.toArray nn₀) :: rest) (fun i m nx => ∃ vs nn, nx = (ln, W.listOf vs.toArray nn) :: rest ∧ J i vs ∧ ∀ z, z ≠ a → z ≠ k → m z = m₀ z) Wk (fun _ h => h) (fun _ h => h) ?_ ?_ ?_ ?_ (by show IsRangeIter _ _ _ _ _; rw [hsz]; simpa using Heap.get?_push_size _ rfl) (F.push _) (fun p hp => ⟨Heap.get?_push_of_some _ (N p hp).1, (N p hp).2⟩) ⟨vs₀, nn₀, rfl, hJ, fun _ _ _ => rfl⟩ ?_ ?_
  · intro i h hi b hb
    rw [List.mem_singleton.mp hb]
    exact ⟨_, hi⟩
  · intro hm
    exact absurd F.ns.lt ((List.mem_singleton.mp hm) ▸ Nat.lt_irrefl _)
  · intro b hb
    rw [List.mem_singleton.mp hb]
    exact next_is_new F
  · intro p hp hI
    exact absurd (Heap.lt_size (N p hp).1) ((List.mem_singleton.mp hI) ▸ Nat.lt_irrefl _)
  · rintro i v m₁ nx h tk own hi ⟨_, t, rfl⟩ hoff ⟨vs, nn, rfl, hJi, hm⟩ F₁ N₁
    have e1 : a₀ + (i : Int) * 1 = a₀ + (i : Int) := by omega
    rw [e1] at F₁
    have hne : ∀ p ∈ rest ++ own, p.1 ≠ ln := by
      intro p hp
      rcases List.mem_append.mp hp with hp | hp
      · exact Nat.ne_of_lt (hlt p hp)
      · exact fun e => hoff p hp ln (List.mem_map.mpr ⟨_, List.mem_cons_self, rfl⟩) e
    refine wpAny_mono (turn i vs nn t (m₁ a) h tk own hi hJi hne (Mine.Fr.congr (app_map hm) F₁) N₁) (fun f s₂ p => ?_) fun _ _ e => e
    have up : (∃ h' tk' m' news' vs nn, s₂ = { s with heap := h', toks := tk' } ∧ Fr h₀ env.locals h' m' ∧ News h₀ env.locals h' news' ∧ (ln, W.listOf vs.toArray nn) ∈ news' ∧ (∀ p ∈ rest, p ∈ news') ∧ (∀ p ∈ own, p ∈ news') ∧ (∀ z, z ≠ a → z ≠ k → m' z = m₀ z) ∧ J (i + 1) vs) →
        InvEndG h₀ env.locals (fun m nx' => ∃ vs nn, nx' = (ln, W.listOf vs.toArray nn) :: rest ∧ J (i + 1) vs ∧ ∀ z, z ≠ a → z ≠ k → m z = m₀ z) own { s with heap := h, toks := tk } s₂ := by
      rintro ⟨h', tk', m', news', vs', nn', e, F', N', hl, hr', ho, hm', hJ'⟩
      refine ⟨h', tk', m', news', (ln, W.listOf vs'.toArray nn') :: rest, e, F', N', fun p hp => ?_, ho, hoff, vs', nn', rfl, hJ', hm'⟩
      rcases List.mem_cons.mp hp with rfl | hp
      · exact hl
      · exact hr' p hp
    cases f with
    | ret v => exact p
    | brk => exact p
    | next => exact up p
    | cont => exact up p
  · rintro m₁ nx h tk ⟨vs, nn, rfl, hJi, hm⟩ F₁ N₁
    exact done vs nn (m₁ a) (m₁ k) h tk hJi (Mine.Fr.congr (app_end hm) F₁) N₁
end
end Mine
end
section
namespace Mine
/-- int()'s words, as the law writes them -/
abbrev badWord (x : List Nat) : PySem.Str := PySem.Str.ofString "invalid literal for int() with base 10: " ++ reprText ⟨x.toArray⟩
abbrev dashW : PySem.Str := PySem.Str.ofString "Inconsistent use of dash separator"
inductive Res where
  | bad (t : PySem.Str)
  | three (y m d : Int)
  | day (n : Int)
def Dash (way : Int) (T M : List Nat) : Prop := ((way = 0 ∨ way = 2) ∧ M ≠ [45]) ∨ ((way = 1 ∨ way = 3 ∨ way = 6) ∧ ∃ r, T = 45 :: r)
def thirdI (T : List Nat) : Option Int := if T = [] then some 1 else numI T
abbrev Month (way : Int) : Prop := way = 0 ∨ way = 1 ∨ way = 6
/-- what the law asks of a case -/
inductive Due4 (way : Int) (Y S T M : List Nat) : Res → Prop
  | year (h : numI Y = none) : Due4 way Y S T M (.bad (badWord Y))
  | second {y : Int} (h : numI Y = some y) (h2 : numI S = none) : Due4 way Y S T M (.bad (badWord S))
  | dash {y m : Int} (h : numI Y = some y) (h2 : numI S = some m) (h3 : Dash way T M) : Due4 way Y S T M (.bad dashW)
  | third {y m : Int} (h : numI Y = some y) (h2 : numI S = some m) (h3 : ¬ Dash way T M) (h4 : thirdI T = none) : Due4 way Y S T M (.bad (badWord T))
  | three {y m d : Int} (h : numI Y = some y) (h2 : numI S = some m) (h3 : ¬ Dash way T M) (h4 : thirdI T = some d) (h5 : Month way) : Due4 way Y S T M (.three y m d)
  | out {y m d : Int} {t : PySem.Str} (h : numI Y = some y) (h2 : numI S = some m) (h3 : ¬ Dash way T M) (h4 : thirdI T = some d) (h5 : ¬ Month way) (h6 : badG y m d = some t) : Due4 way Y S T M (.bad t)
  | day {y m d : Int} (h : numI Y = some y) (h2 : numI S = some m) (h3 : ¬ Dash way T M) (h4 : thirdI T = some d) (h5 : ¬ Month way) (h6 : badG y m d = none) : Due4 way Y S T M (.day (monI y + ((m - 1) * 7 + (d - 1))))
/-- an object that shows an answer -/
def ResIs : Res → Obj → Prop
  | .bad t, o => ∃ k, o = tupOf #[.str t k]
  | .three y m d, o => IsLst3 y m d o
  | .day n, o => IsLst n o
def IsDue4 (way : Int) (Y S T M : List Nat) (o : Obj) : Prop := ∃ R, Due4 way Y S T M R ∧ ResIs R o
structure RoomOk (l : List Nat) : Prop where
  asc : ∀ c ∈ l, 0 < c ∧ c < 128
  len : l.length ≤ 4
theorem RoomOk.ten {l : List Nat} (h : RoomOk l) : l.length ≤ 10 := by have := h.len; omega
theorem repr_len {l : List Nat} (h : RoomOk l) : (reprText ⟨l.toArray⟩).length ≤ 42 := by
  have := StrLaws.reprText_len ⟨l.toArray⟩ (fun c hc => by have := (h.asc c (by simpa using hc)).2; omega)
  have e : (⟨l.toArray⟩ : PySem.Str).length = l.length := str_len l
  have hl := h.len
  refine Nat.le_trans this ?_
  show 10 * (⟨l.toArray⟩ : PySem.Str).length + 2 ≤ 42
  rw [e]
  omega
theorem num_cases {r : Option Int} {v : Value} {new : List (Addr × Obj)} (h : IsNum r v new) : (r = none ∧ v = .none) ∨ ∃ n t, r = some n ∧ v = .int n t := by
  obtain ⟨_, h⟩ := h
  cases r with
  | none => exact .inl ⟨rfl, h⟩
  | some n => obtain ⟨t, h⟩ := h; exact .inr ⟨n, t, rfl, h⟩
theorem room_full {c : Nat} {r : List Nat} (h : ((⟨(c :: r).toArray⟩ : PySem.Str) == PySem.Str.ofString "") = true) : False := by
  have h := congrArg PySem.Str.cps (eq_of_beq h)
  rw [lit_e] at h
  simp at h
theorem room_empty {l : List Nat} (h : ((⟨l.toArray⟩ : PySem.Str) == PySem.Str.ofString "") = true) : l = [] := by
  cases l with
  | nil => rfl
  | cons c r => exact (room_full h).elim
theorem room_some {l : List Nat} (h : ((⟨l.toArray⟩ : PySem.Str) == PySem.Str.ofString "") = false) : l ≠ [] := by
  rintro rfl
  rw [lit_e] at h
  simp at h
/-- the loop over the three rooms -/
abbrev Two1 (Y : List Nat) (vs : List Value) : Prop := ∃ y t, vs = [.int y t] ∧ numI Y = some y
abbrev Two2 (Y S : List Nat) (vs : List Value) : Prop := ∃ y t m u, vs = [.int y t, .int m u] ∧ numI Y = some y ∧ numI S = some m
abbrev Two3 (way : Int) (Y S T M : List Nat) (vs : List Value) : Prop := ∃ y t m u d v, vs = [.int y t, .int m u, .int d v] ∧ numI Y = some y ∧ numI S = some m ∧ ¬ Dash way T M ∧ thirdI T = some d
def DueJ (way : Int) (Y S T M : List Nat) : Nat → List Value → Prop
  | 0, vs => vs = []
  | 1, vs => Two1 Y vs
  | 2, vs => Two2 Y S vs
  | 3, vs => Two3 way Y S T M vs
  | _ + 4, _ => False
section
open PySem.Calls
variable {prog : Program} {w : World} {A : Around} {E : Value → Shared → Prop} {s : Shared} {env : Env} {h₀ : Heap} {body : List Stmt} {Q : Flow → Shared → Prop}
theorem loop_due {r ln : Addr} {t₀ u₀ v₀ : Tok} {nn₀ : Nat} {a k : Str} {m₀ : Str → Option Value} {rest : List (Addr × Obj)} (way : Int) (Y S T M : List Nat) (hh : A.handled = none) (hr : IsRange s.heap r 0 3 1 t₀ u₀ v₀)
    (F : Fr h₀ env.locals s.heap m₀) (N : News h₀ env.locals s.heap ((ln, W.listOf ([] : List Value).toArray nn₀) :: rest)) (hlt : ∀ p ∈ rest, p.1 < ln)
    (turn0 : ∀ (nn : Nat) (t : Tok) (x : Option Value) (h : Heap) (tk : Nat) (own : List (Addr × Obj)), (∀ p ∈ rest ++ own, p.1 ≠ ln) → Fr h₀ env.locals h (fun y => if y = k then some (.int 0 t) else if y = a then x else m₀ y) → News h₀ env.locals h ((ln, W.listOf ([] : List Value).toArray nn) :: (rest ++ own)) →
      wpAny (model prog w) A (execs body env) (AppPost h₀ env.locals ln a k m₀ (Two1 Y) rest own { s with heap := h, toks := tk } Q) E { s with heap := h, toks := tk })
    (turn1 : ∀ (nn : Nat) (t : Tok) (x : Option Value) (h : Heap) (tk : Nat) (own : List (Addr × Obj)) (y : Int) (ty : Tok), numI Y = some y → (∀ p ∈ rest ++ own, p.1 ≠ ln) → Fr h₀ env.locals h (fun y => if y = k then some (.int 1 t) else if y = a then x else m₀ y) → News h₀ env.locals h ((ln, W.listOf [.int y ty].toArray nn) :: (rest ++ own)) →
      wpAny (model prog w) A (execs body env) (AppPost h₀ env.locals ln a k m₀ (Two2 Y S) rest own { s with heap := h, toks := tk } Q) E { s with heap := h, toks := tk })
    (turn2 : ∀ (nn : Nat) (t : Tok) (x : Option Value) (h : Heap) (tk : Nat) (own : List (Addr × Obj)) (y m : Int) (ty tm : Tok), numI Y = some y → numI S = some m → (∀ p ∈ rest ++ own, p.1 ≠ ln) → Fr h₀ env.locals h (fun y => if y = k then some (.int 2 t) else if y = a then x else m₀ y) → News h₀ env.locals h ((ln, W.listOf [.int y ty, .int m tm].toArray nn) :: (rest ++ own)) →
      wpAny (model prog w) A (execs body env) (AppPost h₀ env.locals ln a k m₀ (Two3 way Y S T M) rest own { s with heap := h, toks := tk } Q) E { s with heap := h, toks := tk })
    (done : ∀ (nn : Nat) (x u : Option Value) (h : Heap) (tk : Nat) (y m d : Int) (ty tm td : Tok), numI Y = some y → numI S = some m → ¬ Dash way T M → thirdI T = some d → Fr h₀ env.locals h (fun y => if y = a then x else if y = k then u else m₀ y) → News h₀ env.locals h ((ln, W.listOf [.int y ty, .int m tm, .int d td].toArray nn) :: rest) → Q .next { s with heap := h, toks := tk }) :
    wpAny (model prog w) A (pyIter (.ref r)) (fun it s₂ => LoopAtV prog w A h₀ env k body Q E it s₂) E s := by
  refine loop_app (n := 3) (a := a) (DueJ way Y S T M) hh hr (by decide) (by decide) F N hlt rfl ?_ ?_
  · intro i vs nn t x h tk own hi hJ hne F' N'
    have hi3 : i = 0 ∨ i = 1 ∨ i = 2 := by omega
    have e (j : Nat) (z : Int) (hz : (0 : Int) + (j : Int) = z) (F' : Fr h₀ env.locals h (fun y => if y = k then some (.int (0 + (j : Int)) t) else if y = a then x else m₀ y)) : Fr h₀ env.locals h (fun y => if y = k then some (.int z t) else if y = a then x else m₀ y) := hz ▸ F'
    rcases hi3 with rfl | rfl | rfl
    · have e0 : vs = [] := hJ
      subst e0
      exact turn0 nn t x h tk own hne (e 0 0 rfl F') N'
    · have h1 : Two1 Y vs := hJ
      obtain ⟨y, ty, rfl, h1⟩ := h1
      exact turn1 nn t x h tk own y ty h1 hne (e 1 1 rfl F') N'
    · have h1 : Two2 Y S vs := hJ
      obtain ⟨y, ty, m, tm, rfl, h1, h2⟩ := h1
      exact turn2 nn t x h tk own y m ty tm h1 h2 hne (e 2 2 rfl F') N'
  · intro vs nn x u h tk hJ F' N'
    obtain ⟨y, ty, m, tm, d, td, rfl, h1, h2, h3, h4⟩ : Two3 way Y S T M vs := hJ
    exact done nn x u h tk y m d ty tm td h1 h2 h3 h4 F' N'
end
/-- a contract of a def that reads what lies in the ledger -/
abbrev CtrP (prog : Program) (w : World) (K : Frag) (p : Program) (loose : List Str) (mean : ExcName → Option Value) (mg mb : Str → Option Value) (f : Addr) (d u : Nat) (vs : List Value) (pre : List (Addr × Obj) → Prop) (C : Cont) : Prop :=
  ∀ (dp un : Nat) (gd : Option (List Code)) (cn : Str) (cs : Scope) (a : Addr) (ccd : Value) (cl : List (Str × Addr)) (outer : List Env) (A₀ : Around) (base h₀ : Heap) (L : Addr) (m : Str → Option Value) (news : List (Addr × Obj)) (s : Shared) (Q E : Value → Shared → Prop),
    Below A₀ base outer h₀ → Fr h₀ L s.heap m → K.In h₀ → News h₀ L s.heap news → pre news → Top p loose mean mg mb h₀ → cs.kind = .function →
    dp + d < recursionLimit → un + u < cLine → C base h₀ L m news (envX cn cs L a ccd cl :: outer) s Q E →
    wpAny (model prog w) (ktrTop dp un gd cn cs L a ccd cl outer) (call (.ref f) vs) Q E s
structure DueAt4 (way : Int) (Y S T M : List Nat) : Prop where
  lo : 0 ≤ way
  hi : way < 8
  yr : RoomOk Y
  sr : RoomOk S
  tr : RoomOk T
  yn : Y ≠ []
  sn : S ≠ []
  tn : way = 1 ∨ way = 3 ∨ way = 6 → T ≠ []
section
open PySem.Calls
variable {prog : Program} {w : World} {A : Around} {E : Value → Shared → Prop} {s : Shared} {env : Env} {h₀ : Heap} {body : List Stmt} {Q : Flow → Shared → Prop}
theorem loop_dueOf {r ln : Addr} {t₀ u₀ v₀ : Tok} {nn₀ : Nat} {a k : Str} {m₀ : Str → Option Value} {rest : List (Addr × Obj)} {way : Int} {Y S T M : List Nat} (_ : DueAt4 way Y S T M) (hh : A.handled = none) (hr : IsRange s.heap r 0 3 1 t₀ u₀ v₀)
    (F : Fr h₀ env.locals s.heap m₀) (N : News h₀ env.locals s.heap ((ln, W.listOf ([] : List Value).toArray nn₀) :: rest)) (hlt : ∀ p ∈ rest, p.1 < ln)
    (turn0 : ∀ (nn : Nat) (t : Tok) (x : Option Value) (h : Heap) (tk : Nat) (own : List (Addr × Obj)), (∀ p ∈ rest ++ own, p.1 ≠ ln) → Fr h₀ env.locals h (fun y => if y = k then some (.int 0 t) else if y = a then x else m₀ y) → News h₀ env.locals h ((ln, W.listOf ([] : List Value).toArray nn) :: (rest ++ own)) →
      wpAny (model prog w) A (execs body env) (AppPost h₀ env.locals ln a k m₀ (Two1 Y) rest own { s with heap := h, toks := tk } Q) E { s with heap := h, toks := tk })
    (turn1 : ∀ (nn : Nat) (t : Tok) (x : Option Value) (h : Heap) (tk : Nat) (own : List (Addr × Obj)) (y : Int) (ty : Tok), numI Y = some y → (∀ p ∈ rest ++ own, p.1 ≠ ln) → Fr h₀ env.locals h (fun y => if y = k then some (.int 1 t) else if y = a then x else m₀ y) → News h₀ env.locals h ((ln, W.listOf [.int y ty].toArray nn) :: (rest ++ own)) →
      wpAny (model prog w) A (execs body env) (AppPost h₀ env.locals ln a k m₀ (Two2 Y S) rest own { s with heap := h, toks := tk } Q) E { s with heap := h, toks := tk })
    (turn2 : ∀ (nn : Nat) (t : Tok) (x : Option Value) (h : Heap) (tk : Nat) (own : List (Addr × Obj)) (y m : Int) (ty tm : Tok), numI Y = some y → numI S = some m → (∀ p ∈ rest ++ own, p.1 ≠ ln) → Fr h₀ env.locals h (fun y => if y = k then some (.int 2 t) else if y = a then x else m₀ y) → News h₀ env.locals h ((ln, W.listOf [.int y ty, .int m tm].toArray nn) :: (rest ++ own)) →
      wpAny (model prog w) A (execs body env) (AppPost h₀ env.locals ln a k m₀ (Two3 way Y S T M) rest own { s with heap := h, toks := tk } Q) E { s with heap := h, toks := tk })
    (done : ∀ (nn : Nat) (x u : Option Value) (h : Heap) (tk : Nat) (y m d : Int) (ty tm td : Tok), numI Y = some y → numI S = some m → ¬ Dash way T M → thirdI T = some d → Fr h₀ env.locals h (fun y => if y = a then x else if y = k then u else m₀ y) → News h₀ env.locals h ((ln, W.listOf [.int y ty, .int m tm, .int d td].toArray nn) :: rest) → Q .next { s with heap := h, toks := tk }) :
    wpAny (model prog w) A (pyIter (.ref r)) (fun it s₂ => LoopAtV prog w A h₀ env k body Q E it s₂) E s := loop_due way Y S T M hh hr F N hlt turn0 turn1 turn2 done
end
theorem word_size {l : List Nat} (h : RoomOk l) : (PySem.Str.ofString "invalid literal for int() with base 10: ").length + (reprText ⟨l.toArray⟩).length ≤ sizeLine := by
  have := repr_len h
  have e : (PySem.Str.ofString "invalid literal for int() with base 10: ").length = 40 := by decide +kernel
  rw [e, sizeLine_eq]; omega
theorem repr_fits {l : List Nat} (h : RoomOk l) : (reprText ⟨l.toArray⟩).length ≤ sizeLine := by
  have := repr_len h
  rw [sizeLine_eq]; omega
theorem num_lt {l : List Nat} {n : Int} (h : RoomOk l) (hn : numI l = some n) : -10000 < n ∧ n < 10000 := num_bound h.len hn
theorem third_lt {l : List Nat} {n : Int} (h : RoomOk l) (hn : thirdI l = some n) : -10000 < n ∧ n < 10000 := by
  unfold thirdI at hn
  split at hn
  · cases hn; decide
  · exact num_lt h hn
theorem third_one {l : List Nat} (h : ((⟨l.toArray⟩ : PySem.Str) == PySem.Str.ofString "") = true) : thirdI l = some 1 := by
  rw [room_empty h]; rfl
theorem third_num {l : List Nat} (h : ((⟨l.toArray⟩ : PySem.Str) == PySem.Str.ofString "") = false) : thirdI l = numI l := if_neg (room_some h)
theorem gt_ne {a b : Addr} {A : Prop} (h : @LT.lt Nat _ a b ∧ A) : b ≠ a := Nat.ne_of_gt h.1
theorem gt_ne2 {a b : Addr} {A B : Prop} (h : A ∧ @LT.lt Nat _ a b ∧ B) : b ≠ a := Nat.ne_of_gt h.2.1
section
variable {way : Int} {Y S T M : List Nat} {y m d : Int}
theorem in02 : ([0, 2].any fun x => x == way) = true ↔ way = 0 ∨ way = 2 := by
  simp only [List.any_cons, List.any_nil, Bool.or_false, Bool.or_eq_true, beq_iff_eq]
  constructor <;> (intro h; omega)
theorem in136 : ([1, 3, 6].any fun x => x == way) = true ↔ way = 1 ∨ way = 3 ∨ way = 6 := by
  simp only [List.any_cons, List.any_nil, Bool.or_false, Bool.or_eq_true, beq_iff_eq]
  constructor <;> (intro h; omega)
theorem in016 : ([0, 1, 6].any fun x => x == way) = true ↔ Month way := by
  simp only [List.any_cons, List.any_nil, Bool.or_false, Bool.or_eq_true, beq_iff_eq]
  constructor <;> (intro h; omega)
theorem no016 (h : ([0, 1, 6].any fun x => x == way) = false) : ¬ Month way := fun q => by rw [in016.mpr q] at h; cases h
theorem room_pos (D : DueAt4 way Y S T M) (h : ([1, 3, 6].any fun x => x == way) = true) : 0 < T.length := List.length_pos_iff.mpr (D.tn (in136.mp h))
theorem mark_is : ((⟨M.toArray⟩ : PySem.Str) != PySem.Str.ofString "-") = true ↔ M ≠ [45] := by
  rw [lit_d, bne_iff_ne]
  constructor
  · rintro h rfl; exact h rfl
  · intro h e
    exact h (by simpa using congrArg (fun z : PySem.Str => z.cps.toList) e)
theorem dash1 (h1 : ([0, 2].any fun x => x == way) = true) (h2 : ((⟨M.toArray⟩ : PySem.Str) != PySem.Str.ofString "-") = true) : Dash way T M := .inl ⟨in02.mp h1, mark_is.mp h2⟩
theorem head_is {c : Nat} {r : List Nat} : (PySem.Txt.item ⟨(c :: r).toArray⟩ 0 == PySem.Str.ofString "-") = decide (c = 45) := by
  rw [item_at (k := 0) (c := c) (by decide) rfl rfl, lit_d]
  exact one_is
theorem dash2 (D : DueAt4 way Y S T M) (h1 : ([1, 3, 6].any fun x => x == way) = true) (h2 : (PySem.Txt.item ⟨T.toArray⟩ 0 == PySem.Str.ofString "-") = true) : Dash way T M := by
  refine .inr ⟨in136.mp h1, ?_⟩
  have := room_pos D h1
  cases T with
  | nil => simp at this
  | cons c r => rw [head_is, decide_eq_true_eq] at h2; exact ⟨r, by rw [h2]⟩
theorem noDash (h1 : ([0, 2].any fun x => x == way) = false ∨ ((⟨M.toArray⟩ : PySem.Str) != PySem.Str.ofString "-") = false) (h2 : ([1, 3, 6].any fun x => x == way) = false ∨ (PySem.Txt.item ⟨T.toArray⟩ 0 == PySem.Str.ofString "-") = false) : ¬ Dash way T M := by
  rintro (⟨a, b⟩ | ⟨a, r, rfl⟩)
  · rw [in02.mpr a, mark_is.mpr b] at h1; rcases h1 with h | h <;> cases h
  · rw [in136.mpr a, head_is] at h2; rcases h2 with h | h <;> simp at h
theorem e_year {k : Tok} (h : numI Y = none) : IsDue4 way Y S T M (tupOf #[.str (badWord Y) k]) := ⟨_, .year h, _, rfl⟩
theorem e_second {k : Tok} (h : numI Y = some y) (h2 : numI S = none) : IsDue4 way Y S T M (tupOf #[.str (badWord S) k]) := ⟨_, .second h h2, _, rfl⟩
theorem e_dash {k : Tok} (h : numI Y = some y) (h2 : numI S = some m) (h3 : Dash way T M) : IsDue4 way Y S T M (tupOf #[.str dashW k]) := ⟨_, .dash h h2 h3, _, rfl⟩
theorem e_third {k : Tok} (h : numI Y = some y) (h2 : numI S = some m) (h3 : ¬ Dash way T M) (h4 : ((⟨T.toArray⟩ : PySem.Str) == PySem.Str.ofString "") = false) (h5 : numI T = none) : IsDue4 way Y S T M (tupOf #[.str (badWord T) k]) := ⟨_, .third h h2 h3 ((third_num h4).trans h5), _, rfl⟩
theorem e_three {t u v : Tok} {n : Nat} (h : numI Y = some y) (h2 : numI S = some m) (h3 : ¬ Dash way T M) (h4 : thirdI T = some d) (h5 : ([0, 1, 6].any fun x => x == way) = true) : IsDue4 way Y S T M (W.listOf #[.int y t, .int m u, .int d v] n) := ⟨_, .three h h2 h3 h4 (in016.mp h5), _, _, _, _, rfl⟩
abbrev thF (y m : Int) : Int := (ylI y - 303 - (2 + 5 * y.fmod 4 + 4 * y.fmod 100 + 6 * y.fmod 400).fmod 7).fmod 7 + 7 * m - 6
theorem thF_is (y m : Int) : thF y m = thL y m := by
  unfold thF thL doomI
  simp only [fm]
theorem emp_app (x : PySem.Str) : PySem.Str.empty ++ x = x := by
  refine Str.ext' (Array.toList_inj.mp ?_)
  simp only [Str.cps_append, Array.toList_append]
  rfl
theorem e_outY {k : Tok} (h : numI Y = some y) (h2 : numI S = some m) (h3 : ¬ Dash way T M) (h4 : thirdI T = some d) (h5 : ([0, 1, 6].any fun x => x == way) = false) (h6 : ¬ (1 ≤ y ∧ y ≤ 9999)) : IsDue4 way Y S T M (tupOf #[.str (PySem.Str.ofString "Year is out of range: " ++ PySem.Str.ofString (toString y)) k]) := ⟨_, .out h h2 h3 h4 (no016 h5) ((gY h6).trans (by rw [emp_app])), _, rfl⟩
theorem e_outW {k : Tok} (h : numI Y = some y) (h2 : numI S = some m) (h3 : ¬ Dash way T M) (h4 : thirdI T = some d) (h5 : ([0, 1, 6].any fun x => x == way) = false) (h6 : 1 ≤ y) (h7 : y ≤ 9999) (h8 : ¬ (1 ≤ thF y m ∧ thF y m ≤ ylI y)) : IsDue4 way Y S T M (tupOf #[.str (PySem.Str.ofString "Invalid week: " ++ PySem.Str.ofString (toString m)) k]) := by
  rw [thF_is] at h8
  exact ⟨_, .out h h2 h3 h4 (no016 h5) ((gW h6 h7 fun q => h8 (thL_week.mp q)).trans (by rw [emp_app])), _, rfl⟩
theorem e_outW1 {k : Tok} (h : numI Y = some y) (h2 : numI S = some m) (h3 : ¬ Dash way T M) (h4 : thirdI T = some d) (h5 : ([0, 1, 6].any fun x => x == way) = false) (h6 : 1 ≤ y) (h7 : y ≤ 9999) (h8 : ¬ 1 ≤ thF y m) : IsDue4 way Y S T M (tupOf #[.str (PySem.Str.ofString "Invalid week: " ++ PySem.Str.ofString (toString m)) k]) := e_outW h h2 h3 h4 h5 h6 h7 fun q => h8 q.1
theorem e_outW2 {k : Tok} (h : numI Y = some y) (h2 : numI S = some m) (h3 : ¬ Dash way T M) (h4 : thirdI T = some d) (h5 : ([0, 1, 6].any fun x => x == way) = false) (h6 : 1 ≤ y) (h7 : y ≤ 9999) (h8 : ¬ thF y m ≤ ylI y) : IsDue4 way Y S T M (tupOf #[.str (PySem.Str.ofString "Invalid week: " ++ PySem.Str.ofString (toString m)) k]) := e_outW h h2 h3 h4 h5 h6 h7 fun q => h8 q.2
theorem e_outD {k : Tok} (h : numI Y = some y) (h2 : numI S = some m) (h3 : ¬ Dash way T M) (h4 : thirdI T = some d) (h5 : ([0, 1, 6].any fun x => x == way) = false) (h6 : 1 ≤ y) (h7 : y ≤ 9999) (h8 : 1 ≤ thF y m) (h9 : thF y m ≤ ylI y) (h10 : ¬ (1 ≤ d ∧ d ≤ 7)) : IsDue4 way Y S T M (tupOf #[.str (PySem.Str.ofString "Invalid weekday: " ++ PySem.Str.ofString (toString d) ++ PySem.Str.ofString " (range is [1, 7])") k]) := by
  rw [thF_is] at h8 h9
  exact ⟨_, .out h h2 h3 h4 (no016 h5) ((gD h6 h7 (thL_week.mpr ⟨h8, h9⟩) fun q => h10 (by omega)).trans (by rw [emp_app])), _, rfl⟩
theorem e_day {o : Obj} (h : numI Y = some y) (h2 : numI S = some m) (h3 : ¬ Dash way T M) (h4 : thirdI T = some d) (h5 : ([0, 1, 6].any fun x => x == way) = false) (h6 : 1 ≤ y) (h7 : y ≤ 9999) (h8 : 1 ≤ thF y m) (h9 : thF y m ≤ ylI y) (h10 : 1 ≤ d) (h11 : d ≤ 7) (ho : IsLst (dbyI y + (thF y m + d - 4)) o) : IsDue4 way Y S T M o := by
  rw [thF_is] at h8 h9 ho
  refine ⟨_, .day h h2 h3 h4 (no016 h5) (gN h6 h7 (thL_week.mpr ⟨h8, h9⟩) (by omega) (by omega)), ?_⟩
  rw [thL_day] at ho
  exact ho
end
theorem endM {base h₀ h' : Heap} {L : Addr} {m : Str → Option Value} {news news' : List (Addr × Obj)} {fr : List Env} {s : Shared} {Q E : Value → Shared → Prop} {tk' : Nat} {P : Obj → Prop} {l : Addr} {o : Obj} (hret : cNew P base h₀ L m news fr s Q E) (F : Fr h₀ L h' m) (N : News h₀ L h' news') (hm : (l, o) ∈ news') (hs : ∀ p ∈ news, p ∈ news') (hl : ∀ p ∈ news, p.1 < l) (e : P o) : Q (.ref l) { s with heap := h', toks := tk' } :=
  endN hret e F N (fun p hp => by
    rcases List.mem_cons.mp hp with rfl | hp
    · exact hm
    · exact hs p hp) hl
end Mine
end
section
namespace Mine
noncomputable abbrev CP (w : World) (mean : ExcName → Option Value) (mg mb : Str → Option Value) (f : Addr) (d u : Nat) (vs : List Value) (pre : List (Addr × Obj) → Prop) (C : Cont) : Prop := CtrP Challenge.rw_km0087_04.row.prog w (Mine.heapK w.params) Mine.viewK lo mean mg mb f d u vs pre C
set_option maxHeartbeats 0 in
theorem c_due (w : World) (mean : ExcName → Option Value) (mg mb : Str → Option Value) (way : Int) (Y S T M : List Nat) (l : Addr) (ty ts tt tm u : Tok) (n : Nat) (hD : DueAt4 way Y S T M) : CP w mean mg mb 122 12 48 [.int way u, .ref l, .str ⟨M.toArray⟩ tm] (fun news => (l, PySem.W.listOf #[.str ⟨Y.toArray⟩ ty, .str ⟨S.toArray⟩ ts, .str ⟨T.toArray⟩ tt] n) ∈ news) (cNew (IsDue4 way Y S T M)) := by
  w_top off
  k_with_none
  (k_with "joinParts" => (k_here; (first | (with_reducible show wpAny _ _ (joinParts _ []) _ _ _) | (with_reducible show wpAny _ _ (joinParts _ (evalEach [] _)) _ _ _)); (try (with_reducible refine joinParts_nilE ?_)); (with_reducible refine' joinParts_nil ?_ ?wq7z); (case wq7z => first | ((with_reducible refine fit1 ?_) <;> (first | ((with_reducible refine leafI ?_ ?_) <;> k_dflt omega) | ((with_reducible refine leafL ?_); k_dflt (decide +kernel)) | (with_reducible exact leafS (by assumption) (by decide)))) | ((with_reducible refine fit2 ?_ ?_) <;> (first | ((with_reducible refine leafI ?_ ?_) <;> k_dflt omega) | ((with_reducible refine leafL ?_); k_dflt (decide +kernel)) | (with_reducible exact leafS (by assumption) (by decide)))) | ((with_reducible refine fit3 ?_ ?_ ?_) <;> (first | ((with_reducible refine leafI ?_ ?_) <;> k_dflt omega) | ((with_reducible refine leafL ?_); k_dflt (decide +kernel)) | (with_reducible exact leafS (by assumption) (by decide)))) | ((with_reducible refine fit4 ?_ ?_ ?_ ?_) <;> (first | ((with_reducible refine leafI ?_ ?_) <;> k_dflt omega) | ((with_reducible refine leafL ?_); k_dflt (decide +kernel)) | (with_reducible exact leafS (by assumption) (by decide)))) | ((with_reducible refine fit5 ?_ ?_ ?_ ?_ ?_) <;> (first | ((with_reducible refine leafI ?_ ?_) <;> k_dflt omega) | ((with_reducible refine leafL ?_); k_dflt (decide +kernel)) | (with_reducible exact leafS (by assumption) (by decide)))) | ((with_reducible refine fit6 ?_ ?_ ?_ ?_ ?_ ?_) <;> (first | ((with_reducible refine leafI ?_ ?_) <;> k_dflt omega) | ((with_reducible refine leafL ?_); k_dflt (decide +kernel)) | (with_reducible exact leafS (by assumption) (by decide)))) | ((with_reducible refine fit7 ?_ ?_ ?_ ?_ ?_ ?_ ?_) <;> (first | ((with_reducible refine leafI ?_ ?_) <;> k_dflt omega) | ((with_reducible refine leafL ?_); k_dflt (decide +kernel)) | (with_reducible exact leafS (by assumption) (by decide)))))))
  (k_with "formatField int" => (k_here; (with_reducible show wpAny _ _ (formatField (Value.int _ _) PySem.Str.empty) _ _ _); k_dflt (refine wpAny_formatField_int (log_small (by omega) (by omega)) ?_)))
  (k_with "formatField int" => (k_here; (with_reducible show wpAny _ _ (formatField (Value.int _ _) (PySem.Str.ofString _)) _ _ _); k_dflt ((refine' KXf.field_sym (Heap.NoDigits.keeps (Top.nodigits ?wq7T) (Fr.keep ?wq7F)) ?wq7a ?wq7b ?wq7c ?wq7d ?wq7e ?_); (case wq7F => k_asm); (case wq7T => k_asm); (case wq7c => decide +kernel); (case wq7d => kxf_nat); (case wq7e => decide +kernel); (case wq7a => omega); (case wq7b => omega)); intro _ _ kxfF kxfLo kxfHi))
  (k_with "exec For Name Call cons nil" => (k_here; (rename Fr _ _ _ _ => lF'); (with_unfolding_all refine' For_invVF lF' ?wq7k1 ?wq7k2 ?_; (case wq7k1 => exact rfl); (case wq7k2 => exact rfl); k_whole)))
  (k_with "pyIter ref" => (k_here; (with_reducible show wpAny _ _ (pyIter (Value.ref _)) (fun it s₂ => LoopAtV _ _ _ _ _ _ _ _ _ it s₂) _ _); (with_reducible rename DueAt4 _ _ _ _ _ => hD9); k_dflt (refine' loop_dueOf (a := PySem.Str.ofString "number") hD9 ?wq7zh ?wq7zr ?wq7zF ?wq7zN ?wq7zt ?_ ?_ ?_ ?_; (case wq7zt => with_reducible assumption); (case wq7zh => exact rfl); (case wq7zr => assumption); (case wq7zF => k_asm); (case wq7zN => k_asm)); (intro n9 t9 x9 h9 tk9 own9 hne9 F9 N9; (try simp only [List.cons_append, List.nil_append] at N9); (try dsimp only); (try k_fold)); rotate_left 1; (intro n9 t9 x9 h9 tk9 own9 y9 ty9 hy9 hne9 F9 N9; (try simp only [List.cons_append, List.nil_append] at N9); (try dsimp only); (try k_fold)); rotate_left 1; (intro n9 t9 x9 h9 tk9 own9 y9 m9 ty9 tm9 hy9 hm9 hne9 F9 N9; (try simp only [List.cons_append, List.nil_append] at N9); (try dsimp only); (try k_fold)); rotate_left 1; (intro n9 x9 u9 h9 tk9 y9 m9 d9 ty9 tm9 td9 hy9 hm9 hd9 ht9 F9 N9; k_dflt (have by9 := num_lt hD9.yr hy9; have bm9 := num_lt hD9.sr hm9; have bd9 := third_lt hD9.tr ht9; have yl9 := yl_lo y9); (try simp only [List.cons_append, List.nil_append] at N9); (try dsimp only); (try k_fold)); rotate_left 1))
  (k_with "subscriptTail Name Name ref int" => (k_here; k_dflt (refine' lstN (vs := [_, _, _]) ?wq7zN ?wq7zm ?wq7z0 ?wq7z1 ?wq7zv ?_; (case wq7zN => k_asm); (case wq7zm => (repeat (first | (with_reducible exact List.mem_cons_self) | (with_reducible assumption) | (with_reducible refine List.mem_cons_of_mem _ ?_) | (with_reducible refine List.mem_append_left _ ?_)))); (case wq7z0 => decide); (case wq7z1 => decide); (case wq7zv => exact rfl))))
  (k_with "subscriptTail Name Constant ref int" => (k_here; k_dflt (refine' lstN (vs := [_, _, _]) ?wq7zN ?wq7zm ?wq7z0 ?wq7z1 ?wq7zv ?_; (case wq7zN => k_asm); (case wq7zm => (repeat (first | (with_reducible exact List.mem_cons_self) | (with_reducible assumption) | (with_reducible refine List.mem_cons_of_mem _ ?_) | (with_reducible refine List.mem_append_left _ ?_)))); (case wq7z0 => decide); (case wq7z1 => decide); (case wq7zv => exact rfl))))
  (k_with "subscriptTail Subscript Name Constant Constant str int" => (k_here; (with_reducible rename DueAt4 _ _ _ _ _ => hD9); k_dflt (refine' itemN (y := PySem.Txt.item _ _) ?wq7ze ?wq7z0 ?wq7z1 ?wq7z2 ?_; (case wq7ze => exact rfl); (case wq7z0 => decide); (case wq7z1 => exact Int.ofNat_lt.mpr (room_pos hD9 (by with_reducible assumption))); (case wq7z2 => decide))))
  (k_with "subscriptTail Name Constant str int" => (k_here; (with_reducible rename DueAt4 _ _ _ _ _ => hD9); k_dflt (refine' itemN (y := PySem.Txt.item _ _) ?wq7ze ?wq7z0 ?wq7z1 ?wq7z2 ?_; (case wq7ze => exact rfl); (case wq7z0 => decide); (case wq7z1 => exact Int.ofNat_lt.mpr (room_pos hD9 (by with_reducible assumption))); (case wq7z2 => decide))))
  (k_with "call builtin:list.append" => (k_here; (with_reducible show wpAny _ _ (call (Value.builtin _) [Value.ref _, _]) _ _ _); k_dflt (refine' append_K ?wq7k1 ?wq7k2 ?wq7k3 ?_ ?wq7z; (case wq7k1 => k_asm); (case wq7k2 => k_asm); (case wq7k3 => first | exact Upd.head (by with_reducible assumption) | exact Upd.tail (gt_ne (by with_reducible assumption)) (Upd.head (by with_reducible assumption)) | exact Upd.tail (gt_ne2 (by with_reducible assumption)) (Upd.tail (gt_ne (by with_reducible assumption)) (Upd.head (by with_reducible assumption)))); (case wq7z => (rw [sizeLine_eq]; exact Nat.le_of_ble_eq_true rfl)); k_whole); intro h' F' N'; (simp only [List.push_toArray, List.cons_append, List.nil_append] at N'); (try k_sweep)))
  (k_with "call ref" => (k_dflt ( (refine' use ?wq7c ?wq7k1 ?wq7k2 ?wq7k3 ?wq7k4 ?wq7k5 ?wq7k6 ?wq7k7 ?wq7k8 ?_); (case wq7k2 => k_asm); (case wq7k1 => k_asm); (case wq7k3 => k_asm); (case wq7k4 => k_asm); (case wq7k5 => k_asm); (case wq7c => first  | exact c_number _ _ _ _ _ _ (by with_reducible rename DueAt4 _ _ _ _ _ => hD9; exact hD9.yr.asc) (by with_reducible rename DueAt4 _ _ _ _ _ => hD9; exact hD9.yr.ten) | exact c_number _ _ _ _ _ _ (by with_reducible rename DueAt4 _ _ _ _ _ => hD9; exact hD9.sr.asc) (by with_reducible rename DueAt4 _ _ _ _ _ => hD9; exact hD9.sr.ten) | exact c_number _ _ _ _ _ _ (by with_reducible rename DueAt4 _ _ _ _ _ => hD9; exact hD9.tr.asc) (by with_reducible rename DueAt4 _ _ _ _ _ => hD9; exact hD9.tr.ten)); (case wq7k6 => first | exact rfl | assumption); (case wq7k7 => ktr_room); (case wq7k8 => ktr_units); (intro v9 new9 h9 tk9 P9 fr9 F9 N9; k_dflt (have e9 := P9.1; have q9 := num_cases P9; clear P9; subst e9; clear fr9); (simp only [List.append_nil] at N9); rcases q9 with ⟨hn9, ev9⟩ | ⟨n9, t9, hn9, ev9⟩ <;> subst ev9 <;> (try dsimp only) <;> (try k_fold)))))
  (k_with "call ref" => (k_dflt ( (refine' use ?wq7c ?wq7k1 ?wq7k2 ?wq7k3 ?wq7k4 ?wq7k5 ?wq7k6 ?wq7k7 ?wq7k8 ?_); (case wq7k2 => k_asm); (case wq7k1 => k_asm); (case wq7k3 => k_asm); (case wq7k4 => k_asm); (case wq7k5 => k_asm); (case wq7c => first  | exact c_length _ _ _ _ _ _); (case wq7k6 => first | exact rfl | assumption); (case wq7k7 => ktr_room); (case wq7k8 => ktr_units); (intro t9 h9 tk9 F9 N9; (try dsimp only); (try k_fold)))))
  (k_with "call ref" => (k_dflt ( (refine' use ?wq7c ?wq7k1 ?wq7k2 ?wq7k3 ?wq7k4 ?wq7k5 ?wq7k6 ?wq7k7 ?wq7k8 ?_); (case wq7k2 => k_asm); (case wq7k1 => k_asm); (case wq7k3 => k_asm); (case wq7k4 => k_asm); (case wq7k5 => k_asm); (case wq7c => first  | exact c_date _ _ _ _ _ _ _ _ (by omega) (by omega)); (case wq7k6 => first | exact rfl | assumption); (case wq7k7 => ktr_room); (case wq7k8 => ktr_units); (intro l9 o9 h9 tk9 P9 F9 N9 l1; (try simp only [List.cons_append, List.nil_append] at N9); (try dsimp only); (try k_fold); (try k_lt l1)))))
  (k_with "call builtin:repr" => (k_here; (with_reducible show wpAny _ _ (call (Value.builtin _) [Value.str _ _]) _ _ _); (with_reducible rename DueAt4 _ _ _ _ _ => hD9); k_dflt (refine P.repr_of_str (hsz := ?wq7zz) ?_; (case wq7zz => first | exact repr_fits hD9.yr | exact repr_fits hD9.sr | exact repr_fits hD9.tr))))
  (k_with "binaryOp Add str str" => (k_here; (with_reducible rename DueAt4 _ _ _ _ _ => hD9); k_dflt (refine SBL.add (hsz := ?wq7zz) ?_; (case wq7zz => first | with_reducible exact word_size hD9.yr | with_reducible exact word_size hD9.sr | with_reducible exact word_size hD9.tr)); intro _ _ _; (try dsimp only); (try k_fold)))
  (k_with "AppPost ret" => (k_here; (refine AppPost.back ?_); (try dsimp only)))
  unfold CP CtrP; k_fill
  intro dp un gd cn cs a ccd cl outer A₀ base h₀ L m news s Q E B F X N hpre T hk hd hu hret
  have D0 : KtsDicts [] h₀ := ktsDicts_nil
  refine wpAny_call ?_
  k_dflt cell_enter
  (refine tk_any ?_; intro tk0)
  rename Fr _ _ _ _ => F'
  (refine fr_in3 (PySem.Str.ofString "way") (PySem.Str.ofString "rooms") (PySem.Str.ofString "mark") F' (by with_unfolding_all exact rfl) (by with_unfolding_all exact rfl) (by with_unfolding_all exact rfl) ?_; clear F'; intro m0 F')
  k_steps
  all_goals (try k_data)
  all_goals first
  | (exfalso; (with_reducible rename DueAt4 _ _ _ _ _ => hD9); first | exact hD9.yn (room_empty (by with_reducible assumption)) | exact hD9.sn (room_empty (by with_reducible assumption)))
  | (refine' AppPost.next ?zF ?zN ?zL ?zr ?zo ?zm ?zP; (case zF => k_asm); (case zN => k_asm); (case zL => (repeat (first | (with_reducible exact List.mem_cons_self) | (with_reducible refine List.mem_cons_of_mem _ ?_)))); (case zr => (intro p9 hp9; (repeat (with_reducible refine List.mem_cons_of_mem _ ?_)); exact List.mem_append_left _ hp9)); (case zo => (intro p9 hp9; (repeat (with_reducible refine List.mem_cons_of_mem _ ?_)); exact List.mem_append_right _ hp9)); (case zm => (intro z9 hz1 hz2; simp only [if_neg hz1, if_neg hz2])); (case zP => first | exact ⟨_, _, rfl, by with_reducible assumption⟩ | exact ⟨_, _, _, _, rfl, by with_reducible assumption, by with_reducible assumption⟩ | exact ⟨_, _, _, _, _, _, rfl, by with_reducible assumption, by with_reducible assumption, (by first | assumption | exact noDash (by first | exact .inl (by with_reducible assumption) | exact .inr (by with_reducible assumption)) (by first | exact .inl (by with_reducible assumption) | exact .inr (by with_reducible assumption))), by first | exact third_one (by with_reducible assumption) | exact (third_num (by with_reducible assumption)).trans (by with_reducible assumption)⟩))
  | ((with_reducible refine' endM (Q := Q) (s := s) hret ?F ?N ?M ?S ?l ?e); (case F => k_asm); (case N => k_asm); (case M => (repeat (first | (with_reducible exact List.mem_cons_self) | (with_reducible refine List.mem_cons_of_mem _ ?_)))); (case S => kcf_all); (case l => first | with_reducible assumption | exact lt0 (by with_reducible assumption) | exact lt0 (And.right (by with_reducible assumption)) | exact lt0 (And.right (And.right (by with_reducible assumption))) | exact lt0 (And.right (And.right (And.right (by with_reducible assumption)))) | exact lt0 (And.right (And.right (And.right (And.right (by with_reducible assumption))))) | exact lt0 (And.right (And.right (And.right (And.right (And.right (by with_reducible assumption)))))) | exact ltX (by with_reducible assumption) | exact ltX (And.right (by with_reducible assumption)) | exact ltX (And.right (And.right (by with_reducible assumption))) | exact ltX (And.right (And.right (And.right (by with_reducible assumption)))) | exact ltX (And.right (And.right (And.right (And.right (by with_reducible assumption))))) | exact ltX (And.right (And.right (And.right (And.right (And.right (by with_reducible assumption))))))); (case e => first | with_reducible exact e_year (by with_reducible assumption) | with_reducible exact e_second (by with_reducible assumption) (by with_reducible assumption) | with_reducible exact e_dash (by with_reducible assumption) (by with_reducible assumption) (by first | exact dash1 (by with_reducible assumption) (by with_reducible assumption) | exact dash2 (by with_reducible assumption) (by with_reducible assumption) (by with_reducible assumption)) | with_reducible exact e_third (by with_reducible assumption) (by with_reducible assumption) (by first | assumption | exact noDash (by first | exact .inl (by with_reducible assumption) | exact .inr (by with_reducible assumption)) (by first | exact .inl (by with_reducible assumption) | exact .inr (by with_reducible assumption))) (by with_reducible assumption) (by with_reducible assumption) | with_reducible exact e_three (by with_reducible assumption) (by with_reducible assumption) (by with_reducible assumption) (by with_reducible assumption) (by with_reducible assumption) | with_reducible exact e_outY (by with_reducible assumption) (by with_reducible assumption) (by with_reducible assumption) (by with_reducible assumption) (by with_reducible assumption) (by omega) | with_reducible exact e_outW1 (by with_reducible assumption) (by with_reducible assumption) (by with_reducible assumption) (by with_reducible assumption) (by with_reducible assumption) (by omega) (by omega) (by with_reducible assumption) | with_reducible exact e_outW2 (by with_reducible assumption) (by with_reducible assumption) (by with_reducible assumption) (by with_reducible assumption) (by with_reducible assumption) (by omega) (by omega) (by with_reducible assumption) | with_reducible exact e_outD (by with_reducible assumption) (by with_reducible assumption) (by with_reducible assumption) (by with_reducible assumption) (by with_reducible assumption) (by omega) (by omega) (by with_reducible assumption) (by with_reducible assumption) (by omega) | with_reducible exact e_day (by with_reducible assumption) (by with_reducible assumption) (by with_reducible assumption) (by with_reducible assumption) (by with_reducible assumption) (by omega) (by omega) (by with_reducible assumption) (by with_reducible assumption) (by omega) (by omega) (by with_reducible assumption)))
end Mine
end
section
namespace Mine
set_option maxHeartbeats 0 in
theorem c_case (w : World) (mean : ExcName → Option Value) (mg mb : Str → Option Value) (n : Int) (t : Tok) : C w mean mg mb 94 8 32 [.int n t] (cVal IsCase) := by
  w_top off
  k_with_none
  (k_with "call builtin:divmod" => (k_here; (with_reducible show wpAny _ _ (call (Value.builtin _) [Value.int _ _, Value.int _ _]) _ _ _); k_dflt ( (refine' divmod_G ?wq7F ?wq7N ?wq7b ?_ ?wq7hp); (case wq7F => k_asm); (case wq7N => k_asm); (case wq7b => omega); (case wq7hp => first | exact Or.inl (PyProof.noPylong_of_log2 (by decide +kernel)) | exact Or.inl (PyProof.noPylong_small (by omega)) | exact Or.inr (PySem.PylongRoom.of (by first | assumption | (refine PySem.Heap.NoLimit.keeps ?_ (PyProof.Rows.Fr.keep (by assumption)); exact PyProof.Rows.Top.nolimit (by assumption))) (of_decide_eq_true (by with_unfolding_all rfl)))); k_whole; intro h' D' q' r' t1' t2' tk' F' N' l1 e1' e2' e3'; (try k_lt l1); (try k_sweep); (try dsimp only))))
  (k_with "call builtin:divmod" => (k_here; (with_reducible show wpAny _ _ (call (Value.builtin _) [Value.int _ _, Value.int 8 _]) _ _ _); k_dflt ( (refine' divmod_G ?wq7F ?wq7N ?wq7b ?_ ?wq7hp); (case wq7F => k_asm); (case wq7N => k_asm); (case wq7b => omega); (case wq7hp => first | exact Or.inl (PyProof.noPylong_of_log2 (by decide +kernel)) | exact Or.inl (PyProof.noPylong_small (by omega)) | exact Or.inr (PySem.PylongRoom.of (by first | assumption | (refine PySem.Heap.NoLimit.keeps ?_ (PyProof.Rows.Fr.keep (by assumption)); exact PyProof.Rows.Top.nolimit (by assumption))) (of_decide_eq_true (by with_unfolding_all rfl)))); k_whole; intro h' D' q' r' t1' t2' tk' F' N' l1 e1' e2' e3'; have hw9 := WayR.mk e2' e3'; (try k_lt l1); (try k_sweep); (try dsimp only))))
  (k_with "binaryOp Mod int int" => (k_here; k_dflt (refine mod_gen (by first | decide | omega) ?_; intro r9 req9 rlo9 rhi9)))
  (k_with "joinParts" => (k_here; (first | (with_reducible show wpAny _ _ (joinParts _ []) _ _ _) | (with_reducible show wpAny _ _ (joinParts _ (evalEach [] _)) _ _ _)); (try (with_reducible refine joinParts_nilE ?_)); (with_reducible refine' joinParts_nil ?_ ?wq7z); (case wq7z => first | ((with_reducible refine fit1 ?_) <;> (first | ((with_reducible refine leafI ?_ ?_) <;> k_dflt omega) | ((with_reducible refine leafL ?_); k_dflt (decide +kernel)) | (with_reducible exact leafS (by assumption) (by decide)))) | ((with_reducible refine fit2 ?_ ?_) <;> (first | ((with_reducible refine leafI ?_ ?_) <;> k_dflt omega) | ((with_reducible refine leafL ?_); k_dflt (decide +kernel)) | (with_reducible exact leafS (by assumption) (by decide)))) | ((with_reducible refine fit3 ?_ ?_ ?_) <;> (first | ((with_reducible refine leafI ?_ ?_) <;> k_dflt omega) | ((with_reducible refine leafL ?_); k_dflt (decide +kernel)) | (with_reducible exact leafS (by assumption) (by decide)))) | ((with_reducible refine fit4 ?_ ?_ ?_ ?_) <;> (first | ((with_reducible refine leafI ?_ ?_) <;> k_dflt omega) | ((with_reducible refine leafL ?_); k_dflt (decide +kernel)) | (with_reducible exact leafS (by assumption) (by decide)))) | ((with_reducible refine fit5 ?_ ?_ ?_ ?_ ?_) <;> (first | ((with_reducible refine leafI ?_ ?_) <;> k_dflt omega) | ((with_reducible refine leafL ?_); k_dflt (decide +kernel)) | (with_reducible exact leafS (by assumption) (by decide)))) | ((with_reducible refine fit6 ?_ ?_ ?_ ?_ ?_ ?_) <;> (first | ((with_reducible refine leafI ?_ ?_) <;> k_dflt omega) | ((with_reducible refine leafL ?_); k_dflt (decide +kernel)) | (with_reducible exact leafS (by assumption) (by decide)))) | ((with_reducible refine fit7 ?_ ?_ ?_ ?_ ?_ ?_ ?_) <;> (first | ((with_reducible refine leafI ?_ ?_) <;> k_dflt omega) | ((with_reducible refine leafL ?_); k_dflt (decide +kernel)) | (with_reducible exact leafS (by assumption) (by decide)))))))
  (k_with "formatField int" => (k_here; (with_reducible show wpAny _ _ (formatField (Value.int _ _) PySem.Str.empty) _ _ _); k_dflt (refine wpAny_formatField_int (log_small (by omega) (by omega)) ?_)))
  (k_with "formatField int" => (k_here; (with_reducible show wpAny _ _ (formatField (Value.int _ _) (PySem.Str.ofString _)) _ _ _); k_dflt ((refine' KXf.field_sym (Heap.NoDigits.keeps (Top.nodigits ?wq7T) (Fr.keep ?wq7F)) ?wq7a ?wq7b ?wq7c ?wq7d ?wq7e ?_); (case wq7F => k_asm); (case wq7T => k_asm); (case wq7c => decide +kernel); (case wq7d => kxf_nat); (case wq7e => decide +kernel); (case wq7a => omega); (case wq7b => omega)); intro _ _ kxfF kxfLo kxfHi))
  (k_with "exec For Name Tuple cons nil" => (k_here; (rename Fr _ _ _ _ => lF'); (with_unfolding_all refine' For_invVF lF' ?wq7k1 ?wq7k2 ?_; (case wq7k1 => exact rfl); (case wq7k2 => exact rfl); k_whole)))
  (k_with "pyIter ref" => (k_here; (with_reducible show wpAny _ _ (pyIter (Value.ref _)) (fun it s₂ => LoopAtV _ _ _ _ _ _ _ _ _ it s₂) _ _); k_dflt (refine' loop_triT (vs := [.int _ _, .int _ _, .int _ _]) (a := PySem.Str.ofString "sheet") (b := PySem.Str.ofString "place") (c := PySem.Str.ofString "pick") SheetJ ?wq7zh ?wq7zF ?wq7zN ?wq7zm ?wq7zl ?wq7zJ ?_ ?_; (case wq7zh => exact rfl); (case wq7zF => k_asm); (case wq7zN => k_asm); (case wq7zm => (repeat (first | (exact List.mem_cons_self) | (with_reducible assumption) | (with_reducible refine List.mem_cons_of_mem _ ?_) | (with_reducible refine List.mem_append_left _ ?_)))); (case wq7zl => with_unfolding_all exact rfl); (case wq7zJ => exact sheet0 (by omega) (by omega) (by omega) (by omega) (by omega) (by omega))); (rotate_left 1; (intro x9 xb9 xc9 u9 h9 tk9 hJ9 F9 N9; k_dflt (obtain ⟨l9, t9, ex9, hn9, ha9⟩ := hJ9; obtain ⟨sa9, sb9, sc9, sd9, se9, sf9, sg9, sh9, si9, el9⟩ := nine hn9; subst ex9 el9; clear hn9; replace ha9 := asc9 ha9; (with_reducible rename cVal _ _ _ _ _ _ _ _ _ _ => hr9); replace N9 := drop_by hr9 N9 (by kcf_all); obtain ⟨m9, F9⟩ := fr_two (PySem.Str.ofString "way") (PySem.Str.ofString "sheet") F9 (by with_unfolding_all exact rfl) (by with_unfolding_all exact rfl); (with_reducible rename WayR _ => hw9)); (try dsimp only); (try k_fold)); rotate_right 1; (intro i9 v9 x9 xb9 xc9 h9 tk9 own9 hi9 hv9 hJ9 F9 N9; k_dflt (have hq9 := item3 (by with_reducible assumption) (by with_reducible assumption) (by with_reducible assumption) (by with_reducible assumption) (by with_reducible assumption) (by with_reducible assumption) hv9; clear hv9; obtain ⟨c9, tc9, ev9, hc9, hc9'⟩ := hq9; obtain ⟨l9, t9, ex9, hn9, ha9⟩ := hJ9; subst ev9 ex9; have hS9 := SheetIs.mk hn9 ha9; clear hn9 ha9; have hl9 := hS9.small); (try simp only [List.cons_append, List.nil_append] at N9); (try dsimp only); (try k_fold)))))
  (k_with "subscriptTail Name Slice str ref" => (k_here; (with_reducible show wpAny _ _ (subscriptTail _ (PySem.Expr.Slice (some _) (some _) none _) _ _) _ _ _); k_dflt (refine' cutN_ss (s := ⟨_, _, _, _, _⟩) ?wq7ze ?wq7zF ?wq7zN ?wq7zl ?_; (case wq7ze => first | with_reducible exact sl46 | with_reducible exact sl68); (case wq7zF => k_asm); (case wq7zN => k_asm); (case wq7zl => exact len9)); intro _ _ _ _ _))
  (k_with "subscriptTail Name Slice str ref" => (k_here; (with_reducible show wpAny _ _ (subscriptTail _ (PySem.Expr.Slice (some _) none none _) _ _) _ _ _); k_dflt (refine' cutN_sn (s := ⟨_, _, _, _, _⟩) ?wq7ze ?wq7zF ?wq7zN ?wq7zl ?_; (case wq7ze => with_reducible exact sl1); (case wq7zF => k_asm); (case wq7zN => k_asm); (case wq7zl => exact len2)); intro _ _ _ _ _))
  (k_with "subscriptTail Name Slice str ref" => (k_here; (with_reducible show wpAny _ _ (subscriptTail _ (PySem.Expr.Slice none (some _) none _) _ _) _ _ _); k_dflt (refine' cutN_ns (s := ⟨_, _, _, _, _⟩) ?wq7ze ?wq7zF ?wq7zN ?wq7zl ?_; (case wq7ze => with_reducible exact sl04); (case wq7zF => k_asm); (case wq7zN => k_asm); (case wq7zl => exact len9)); intro _ _ _ _ _))
  (k_with "subscriptTail Name Constant str int" => (k_here; k_dflt (refine' itemN ?wq7ze ?wq7z0 ?wq7z1 ?wq7z2 ?_; (case wq7ze => first | with_reducible exact it5 | with_reducible exact it7 | with_reducible exact it8 | with_reducible exact it20 | with_reducible exact it10); (case wq7z0 => decide); (case wq7z1 => ((simp only [List.length_cons, List.length_nil]); decide)); (case wq7z2 => decide)); (try dsimp only); (try k_fold)))
  (k_with "binaryOp Add str str" => (k_here; k_dflt (refine' addN ?wq7zx ?wq7zy ?wq7zl ?_; (case wq7zx => first | with_reducible exact lit_e | with_reducible exact lit_d | with_reducible exact lit_W | with_reducible exact lit_dw | with_reducible exact lit_p | with_reducible exact rfl); (case wq7zy => first | with_reducible exact lit_e | with_reducible exact lit_d | with_reducible exact lit_W | with_reducible exact lit_dw | with_reducible exact lit_p | with_reducible exact rfl); (case wq7zl => ((simp only [List.length_append, List.length_cons, List.length_nil]); first | exact Nat.le_of_ble_eq_true rfl | omega))); intro _ _; (try dsimp only); (try k_fold)))
  (k_with "subscriptTail List cons Name ref int" => (k_here; (with_reducible rename WayR _ => hw9); k_dflt (refine' lst8 hw9 ?wq7zN ?wq7zm ?wq7e0 ?wq7e1 ?wq7e2 ?wq7e3 ?wq7e4 ?wq7e5 ?wq7e6 ?wq7e7 ?wq7zl ?_; (case wq7zN => k_asm); (case wq7zm => (repeat (first | (exact List.mem_cons_self) | (with_reducible assumption) | (with_reducible refine List.mem_cons_of_mem _ ?_) | (with_reducible refine List.mem_append_left _ ?_)))); (case wq7e0 => first | with_reducible exact lit_e | with_reducible exact lit_d | with_reducible exact lit_W | with_reducible exact lit_dw | with_reducible exact lit_p | with_reducible exact rfl); (case wq7e1 => first | with_reducible exact lit_e | with_reducible exact lit_d | with_reducible exact lit_W | with_reducible exact lit_dw | with_reducible exact lit_p | with_reducible exact rfl); (case wq7e2 => first | with_reducible exact lit_e | with_reducible exact lit_d | with_reducible exact lit_W | with_reducible exact lit_dw | with_reducible exact lit_p | with_reducible exact rfl); (case wq7e3 => first | with_reducible exact lit_e | with_reducible exact lit_d | with_reducible exact lit_W | with_reducible exact lit_dw | with_reducible exact lit_p | with_reducible exact rfl); (case wq7e4 => first | with_reducible exact lit_e | with_reducible exact lit_d | with_reducible exact lit_W | with_reducible exact lit_dw | with_reducible exact lit_p | with_reducible exact rfl); (case wq7e5 => first | with_reducible exact lit_e | with_reducible exact lit_d | with_reducible exact lit_W | with_reducible exact lit_dw | with_reducible exact lit_p | with_reducible exact rfl); (case wq7e6 => first | with_reducible exact lit_e | with_reducible exact lit_d | with_reducible exact lit_W | with_reducible exact lit_dw | with_reducible exact lit_p | with_reducible exact rfl); (case wq7e7 => first | with_reducible exact lit_e | with_reducible exact lit_d | with_reducible exact lit_W | with_reducible exact lit_dw | with_reducible exact lit_p | with_reducible exact rfl); (case wq7zl => (refine ⟨?_, ?_, ?_, ?_, ?_, ?_, ?_, ?_⟩ <;> exact Nat.le_of_ble_eq_true rfl))); intro _ _))
  (k_with "newList" => (k_here; k_dflt ((refine' newList_K ?wq7k1 ?wq7k2 ?_ ?wq7z); (case wq7k1 => k_asm); (case wq7k2 => k_asm); (case wq7z => (rw [sizeLine_eq]; exact Nat.le_of_ble_eq_true rfl)); k_whole); intro l' h' F' N' l1; (try k_lt l1); (try k_sweep)))
  (k_with "execs nil" => (k_here; (with_reducible refine wpAny_execs_nil ?_)))
  (k_with "eval IfExp" => (k_here; (with_reducible show wpAny _ _ (eval (PySem.Expr.IfExp (PySem.Expr.Compare _ [PySem.CmpOp.Eq] _ _) _ _ _) _) _ _ _); (fail_if_success (with_reducible rename JMark => jM')); (with_reducible rename WayR _ => hw9); (with_reducible rename Asc9 _ _ _ _ _ _ _ _ _ => hz9); k_dflt ((refine' joinT (CutOf hw9 hz9) ?wq7F ?wq7N ?_ ?_); (case wq7F => k_asm); (case wq7N => k_asm)); (rotate_left 1; (intro h9 tk9 l9 t9 p9 F9 N9; k_dflt (have q9 := p9.len); (try dsimp only); (try k_fold)); rotate_right 1; intro jM')))
  (k_with "eval IfExp" => (k_here; (with_reducible show wpAny _ _ (eval (PySem.Expr.IfExp (PySem.Expr.Compare _ [PySem.CmpOp.In] _ _) _ _ _) _) _ _ _); (fail_if_success (with_reducible rename JMark => jM')); (with_reducible rename WayR _ => hw9); (with_reducible rename Asc9 _ _ _ _ _ _ _ _ _ => hz9); k_dflt ((refine' joinT (MarkOf hw9 hz9) ?wq7F ?wq7N ?_ ?_); (case wq7F => k_asm); (case wq7N => k_asm)); (rotate_left 1; (intro h9 tk9 l9 t9 p9 F9 N9; k_dflt (have q9 := p9.len); (try dsimp only); (try k_fold)); rotate_right 1; intro jM')))
  (k_with "JT" => (k_dflt ((refine' JT.intro ?wq7e ?wq7p ?wq7F ?wq7N ?wq7S); (case wq7F => k_asm); (case wq7N => k_asm); (case wq7S => kcf_all); (case wq7e => first | with_reducible exact lit_e | with_reducible exact lit_d | with_reducible exact lit_W | with_reducible exact lit_dw | with_reducible exact lit_p | with_reducible exact rfl); (case wq7p => first | exact Cut2.one (by with_reducible assumption) | exact Cut2.two (by with_reducible assumption) | exact Mark2.some (by with_reducible assumption) | exact Mark2.none (by with_reducible assumption)))))
  (k_with "exec If" => (k_here; (with_reducible show wpAny _ _ (exec (PySem.Stmt.If (PySem.Expr.BoolOp _ _ _) _ _ _) _) _ _ _); (fail_if_success (with_reducible rename JMark => jM')); (with_reducible rename WayR _ => hw9); (with_reducible rename Asc9 _ _ _ _ _ _ _ _ _ => hz9); (with_reducible rename Cut2 _ _ _ _ => hc9); k_dflt ((refine' joinF (SecOf hw9 hz9) (PySem.Str.ofString "second") ?wq7F ?wq7N ?_ ?_); (case wq7F => k_asm); (case wq7N => k_asm)); (rotate_left 1; (intro h9 tk9 l9 t9 p9 F9 N9; k_dflt (clear hc9; have q9 := p9.len); (try dsimp only); (try k_fold)); rotate_right 1; intro jM'; cases hc9 <;> (try dsimp only) <;> (try k_fold))))
  (k_with "JF" => ((with_reducible rename Asc9 _ _ _ _ _ _ _ _ _ => hz9); k_dflt ((refine' JF.intro ?wq7a ?wq7e ?wq7p ?wq7m ?wq7F ?wq7N ?wq7S); (case wq7F => k_asm); (case wq7N => k_asm); (case wq7S => kcf_all); (case wq7a => with_unfolding_all exact rfl); (case wq7e => first | with_reducible exact lit_e | with_reducible exact lit_d | with_reducible exact lit_W | with_reducible exact lit_dw | with_reducible exact lit_p | with_reducible exact rfl); (case wq7m => (intro z9 hz1; simp only [if_neg hz1])); (case wq7p => first | exact Sec2.one (by with_reducible assumption) | exact sec_put (by with_reducible assumption) | exact sec_no (by with_reducible assumption) hz9.e (by with_reducible assumption) | exact sec_w (by with_reducible assumption) hz9.e (by with_reducible assumption) (by with_reducible assumption) | exact sec_n (by with_reducible assumption) hz9.e (by with_reducible assumption) (by with_reducible assumption)))))
  (k_with "subscriptTail Name Constant str int" => (k_here; exfalso; first | exact no7 (by with_reducible assumption) (by with_reducible assumption) | exact no72 (by with_reducible assumption) (by with_reducible assumption)))
  unfold C Ctr; k_fill
  intro dp un gd cn cs a ccd cl outer A₀ base h₀ L m news s Q E B F X N T hk hd hu hret
  have D0 : KtsDicts [] h₀ := ktsDicts_nil
  refine wpAny_call ?_
  k_dflt cell_enter
  (refine tk_any ?_; intro tk0)
  rename Fr _ _ _ _ => F'
  (refine fr_in1 (PySem.Str.ofString "number") F' (by with_unfolding_all exact rfl) ?_; clear F'; intro m0 F')
  k_steps
  all_goals (try k_data)
  all_goals first
  | (refine' TriPost.next ?zF ?zN ?zS ?za ?zm ?zP; (case zF => k_asm); (case zN => k_asm); (case zS => kcf_all); (case za => with_unfolding_all exact rfl); (case zm => (intro z9 hz1 hz2 hz3 hz4; simp only [if_neg hz1, if_neg hz2, if_neg hz3, if_neg hz4])); (case zP => ((with_reducible rename SheetIs _ => hS9); first | with_reducible exact hS9.J | with_reducible exact put_sign hS9 (by omega) (by omega) (by with_reducible assumption) (by with_reducible assumption))))
  | ((with_reducible rename Asc9 _ _ _ _ _ _ _ _ _ => hz9); (with_reducible rename cVal _ _ _ _ _ _ _ _ _ _ => hret9); (with_reducible refine' endCase (Q := Q) (s := s) hret9 ?zF ?zN ?zT ?zL ?e1 ?e2 ?e3 ?e4 ?e5 ?zC ?zA ?zs ?zlD ?zll; (case zF => k_asm); (case zN => k_asm); (case zT => (repeat (first | (with_reducible exact List.mem_cons_self) | (with_reducible refine List.mem_cons_of_mem _ ?_)))); (case zL => (repeat (first | (with_reducible exact List.mem_cons_self) | (with_reducible refine List.mem_cons_of_mem _ ?_)))); (case e1 => first | with_reducible exact lit_e | with_reducible exact lit_d | with_reducible exact lit_W | with_reducible exact lit_dw | with_reducible exact lit_p | with_reducible exact rfl); (case e2 => first | with_reducible exact lit_e | with_reducible exact lit_d | with_reducible exact lit_W | with_reducible exact lit_dw | with_reducible exact lit_p | with_reducible exact rfl); (case e3 => first | with_reducible exact lit_e | with_reducible exact lit_d | with_reducible exact lit_W | with_reducible exact lit_dw | with_reducible exact lit_p | with_reducible exact rfl); (case e4 => first | with_reducible exact lit_e | with_reducible exact lit_d | with_reducible exact lit_W | with_reducible exact lit_dw | with_reducible exact lit_p | with_reducible exact rfl); (case e5 => first | with_reducible exact lit_e | with_reducible exact lit_d | with_reducible exact lit_W | with_reducible exact lit_dw | with_reducible exact lit_p | with_reducible exact rfl); (case zC => exact case_end2 (by with_reducible assumption) (by with_reducible assumption) (by with_reducible assumption)); (case zA => exact asc_end2 hz9 (by with_reducible assumption) (by with_reducible assumption)); (case zs => kcf_all); (case zlD => first | with_reducible assumption | exact lt0 (by with_reducible assumption) | exact lt0 (And.right (by with_reducible assumption)) | exact lt0 (And.right (And.right (by with_reducible assumption))) | exact lt0 (And.right (And.right (And.right (by with_reducible assumption)))) | exact lt0 (And.right (And.right (And.right (And.right (by with_reducible assumption))))) | exact lt0 (And.right (And.right (And.right (And.right (And.right (by with_reducible assumption)))))) | exact lt0 (And.right (And.right (And.right (And.right (And.right (And.right (by with_reducible assumption))))))) | exact lt0 (And.right (And.right (And.right (And.right (And.right (And.right (And.right (by with_reducible assumption)))))))) | exact lt0 (And.right (And.right (And.right (And.right (And.right (And.right (And.right (And.right (by with_reducible assumption))))))))) | exact lt0 (And.right (And.right (And.right (And.right (And.right (And.right (And.right (And.right (And.right (by with_reducible assumption)))))))))) | exact lt0 (And.right (And.right (And.right (And.right (And.right (And.right (And.right (And.right (And.right (And.right (by with_reducible assumption))))))))))) | exact lt0 (And.right (And.right (And.right (And.right (And.right (And.right (And.right (And.right (And.right (And.right (And.right (by with_reducible assumption)))))))))))) | exact lt0 (And.right (And.right (And.right (And.right (And.right (And.right (And.right (And.right (And.right (And.right (And.right (And.right (by with_reducible assumption))))))))))))) | exact lt0 (And.right (And.right (And.right (And.right (And.right (And.right (And.right (And.right (And.right (And.right (And.right (And.right (And.right (by with_reducible assumption)))))))))))))) | exact lt0 (And.right (And.right (And.right (And.right (And.right (And.right (And.right (And.right (And.right (And.right (And.right (And.right (And.right (And.right (by with_reducible assumption))))))))))))))) | exact lt0 (And.right (And.right (And.right (And.right (And.right (And.right (And.right (And.right (And.right (And.right (And.right (And.right (And.right (And.right (And.right (by with_reducible assumption))))))))))))))))); (case zll => first | with_reducible assumption | exact lt0 (by with_reducible assumption) | exact lt0 (And.right (by with_reducible assumption)) | exact lt0 (And.right (And.right (by with_reducible assumption))) | exact lt0 (And.right (And.right (And.right (by with_reducible assumption)))) | exact lt0 (And.right (And.right (And.right (And.right (by with_reducible assumption))))) | exact lt0 (And.right (And.right (And.right (And.right (And.right (by with_reducible assumption)))))) | exact lt0 (And.right (And.right (And.right (And.right (And.right (And.right (by with_reducible assumption))))))) | exact lt0 (And.right (And.right (And.right (And.right (And.right (And.right (And.right (by with_reducible assumption)))))))) | exact lt0 (And.right (And.right (And.right (And.right (And.right (And.right (And.right (And.right (by with_reducible assumption))))))))) | exact lt0 (And.right (And.right (And.right (And.right (And.right (And.right (And.right (And.right (And.right (by with_reducible assumption)))))))))) | exact lt0 (And.right (And.right (And.right (And.right (And.right (And.right (And.right (And.right (And.right (And.right (by with_reducible assumption))))))))))) | exact lt0 (And.right (And.right (And.right (And.right (And.right (And.right (And.right (And.right (And.right (And.right (And.right (by with_reducible assumption)))))))))))) | exact lt0 (And.right (And.right (And.right (And.right (And.right (And.right (And.right (And.right (And.right (And.right (And.right (And.right (by with_reducible assumption))))))))))))) | exact lt0 (And.right (And.right (And.right (And.right (And.right (And.right (And.right (And.right (And.right (And.right (And.right (And.right (And.right (by with_reducible assumption)))))))))))))) | exact lt0 (And.right (And.right (And.right (And.right (And.right (And.right (And.right (And.right (And.right (And.right (And.right (And.right (And.right (And.right (by with_reducible assumption))))))))))))))) | exact lt0 (And.right (And.right (And.right (And.right (And.right (And.right (And.right (And.right (And.right (And.right (And.right (And.right (And.right (And.right (And.right (by with_reducible assumption)))))))))))))))))))
end Mine
end
section
namespace Mine
set_option maxHeartbeats 16000000 in
theorem c_ord (w : World) (mean : ExcName → Option Value) (mg mb : Str → Option Value) (n : Int) (t : Tok) : C w mean mg mb 66 8 32 [.int n t] (cNew (IsYmd n)) := by
  w_top off
  k_with_none
  (k_with "eval Call" => (k_here; (with_reducible show wpAny _ _ (eval (PySem.Expr.Call (PySem.Expr.Name _ _) _ [] _) _) _ _ _); refine Call_ ?_))
  (k_with "eval BoolOp" => (k_here; (with_reducible show wpAny _ _ (eval (PySem.Expr.BoolOp _ [PySem.Expr.Compare (PySem.Expr.Name (PySem.Str.ofString "n1") _) [PySem.CmpOp.Eq] _ _, _] _) _) _ _ _); (fail_if_success (with_reducible rename JMark => jM')); k_dflt ((refine' joinA ?wq7h0 ?wq7h1 ?wq7h2 ?wq7F ?wq7N ?_ ?_); (case wq7F => k_asm); (case wq7N => k_asm); (case wq7h0 => rfl); (case wq7h1 => rfl); (case wq7h2 => rfl); skip); (rotate_left 1; (intro h9 tk9 F9 N9; (try dsimp only); (try k_sweep)); rotate_right 1; intro jM')))
  (k_with "eval BoolOp" => (k_here; (with_reducible show wpAny _ _ (eval (PySem.Expr.BoolOp _ [PySem.Expr.Compare (PySem.Expr.Name (PySem.Str.ofString "month") _) [PySem.CmpOp.Gt] _ _, _] _) _) _ _ _); (fail_if_success (with_reducible rename JMark => jM')); k_dflt ((refine' joinB ?wq7h0 ?wq7h1 ?wq7F ?wq7N ?_ ?_); (case wq7F => k_asm); (case wq7N => k_asm); (case wq7h0 => rfl); (case wq7h1 => rfl); skip); (rotate_left 1; (intro h9 tk9 F9 N9; (try dsimp only); (try k_sweep)); rotate_right 1; intro jM')))
  (k_with "eval BoolOp" => (k_here; (with_reducible show wpAny _ _ (eval (PySem.Expr.BoolOp _ [PySem.Expr.Compare (PySem.Expr.Name (PySem.Str.ofString "month") _) [PySem.CmpOp.Eq] _ _, _] _) _) _ _ _); (fail_if_success (with_reducible rename JMark => jM')); k_dflt ((refine' joinC ?wq7h0 ?wq7h1 ?wq7F ?wq7N ?_ ?_); (case wq7F => k_asm); (case wq7N => k_asm); (case wq7h0 => rfl); (case wq7h1 => rfl); skip); (rotate_left 1; (intro h9 tk9 F9 N9; (try dsimp only); (try k_sweep)); rotate_right 1; intro jM')))
  (k_with "JB" => (k_dflt ((refine' JB.intro ?wq7e ?wq7F ?wq7N ?wq7S); (case wq7F => k_asm); (case wq7N => k_asm); (case wq7S => first | exact fun _ hp => hp | kcj_all); (case wq7e => (first | exact jb1 (by with_reducible assumption) | exact jb2 (by with_reducible assumption) | exact jb3 (by with_reducible assumption) | exact jb4 (by with_reducible assumption) (by with_reducible assumption) | exact jb5 (by with_reducible assumption) (by with_reducible assumption) | exact jb6 (by with_reducible assumption))))))
  (k_with "call builtin:divmod" => (k_here; (with_reducible show wpAny _ _ (call (Value.builtin _) [Value.int _ _, Value.int _ _]) _ _ _); k_dflt ( (refine' divmod_G ?wq7F ?wq7N ?wq7b ?_ ?wq7hp); (case wq7F => k_asm); (case wq7N => k_asm); (case wq7b => omega); (case wq7hp => first | exact Or.inl (PyProof.noPylong_of_log2 (by decide +kernel)) | exact Or.inl (PyProof.noPylong_small (by omega)) | exact Or.inr (PySem.PylongRoom.of (by first | assumption | (refine PySem.Heap.NoLimit.keeps ?_ (PyProof.Rows.Fr.keep (by assumption)); exact PyProof.Rows.Top.nolimit (by assumption))) (of_decide_eq_true (by with_unfolding_all rfl)))); k_whole; intro h' D' q' r' t1' t2' tk' F' N' l1 e1' e2' e3'; (try k_lt l1); (try k_sweep); (try dsimp only))))
  (k_with "call ref" => (k_dflt ( (refine' use ?wq7c ?wq7k1 ?wq7k2 ?wq7k3 ?wq7k4 ?wq7k5 ?wq7k6 ?wq7k7 ?wq7k8 ?_); (case wq7k2 => k_asm); (case wq7k1 => k_asm); (case wq7k3 => k_asm); (case wq7k4 => k_asm); (case wq7k5 => k_asm); (case wq7c => first  | exact c_leap _ _ _ _ _ _ | exact c_dim _ _ _ _ _ _ _ _ (by first | omega | (rw [sh5]; omega) | exact pre1 (by assumption) rfl (by assumption) (by assumption)) (by first | omega | (rw [sh5]; omega))); (case wq7k6 => first | exact rfl | assumption); (case wq7k7 => ktr_room); (case wq7k8 => ktr_units); (intro t9 h9 tk9 F9 N9; (try dsimp only); (try k_fold)))))
  (k_with "subscriptTail" => (k_here; k_dflt ( (refine' top_item ?wq7F ?wq7X ?wq7l ?wq7hi ?wq7h0 ?wq7h1 ?wq7h2 ?_); (case wq7F => k_asm); (case wq7X => k_asm); (case wq7l => k_is); (case wq7hi => exact ints13); (case wq7h0 => first | omega | (rw [sh5]; omega)); (case wq7h1 => (simp only [List.length_cons, List.length_nil]; first | omega | (rw [sh5]; omega))); (case wq7h2 => decide); k_whole; intro t9)))
  unfold C Ctr; k_fill
  intro dp un gd cn cs a ccd cl outer A₀ base h₀ L m news s Q E B F X N T hk hd hu hret
  have D0 : KtsDicts [] h₀ := ktsDicts_nil
  refine wpAny_call ?_
  k_dflt cell_enter
  (refine tk_any ?_; intro tk0)
  rename Fr _ _ _ _ => F'
  (refine fr_in1 (PySem.Str.ofString "n") F' (by with_unfolding_all exact rfl) ?_; clear F'; intro m0 F')
  k_steps
  all_goals (try k_data)
  all_goals first
  | (refine' endN (Q := Q) (s := s) hret ?e ?F ?N ?S ?l; (case F => k_asm); (case N => k_asm); (case S => kcj_all); (case l => first | assumption | exact lt0 (by assumption) | exact lt1 (by assumption) | exact lt2 (by assumption) | exact lt3 (by assumption) | exact lt4 (by assumption) | exact lt5 (by assumption) | exact lt6 (by assumption)); (case e => (first | exact (ord_last (by assumption) (by assumption) (by assumption) (by assumption) (by assumption) (by assumption) (by assumption) (by assumption) (by assumption) (by assumption) (by assumption) (by assumption) (by first | exact Or.inl (by assumption) | exact Or.inr (by assumption)) _ _ _).2 | exact good1 (by assumption) (by assumption) rfl (by assumption) (by assumption) (ord_n (by assumption) (by assumption) (by assumption) (by assumption) (by assumption) (by assumption) (by assumption) (by assumption) (by assumption) (by assumption) (by assumption) (by assumption) (by assumption) (by assumption)) | exact good2 (by assumption) (by assumption) rfl (by assumption) (by assumption) (ord_n (by assumption) (by assumption) (by assumption) (by assumption) (by assumption) (by assumption) (by assumption) (by assumption) (by assumption) (by assumption) (by assumption) (by assumption) (by assumption) (by assumption)))))
  | (exfalso; first | omega | exact bad1 (by assumption) (by assumption) rfl (by assumption) (by assumption) | exact bad2 (by assumption) (by assumption) (by assumption) rfl (by assumption) (by assumption) | exact bad4 (by assumption) (by assumption) (by assumption) rfl (by assumption) (by assumption) | exact bad0 (by assumption) (by assumption) (by assumption) (by assumption) (by assumption) (by assumption) (by assumption) (by assumption) (by assumption) (by assumption) (by assumption) (by assumption))
end Mine
end
section
namespace Mine
set_option maxHeartbeats 16000000 in
theorem c_greg (w : World) (mean : ExcName → Option Value) (mg mb : Str → Option Value) (y w9 d9 : Int) (t t2 t3 : Tok) (b1 : -100000 < y) (b2 : y < 100000) (b3 : -100000 < w9) (b4 : w9 < 100000) (b5 : -100000 < d9) (b6 : d9 < 100000) : C w mean mg mb 80 16 64 [.int y t, .int w9 t2, .int d9 t3] (cOr (badG y w9 d9) (cNew (IsYmd (monI y + ((w9 - 1) * 7 + (d9 - 1)))))) := by
  w_top off
  k_with_none
  (k_with "eval Call" => (k_here; (with_reducible show wpAny _ _ (eval (PySem.Expr.Call (PySem.Expr.Name _ _) _ [] _) _) _ _ _); refine Call_ ?_))
  (k_with "joinParts" => (k_here; (first | (with_reducible show wpAny _ _ (joinParts _ []) _ _ _) | (with_reducible show wpAny _ _ (joinParts _ (evalEach [] _)) _ _ _)); (try (with_reducible refine joinParts_nilE ?_)); (with_reducible refine' joinParts_nil ?_ ?wq7z); (case wq7z => first | ((with_reducible refine fit1 ?_) <;> (first | ((with_reducible refine leafI ?_ ?_) <;> k_dflt omega) | ((with_reducible refine leafL ?_); k_dflt (decide +kernel)) | (with_reducible exact leafS (by assumption) (by decide)))) | ((with_reducible refine fit2 ?_ ?_) <;> (first | ((with_reducible refine leafI ?_ ?_) <;> k_dflt omega) | ((with_reducible refine leafL ?_); k_dflt (decide +kernel)) | (with_reducible exact leafS (by assumption) (by decide)))) | ((with_reducible refine fit3 ?_ ?_ ?_) <;> (first | ((with_reducible refine leafI ?_ ?_) <;> k_dflt omega) | ((with_reducible refine leafL ?_); k_dflt (decide +kernel)) | (with_reducible exact leafS (by assumption) (by decide)))) | ((with_reducible refine fit4 ?_ ?_ ?_ ?_) <;> (first | ((with_reducible refine leafI ?_ ?_) <;> k_dflt omega) | ((with_reducible refine leafL ?_); k_dflt (decide +kernel)) | (with_reducible exact leafS (by assumption) (by decide)))) | ((with_reducible refine fit5 ?_ ?_ ?_ ?_ ?_) <;> (first | ((with_reducible refine leafI ?_ ?_) <;> k_dflt omega) | ((with_reducible refine leafL ?_); k_dflt (decide +kernel)) | (with_reducible exact leafS (by assumption) (by decide)))) | ((with_reducible refine fit6 ?_ ?_ ?_ ?_ ?_ ?_) <;> (first | ((with_reducible refine leafI ?_ ?_) <;> k_dflt omega) | ((with_reducible refine leafL ?_); k_dflt (decide +kernel)) | (with_reducible exact leafS (by assumption) (by decide)))) | ((with_reducible refine fit7 ?_ ?_ ?_ ?_ ?_ ?_ ?_) <;> (first | ((with_reducible refine leafI ?_ ?_) <;> k_dflt omega) | ((with_reducible refine leafL ?_); k_dflt (decide +kernel)) | (with_reducible exact leafS (by assumption) (by decide)))))))
  (k_with "formatField int" => (k_here; (with_reducible show wpAny _ _ (formatField (Value.int _ _) PySem.Str.empty) _ _ _); k_dflt (refine wpAny_formatField_int (log_small (by omega) (by omega)) ?_)))
  (k_with "formatField int" => (k_here; (with_reducible show wpAny _ _ (formatField (Value.int _ _) (PySem.Str.ofString _)) _ _ _); k_dflt ((refine' KXf.field_sym (Heap.NoDigits.keeps (Top.nodigits ?wq7T) (Fr.keep ?wq7F)) ?wq7a ?wq7b ?wq7c ?wq7d ?wq7e ?_); (case wq7F => k_asm); (case wq7T => k_asm); (case wq7c => decide +kernel); (case wq7d => kxf_nat); (case wq7e => decide +kernel); (case wq7a => omega); (case wq7b => omega)); intro _ _ kxfF kxfLo kxfHi))
  (k_with "call ref" => (k_dflt ( (refine' use ?wq7c ?wq7k1 ?wq7k2 ?wq7k3 ?wq7k4 ?wq7k5 ?wq7k6 ?wq7k7 ?wq7k8 ?_); (case wq7k2 => k_asm); (case wq7k1 => k_asm); (case wq7k3 => k_asm); (case wq7k4 => k_asm); (case wq7k5 => k_asm); (case wq7c => first  | exact c_leap _ _ _ _ _ _ | exact c_ymd _ _ _ _ _ _ _ _ _ _ (by omega) (by omega) (by omega) (by first | omega | (rw [dim1]; decide)) | exact c_mon1 _ _ _ _ _ _); (case wq7k6 => first | exact rfl | assumption); (case wq7k7 => ktr_room); (case wq7k8 => ktr_units); (intro t9 h9 tk9 F9 N9; (try dsimp only); (try k_fold)))))
  (k_with "call ref" => (k_dflt ( (refine' use ?wq7c ?wq7k1 ?wq7k2 ?wq7k3 ?wq7k4 ?wq7k5 ?wq7k6 ?wq7k7 ?wq7k8 ?_); (case wq7k2 => k_asm); (case wq7k1 => k_asm); (case wq7k3 => k_asm); (case wq7k4 => k_asm); (case wq7k5 => k_asm); (case wq7c => first  | exact c_ord _ _ _ _ _ _); (case wq7k6 => first | exact rfl | assumption); (case wq7k7 => ktr_room); (case wq7k8 => ktr_units); (intro l9 o9 h9 tk9 P9 F9 N9 l1; obtain ⟨yy, mm, dd, ty, tm, td, eo, i1, i2, i3, i4, i5⟩ := P9; subst eo; (try dsimp only); (try k_fold); (try k_lt l1)))))
  unfold C Ctr; k_fill
  intro dp un gd cn cs a ccd cl outer A₀ base h₀ L m news s Q E B F X N T hk hd hu hret
  have D0 : KtsDicts [] h₀ := ktsDicts_nil
  refine wpAny_call ?_
  k_dflt cell_enter
  (refine tk_any ?_; intro tk0)
  rename Fr _ _ _ _ => F'
  (refine fr_in3 (PySem.Str.ofString "year") (PySem.Str.ofString "week") (PySem.Str.ofString "day") F' (by with_unfolding_all exact rfl) (by with_unfolding_all exact rfl) (by with_unfolding_all exact rfl) ?_; clear F'; intro m0 F')
  k_steps
  all_goals (try k_data)
  all_goals first
  | (refine' endN (Q := Q) (s := s) (hret.2 (gN (by omega) (by omega) (by first | exact wk1 (by omega) (by omega) | exact wk2 (by assumption) (by assumption) | exact wk3 (by assumption) (by assumption) (by assumption)) (by omega) (by omega))) ?e ?F ?N ?S ?l; (case F => k_asm); (case N => k_asm); (case S => kcj_all); (case l => first | assumption | exact lt0 (by assumption) | exact lt1 (by assumption) | exact lt2 (by assumption) | exact lt3 (by assumption) | exact lt4 (by assumption) | exact lt5 (by assumption) | exact lt6 (by assumption)); (case e => (exact ⟨_, _, _, _, _, _, rfl, by assumption, by assumption, by assumption, by assumption, by assumption⟩)))
  | (refine' endX (Q := Q) (E := E) (s := s) (hret.1 _ ?r) ?ev ?R ?F ?U ?S; (case R => assumption); (case ev => rfl); (case F => assumption); (case U => assumption); (case S => kcj_all); (case r => (first | ((with_reducible refine gY ?_); omega) | ((with_reducible refine gW ?_ ?_ ?_); omega; omega; exact (by first | exact nw1 (by omega) (by omega) | exact nw2 (by assumption) (by assumption) (by assumption) | exact nw3 (by assumption) (by assumption) (by assumption))) | ((with_reducible refine gD ?_ ?_ ?_ ?_); omega; omega; exact (by first | exact wk1 (by omega) (by omega) | exact wk2 (by assumption) (by assumption) | exact wk3 (by assumption) (by assumption) (by assumption)); omega))))
end Mine
end
section
namespace Mine
set_option maxHeartbeats 16000000 in
theorem c_parseWs (w : World) (mean : ExcName → Option Value) (mg mb : Str → Option Value) (x : PySem.Str) (t : Tok) (y w9 : Int) (hL1 : 7 ≤ x.length) (hL2 : x.length ≤ 10) (hl : ([7, 8, 10].any fun k => k == (x.length : Int)) = true) (hy : PySem.intText? (PySem.Txt.slice x (some 0) (some 4)) = some y) (b1 : -100000 < y) (b2 : y < 100000) (hw : (PySem.Txt.slice x (some (4 + (if (PySem.Txt.item x 4 == PySem.Str.ofString "-") = true then 1 else 0))) (some ((4 + (if (PySem.Txt.item x 4 == PySem.Str.ofString "-") = true then 1 else 0)) + 1)) == PySem.Str.ofString "W") = true) (hW : PySem.intText? (PySem.Txt.slice x (some ((4 + (if (PySem.Txt.item x 4 == PySem.Str.ofString "-") = true then 1 else 0)) + 1)) (some ((4 + (if (PySem.Txt.item x 4 == PySem.Str.ofString "-") = true then 1 else 0)) + 1 + 2))) = some w9) (b3 : -100000 < w9) (b4 : w9 < 100000) (hs : ¬ (4 + (if (PySem.Txt.item x 4 == PySem.Str.ofString "-") = true then 1 else 0)) + 1 + 2 < (x.length : Int)) : C w mean mg mb 73 24 96 [.str x t] (cOr (badG y w9 1) (cNew (IsLst (monI y + ((w9 - 1) * 7 + (1 - 1)))))) := by
  w_top off
  k_with_none
  (k_with "eval Call" => (k_here; (with_reducible show wpAny _ _ (eval (PySem.Expr.Call (PySem.Expr.Name _ _) _ [] _) _) _ _ _); refine Call_ ?_))
  (k_with "newList" => (k_here; k_dflt ((refine' newList_K ?wq7k1 ?wq7k2 ?_ ?wq7z); (case wq7k1 => k_asm); (case wq7k2 => k_asm); (case wq7z => (rw [sizeLine_eq]; simp only [List.length_cons, List.length_nil]; omega)); k_whole); intro l' h' F' N' l1; (try k_lt l1); (try k_sweep)))
  (k_with "compareOp NotIn int ref" => (k_here; k_dflt ((refine' notin_tuple_ints ?wq7t ?wq7i ?_); (case wq7t => exact News.isTup (by k_asm) (by k_mem)); (case wq7i => with_unfolding_all (repeat constructor)))))
  (k_with "joinParts" => (k_here; (first | (with_reducible show wpAny _ _ (joinParts _ []) _ _ _) | (with_reducible show wpAny _ _ (joinParts _ (evalEach [] _)) _ _ _)); (try (with_reducible refine joinParts_nilE ?_)); (with_reducible refine' joinParts_nil ?_ ?wq7z); (case wq7z => first | ((with_reducible refine fit1 ?_) <;> (first | ((with_reducible refine leafI ?_ ?_) <;> k_dflt omega) | ((with_reducible refine leafL ?_); k_dflt (decide +kernel)) | (with_reducible exact leafS (by assumption) (by decide)))) | ((with_reducible refine fit2 ?_ ?_) <;> (first | ((with_reducible refine leafI ?_ ?_) <;> k_dflt omega) | ((with_reducible refine leafL ?_); k_dflt (decide +kernel)) | (with_reducible exact leafS (by assumption) (by decide)))) | ((with_reducible refine fit3 ?_ ?_ ?_) <;> (first | ((with_reducible refine leafI ?_ ?_) <;> k_dflt omega) | ((with_reducible refine leafL ?_); k_dflt (decide +kernel)) | (with_reducible exact leafS (by assumption) (by decide)))) | ((with_reducible refine fit4 ?_ ?_ ?_ ?_) <;> (first | ((with_reducible refine leafI ?_ ?_) <;> k_dflt omega) | ((with_reducible refine leafL ?_); k_dflt (decide +kernel)) | (with_reducible exact leafS (by assumption) (by decide)))) | ((with_reducible refine fit5 ?_ ?_ ?_ ?_ ?_) <;> (first | ((with_reducible refine leafI ?_ ?_) <;> k_dflt omega) | ((with_reducible refine leafL ?_); k_dflt (decide +kernel)) | (with_reducible exact leafS (by assumption) (by decide)))) | ((with_reducible refine fit6 ?_ ?_ ?_ ?_ ?_ ?_) <;> (first | ((with_reducible refine leafI ?_ ?_) <;> k_dflt omega) | ((with_reducible refine leafL ?_); k_dflt (decide +kernel)) | (with_reducible exact leafS (by assumption) (by decide)))) | ((with_reducible refine fit7 ?_ ?_ ?_ ?_ ?_ ?_ ?_) <;> (first | ((with_reducible refine leafI ?_ ?_) <;> k_dflt omega) | ((with_reducible refine leafL ?_); k_dflt (decide +kernel)) | (with_reducible exact leafS (by assumption) (by decide)))))))
  (k_with "formatField int" => (k_here; (with_reducible show wpAny _ _ (formatField (Value.int _ _) PySem.Str.empty) _ _ _); k_dflt (refine wpAny_formatField_int (log_small (by omega) (by omega)) ?_)))
  (k_with "formatField int" => (k_here; (with_reducible show wpAny _ _ (formatField (Value.int _ _) (PySem.Str.ofString _)) _ _ _); k_dflt ((refine' KXf.field_sym (Heap.NoDigits.keeps (Top.nodigits ?wq7T) (Fr.keep ?wq7F)) ?wq7a ?wq7b ?wq7c ?wq7d ?wq7e ?_); (case wq7F => k_asm); (case wq7T => k_asm); (case wq7c => decide +kernel); (case wq7d => kxf_nat); (case wq7e => decide +kernel); (case wq7a => omega); (case wq7b => omega)); intro _ _ kxfF kxfLo kxfHi))
  (k_with "call ref" => (k_dflt ( (refine' use ?wq7c ?wq7k1 ?wq7k2 ?wq7k3 ?wq7k4 ?wq7k5 ?wq7k6 ?wq7k7 ?wq7k8 ?_); (case wq7k2 => k_asm); (case wq7k1 => k_asm); (case wq7k3 => k_asm); (case wq7k4 => k_asm); (case wq7k5 => k_asm); (case wq7c => first  | exact c_greg _ _ _ _ _ _ _ _ _ _ (by omega) (by omega) (by omega) (by omega) (by omega) (by omega)); (case wq7k6 => first | exact rfl | assumption); (case wq7k7 => ktr_room); (case wq7k8 => ktr_units); (refine ⟨fun msg9 hm9 => ?_, fun hm9 => ?_⟩; (intro e9 t9 k9 h9 G9 tk9 R9 F9 U9; (try dsimp only); (try k_fold)); rotate_left 1; (intro l9 o9 h9 tk9 P9 F9 N9 l1; obtain ⟨yy, mm, dd, ty, tm, td, eo, i1, i2, i3, i4, i5⟩ := P9; subst eo; (try dsimp only); (try k_fold); (try k_lt l1)); rotate_right 1))))
  unfold C Ctr; k_fill
  intro dp un gd cn cs a ccd cl outer A₀ base h₀ L m news s Q E B F X N T hk hd hu hret
  have D0 : KtsDicts [] h₀ := ktsDicts_nil
  refine wpAny_call ?_
  k_dflt cell_enter
  (refine tk_any ?_; intro tk0)
  rename Fr _ _ _ _ => F'
  (refine fr_in1 (PySem.Str.ofString "dtstr") F' (by with_unfolding_all exact rfl) ?_; clear F'; intro m0 F')
  k_steps
  all_goals (try k_data)
  all_goals first
  | (refine' endX (Q := Q) (E := E) (s := s) (hret.1 _ ?r) ?ev ?R ?F ?U ?S; (case R => assumption); (case ev => rfl); (case F => assumption); (case U => assumption); (case S => kcj_all); (case r => (assumption)))
  | (refine' endN (Q := Q) (s := s) (hret.2 (by assumption)) ?e ?F ?N ?S ?l; (case F => k_asm); (case N => k_asm); (case S => kcj_all); (case l => first | assumption | exact lt0 (by assumption) | exact lt1 (by assumption) | exact lt2 (by assumption) | exact lt3 (by assumption) | exact lt4 (by assumption) | exact lt5 (by assumption) | exact lt6 (by assumption)); (case e => (exact ⟨_, _, _, _, _, _, _, rfl, by assumption, by assumption, by assumption, by assumption, by assumption⟩)))
set_option maxHeartbeats 16000000 in
theorem c_parseWl (w : World) (mean : ExcName → Option Value) (mg mb : Str → Option Value) (x : PySem.Str) (t : Tok) (y w9 : Int) (hL1 : 7 ≤ x.length) (hL2 : x.length ≤ 10) (hl : ([7, 8, 10].any fun k => k == (x.length : Int)) = true) (hy : PySem.intText? (PySem.Txt.slice x (some 0) (some 4)) = some y) (b1 : -100000 < y) (b2 : y < 100000) (hw : (PySem.Txt.slice x (some (4 + (if (PySem.Txt.item x 4 == PySem.Str.ofString "-") = true then 1 else 0))) (some ((4 + (if (PySem.Txt.item x 4 == PySem.Str.ofString "-") = true then 1 else 0)) + 1)) == PySem.Str.ofString "W") = true) (hW : PySem.intText? (PySem.Txt.slice x (some ((4 + (if (PySem.Txt.item x 4 == PySem.Str.ofString "-") = true then 1 else 0)) + 1)) (some ((4 + (if (PySem.Txt.item x 4 == PySem.Str.ofString "-") = true then 1 else 0)) + 1 + 2))) = some w9) (b3 : -100000 < w9) (b4 : w9 < 100000) (d9 : Int) (hs : (4 + (if (PySem.Txt.item x 4 == PySem.Str.ofString "-") = true then 1 else 0)) + 1 + 2 < (x.length : Int)) (hd : (((PySem.Txt.slice x (some ((4 + (if (PySem.Txt.item x 4 == PySem.Str.ofString "-") = true then 1 else 0)) + 1 + 2)) (some ((4 + (if (PySem.Txt.item x 4 == PySem.Str.ofString "-") = true then 1 else 0)) + 1 + 2 + 1))) == PySem.Str.ofString "-") != (PySem.Txt.item x 4 == PySem.Str.ofString "-")) = false) (hD : PySem.intText? (PySem.Txt.slice x (some ((4 + (if (PySem.Txt.item x 4 == PySem.Str.ofString "-") = true then 1 else 0)) + 1 + 2 + (if (PySem.Txt.item x 4 == PySem.Str.ofString "-") = true then 1 else 0))) (some ((4 + (if (PySem.Txt.item x 4 == PySem.Str.ofString "-") = true then 1 else 0)) + 1 + 2 + (if (PySem.Txt.item x 4 == PySem.Str.ofString "-") = true then 1 else 0) + 1))) = some d9) (b5 : -100000 < d9) (b6 : d9 < 100000) : C w mean mg mb 73 24 96 [.str x t] (cOr (badG y w9 d9) (cNew (IsLst (monI y + ((w9 - 1) * 7 + (d9 - 1)))))) := by
  w_top off
  k_with_none
  (k_with "eval Call" => (k_here; (with_reducible show wpAny _ _ (eval (PySem.Expr.Call (PySem.Expr.Name _ _) _ [] _) _) _ _ _); refine Call_ ?_))
  (k_with "newList" => (k_here; k_dflt ((refine' newList_K ?wq7k1 ?wq7k2 ?_ ?wq7z); (case wq7k1 => k_asm); (case wq7k2 => k_asm); (case wq7z => (rw [sizeLine_eq]; simp only [List.length_cons, List.length_nil]; omega)); k_whole); intro l' h' F' N' l1; (try k_lt l1); (try k_sweep)))
  (k_with "compareOp NotIn int ref" => (k_here; k_dflt ((refine' notin_tuple_ints ?wq7t ?wq7i ?_); (case wq7t => exact News.isTup (by k_asm) (by k_mem)); (case wq7i => with_unfolding_all (repeat constructor)))))
  (k_with "joinParts" => (k_here; (first | (with_reducible show wpAny _ _ (joinParts _ []) _ _ _) | (with_reducible show wpAny _ _ (joinParts _ (evalEach [] _)) _ _ _)); (try (with_reducible refine joinParts_nilE ?_)); (with_reducible refine' joinParts_nil ?_ ?wq7z); (case wq7z => first | ((with_reducible refine fit1 ?_) <;> (first | ((with_reducible refine leafI ?_ ?_) <;> k_dflt omega) | ((with_reducible refine leafL ?_); k_dflt (decide +kernel)) | (with_reducible exact leafS (by assumption) (by decide)))) | ((with_reducible refine fit2 ?_ ?_) <;> (first | ((with_reducible refine leafI ?_ ?_) <;> k_dflt omega) | ((with_reducible refine leafL ?_); k_dflt (decide +kernel)) | (with_reducible exact leafS (by assumption) (by decide)))) | ((with_reducible refine fit3 ?_ ?_ ?_) <;> (first | ((with_reducible refine leafI ?_ ?_) <;> k_dflt omega) | ((with_reducible refine leafL ?_); k_dflt (decide +kernel)) | (with_reducible exact leafS (by assumption) (by decide)))) | ((with_reducible refine fit4 ?_ ?_ ?_ ?_) <;> (first | ((with_reducible refine leafI ?_ ?_) <;> k_dflt omega) | ((with_reducible refine leafL ?_); k_dflt (decide +kernel)) | (with_reducible exact leafS (by assumption) (by decide)))) | ((with_reducible refine fit5 ?_ ?_ ?_ ?_ ?_) <;> (first | ((with_reducible refine leafI ?_ ?_) <;> k_dflt omega) | ((with_reducible refine leafL ?_); k_dflt (decide +kernel)) | (with_reducible exact leafS (by assumption) (by decide)))) | ((with_reducible refine fit6 ?_ ?_ ?_ ?_ ?_ ?_) <;> (first | ((with_reducible refine leafI ?_ ?_) <;> k_dflt omega) | ((with_reducible refine leafL ?_); k_dflt (decide +kernel)) | (with_reducible exact leafS (by assumption) (by decide)))) | ((with_reducible refine fit7 ?_ ?_ ?_ ?_ ?_ ?_ ?_) <;> (first | ((with_reducible refine leafI ?_ ?_) <;> k_dflt omega) | ((with_reducible refine leafL ?_); k_dflt (decide +kernel)) | (with_reducible exact leafS (by assumption) (by decide)))))))
  (k_with "formatField int" => (k_here; (with_reducible show wpAny _ _ (formatField (Value.int _ _) PySem.Str.empty) _ _ _); k_dflt (refine wpAny_formatField_int (log_small (by omega) (by omega)) ?_)))
  (k_with "formatField int" => (k_here; (with_reducible show wpAny _ _ (formatField (Value.int _ _) (PySem.Str.ofString _)) _ _ _); k_dflt ((refine' KXf.field_sym (Heap.NoDigits.keeps (Top.nodigits ?wq7T) (Fr.keep ?wq7F)) ?wq7a ?wq7b ?wq7c ?wq7d ?wq7e ?_); (case wq7F => k_asm); (case wq7T => k_asm); (case wq7c => decide +kernel); (case wq7d => kxf_nat); (case wq7e => decide +kernel); (case wq7a => omega); (case wq7b => omega)); intro _ _ kxfF kxfLo kxfHi))
  (k_with "call ref" => (k_dflt ( (refine' use ?wq7c ?wq7k1 ?wq7k2 ?wq7k3 ?wq7k4 ?wq7k5 ?wq7k6 ?wq7k7 ?wq7k8 ?_); (case wq7k2 => k_asm); (case wq7k1 => k_asm); (case wq7k3 => k_asm); (case wq7k4 => k_asm); (case wq7k5 => k_asm); (case wq7c => first  | exact c_greg _ _ _ _ _ _ _ _ _ _ (by omega) (by omega) (by omega) (by omega) (by omega) (by omega)); (case wq7k6 => first | exact rfl | assumption); (case wq7k7 => ktr_room); (case wq7k8 => ktr_units); (refine ⟨fun msg9 hm9 => ?_, fun hm9 => ?_⟩; (intro e9 t9 k9 h9 G9 tk9 R9 F9 U9; (try dsimp only); (try k_fold)); rotate_left 1; (intro l9 o9 h9 tk9 P9 F9 N9 l1; obtain ⟨yy, mm, dd, ty, tm, td, eo, i1, i2, i3, i4, i5⟩ := P9; subst eo; (try dsimp only); (try k_fold); (try k_lt l1)); rotate_right 1))))
  unfold C Ctr; k_fill
  intro dp un gd cn cs a ccd cl outer A₀ base h₀ L m news s Q E B F X N T hk hd hu hret
  have D0 : KtsDicts [] h₀ := ktsDicts_nil
  refine wpAny_call ?_
  k_dflt cell_enter
  (refine tk_any ?_; intro tk0)
  rename Fr _ _ _ _ => F'
  (refine fr_in1 (PySem.Str.ofString "dtstr") F' (by with_unfolding_all exact rfl) ?_; clear F'; intro m0 F')
  k_steps
  all_goals (try k_data)
  all_goals first
  | (refine' endX (Q := Q) (E := E) (s := s) (hret.1 _ ?r) ?ev ?R ?F ?U ?S; (case R => assumption); (case ev => rfl); (case F => assumption); (case U => assumption); (case S => kcj_all); (case r => (assumption)))
  | (refine' endN (Q := Q) (s := s) (hret.2 (by assumption)) ?e ?F ?N ?S ?l; (case F => k_asm); (case N => k_asm); (case S => kcj_all); (case l => first | assumption | exact lt0 (by assumption) | exact lt1 (by assumption) | exact lt2 (by assumption) | exact lt3 (by assumption) | exact lt4 (by assumption) | exact lt5 (by assumption) | exact lt6 (by assumption)); (case e => (exact ⟨_, _, _, _, _, _, _, rfl, by assumption, by assumption, by assumption, by assumption, by assumption⟩)))
set_option maxHeartbeats 16000000 in
theorem c_parseD (w : World) (mean : ExcName → Option Value) (mg mb : Str → Option Value) (x : PySem.Str) (t : Tok) (y m9 : Int) (hL1 : 7 ≤ x.length) (hL2 : x.length ≤ 10) (hl : ([7, 8, 10].any fun k => k == (x.length : Int)) = true) (hy : PySem.intText? (PySem.Txt.slice x (some 0) (some 4)) = some y) (b1 : -100000 < y) (b2 : y < 100000) (hw : ((PySem.Txt.slice x (some ((4 + (if (PySem.Txt.item x 4 == PySem.Str.ofString "-") = true then 1 else 0)))) (some ((4 + (if (PySem.Txt.item x 4 == PySem.Str.ofString "-") = true then 1 else 0)) + 1))) == PySem.Str.ofString "W") = false) (hM : PySem.intText? (PySem.Txt.slice x (some ((4 + (if (PySem.Txt.item x 4 == PySem.Str.ofString "-") = true then 1 else 0)))) (some ((4 + (if (PySem.Txt.item x 4 == PySem.Str.ofString "-") = true then 1 else 0)) + 2))) = some m9) (d9 : Int) (hd : (((PySem.Txt.slice x (some ((4 + (if (PySem.Txt.item x 4 == PySem.Str.ofString "-") = true then 1 else 0)) + 2)) (some ((4 + (if (PySem.Txt.item x 4 == PySem.Str.ofString "-") = true then 1 else 0)) + 2 + 1))) == PySem.Str.ofString "-") != (PySem.Txt.item x 4 == PySem.Str.ofString "-")) = false) (hD : PySem.intText? (PySem.Txt.slice x (some ((4 + (if (PySem.Txt.item x 4 == PySem.Str.ofString "-") = true then 1 else 0)) + 2 + (if (PySem.Txt.item x 4 == PySem.Str.ofString "-") = true then 1 else 0))) (some ((4 + (if (PySem.Txt.item x 4 == PySem.Str.ofString "-") = true then 1 else 0)) + 2 + (if (PySem.Txt.item x 4 == PySem.Str.ofString "-") = true then 1 else 0) + 2))) = some d9) : C w mean mg mb 73 24 96 [.str x t] (cNew (IsLst3 y m9 d9)) := by
  w_top off
  k_with_none
  (k_with "eval Call" => (k_here; (with_reducible show wpAny _ _ (eval (PySem.Expr.Call (PySem.Expr.Name _ _) _ [] _) _) _ _ _); refine Call_ ?_))
  (k_with "newList" => (k_here; k_dflt ((refine' newList_K ?wq7k1 ?wq7k2 ?_ ?wq7z); (case wq7k1 => k_asm); (case wq7k2 => k_asm); (case wq7z => (rw [sizeLine_eq]; simp only [List.length_cons, List.length_nil]; omega)); k_whole); intro l' h' F' N' l1; (try k_lt l1); (try k_sweep)))
  (k_with "compareOp NotIn int ref" => (k_here; k_dflt ((refine' notin_tuple_ints ?wq7t ?wq7i ?_); (case wq7t => exact News.isTup (by k_asm) (by k_mem)); (case wq7i => with_unfolding_all (repeat constructor)))))
  (k_with "joinParts" => (k_here; (first | (with_reducible show wpAny _ _ (joinParts _ []) _ _ _) | (with_reducible show wpAny _ _ (joinParts _ (evalEach [] _)) _ _ _)); (try (with_reducible refine joinParts_nilE ?_)); (with_reducible refine' joinParts_nil ?_ ?wq7z); (case wq7z => first | ((with_reducible refine fit1 ?_) <;> (first | ((with_reducible refine leafI ?_ ?_) <;> k_dflt omega) | ((with_reducible refine leafL ?_); k_dflt (decide +kernel)) | (with_reducible exact leafS (by assumption) (by decide)))) | ((with_reducible refine fit2 ?_ ?_) <;> (first | ((with_reducible refine leafI ?_ ?_) <;> k_dflt omega) | ((with_reducible refine leafL ?_); k_dflt (decide +kernel)) | (with_reducible exact leafS (by assumption) (by decide)))) | ((with_reducible refine fit3 ?_ ?_ ?_) <;> (first | ((with_reducible refine leafI ?_ ?_) <;> k_dflt omega) | ((with_reducible refine leafL ?_); k_dflt (decide +kernel)) | (with_reducible exact leafS (by assumption) (by decide)))) | ((with_reducible refine fit4 ?_ ?_ ?_ ?_) <;> (first | ((with_reducible refine leafI ?_ ?_) <;> k_dflt omega) | ((with_reducible refine leafL ?_); k_dflt (decide +kernel)) | (with_reducible exact leafS (by assumption) (by decide)))) | ((with_reducible refine fit5 ?_ ?_ ?_ ?_ ?_) <;> (first | ((with_reducible refine leafI ?_ ?_) <;> k_dflt omega) | ((with_reducible refine leafL ?_); k_dflt (decide +kernel)) | (with_reducible exact leafS (by assumption) (by decide)))) | ((with_reducible refine fit6 ?_ ?_ ?_ ?_ ?_ ?_) <;> (first | ((with_reducible refine leafI ?_ ?_) <;> k_dflt omega) | ((with_reducible refine leafL ?_); k_dflt (decide +kernel)) | (with_reducible exact leafS (by assumption) (by decide)))) | ((with_reducible refine fit7 ?_ ?_ ?_ ?_ ?_ ?_ ?_) <;> (first | ((with_reducible refine leafI ?_ ?_) <;> k_dflt omega) | ((with_reducible refine leafL ?_); k_dflt (decide +kernel)) | (with_reducible exact leafS (by assumption) (by decide)))))))
  (k_with "formatField int" => (k_here; (with_reducible show wpAny _ _ (formatField (Value.int _ _) PySem.Str.empty) _ _ _); k_dflt (refine wpAny_formatField_int (log_small (by omega) (by omega)) ?_)))
  (k_with "formatField int" => (k_here; (with_reducible show wpAny _ _ (formatField (Value.int _ _) (PySem.Str.ofString _)) _ _ _); k_dflt ((refine' KXf.field_sym (Heap.NoDigits.keeps (Top.nodigits ?wq7T) (Fr.keep ?wq7F)) ?wq7a ?wq7b ?wq7c ?wq7d ?wq7e ?_); (case wq7F => k_asm); (case wq7T => k_asm); (case wq7c => decide +kernel); (case wq7d => kxf_nat); (case wq7e => decide +kernel); (case wq7a => omega); (case wq7b => omega)); intro _ _ kxfF kxfLo kxfHi))
  (k_with "call ref" => (k_dflt ( (refine' use ?wq7c ?wq7k1 ?wq7k2 ?wq7k3 ?wq7k4 ?wq7k5 ?wq7k6 ?wq7k7 ?wq7k8 ?_); (case wq7k2 => k_asm); (case wq7k1 => k_asm); (case wq7k3 => k_asm); (case wq7k4 => k_asm); (case wq7k5 => k_asm); (case wq7c => first  | exact c_greg _ _ _ _ _ _ _ _ _ _ (by omega) (by omega) (by omega) (by omega) (by omega) (by omega)); (case wq7k6 => first | exact rfl | assumption); (case wq7k7 => ktr_room); (case wq7k8 => ktr_units); (refine ⟨fun msg9 hm9 => ?_, fun hm9 => ?_⟩; (intro e9 t9 k9 h9 G9 tk9 R9 F9 U9; (try dsimp only); (try k_fold)); rotate_left 1; (intro l9 o9 h9 tk9 P9 F9 N9 l1; obtain ⟨yy, mm, dd, ty, tm, td, eo, i1, i2, i3, i4, i5⟩ := P9; subst eo; (try dsimp only); (try k_fold); (try k_lt l1)); rotate_right 1))))
  unfold C Ctr; k_fill
  intro dp un gd cn cs a ccd cl outer A₀ base h₀ L m news s Q E B F X N T hk hd hu hret
  have D0 : KtsDicts [] h₀ := ktsDicts_nil
  refine wpAny_call ?_
  k_dflt cell_enter
  (refine tk_any ?_; intro tk0)
  rename Fr _ _ _ _ => F'
  (refine fr_in1 (PySem.Str.ofString "dtstr") F' (by with_unfolding_all exact rfl) ?_; clear F'; intro m0 F')
  k_steps
  all_goals (try k_data)
  all_goals (refine' endN (Q := Q) (s := s) hret ?e ?F ?N ?S ?l; (case F => k_asm); (case N => k_asm); (case S => kcj_all); (case l => first | assumption | exact lt0 (by assumption) | exact lt1 (by assumption) | exact lt2 (by assumption) | exact lt3 (by assumption) | exact lt4 (by assumption) | exact lt5 (by assumption) | exact lt6 (by assumption)); (case e => (exact ⟨_, _, _, _, rfl⟩)))
set_option maxHeartbeats 16000000 in
theorem c_parseX (w : World) (mean : ExcName → Option Value) (mg mb : Str → Option Value) (x : PySem.Str) (t : Tok) (y m9 : Int) (hL1 : 7 ≤ x.length) (hL2 : x.length ≤ 10) (hl : ([7, 8, 10].any fun k => k == (x.length : Int)) = true) (hy : PySem.intText? (PySem.Txt.slice x (some 0) (some 4)) = some y) (b1 : -100000 < y) (b2 : y < 100000) (hw : ((PySem.Txt.slice x (some ((4 + (if (PySem.Txt.item x 4 == PySem.Str.ofString "-") = true then 1 else 0)))) (some ((4 + (if (PySem.Txt.item x 4 == PySem.Str.ofString "-") = true then 1 else 0)) + 1))) == PySem.Str.ofString "W") = false) (hM : PySem.intText? (PySem.Txt.slice x (some ((4 + (if (PySem.Txt.item x 4 == PySem.Str.ofString "-") = true then 1 else 0)))) (some ((4 + (if (PySem.Txt.item x 4 == PySem.Str.ofString "-") = true then 1 else 0)) + 2))) = some m9) (hd : (((PySem.Txt.slice x (some ((4 + (if (PySem.Txt.item x 4 == PySem.Str.ofString "-") = true then 1 else 0)) + 2)) (some ((4 + (if (PySem.Txt.item x 4 == PySem.Str.ofString "-") = true then 1 else 0)) + 2 + 1))) == PySem.Str.ofString "-") != (PySem.Txt.item x 4 == PySem.Str.ofString "-")) = true) : C w mean mg mb 73 24 96 [.str x t] (cBad (fun k => [.str (PySem.Str.ofString "Inconsistent use of dash separator") k])) := by
  w_top off
  k_with_none
  (k_with "eval Call" => (k_here; (with_reducible show wpAny _ _ (eval (PySem.Expr.Call (PySem.Expr.Name _ _) _ [] _) _) _ _ _); refine Call_ ?_))
  (k_with "newList" => (k_here; k_dflt ((refine' newList_K ?wq7k1 ?wq7k2 ?_ ?wq7z); (case wq7k1 => k_asm); (case wq7k2 => k_asm); (case wq7z => (rw [sizeLine_eq]; simp only [List.length_cons, List.length_nil]; omega)); k_whole); intro l' h' F' N' l1; (try k_lt l1); (try k_sweep)))
  (k_with "compareOp NotIn int ref" => (k_here; k_dflt ((refine' notin_tuple_ints ?wq7t ?wq7i ?_); (case wq7t => exact News.isTup (by k_asm) (by k_mem)); (case wq7i => with_unfolding_all (repeat constructor)))))
  (k_with "joinParts" => (k_here; (first | (with_reducible show wpAny _ _ (joinParts _ []) _ _ _) | (with_reducible show wpAny _ _ (joinParts _ (evalEach [] _)) _ _ _)); (try (with_reducible refine joinParts_nilE ?_)); (with_reducible refine' joinParts_nil ?_ ?wq7z); (case wq7z => first | ((with_reducible refine fit1 ?_) <;> (first | ((with_reducible refine leafI ?_ ?_) <;> k_dflt omega) | ((with_reducible refine leafL ?_); k_dflt (decide +kernel)) | (with_reducible exact leafS (by assumption) (by decide)))) | ((with_reducible refine fit2 ?_ ?_) <;> (first | ((with_reducible refine leafI ?_ ?_) <;> k_dflt omega) | ((with_reducible refine leafL ?_); k_dflt (decide +kernel)) | (with_reducible exact leafS (by assumption) (by decide)))) | ((with_reducible refine fit3 ?_ ?_ ?_) <;> (first | ((with_reducible refine leafI ?_ ?_) <;> k_dflt omega) | ((with_reducible refine leafL ?_); k_dflt (decide +kernel)) | (with_reducible exact leafS (by assumption) (by decide)))) | ((with_reducible refine fit4 ?_ ?_ ?_ ?_) <;> (first | ((with_reducible refine leafI ?_ ?_) <;> k_dflt omega) | ((with_reducible refine leafL ?_); k_dflt (decide +kernel)) | (with_reducible exact leafS (by assumption) (by decide)))) | ((with_reducible refine fit5 ?_ ?_ ?_ ?_ ?_) <;> (first | ((with_reducible refine leafI ?_ ?_) <;> k_dflt omega) | ((with_reducible refine leafL ?_); k_dflt (decide +kernel)) | (with_reducible exact leafS (by assumption) (by decide)))) | ((with_reducible refine fit6 ?_ ?_ ?_ ?_ ?_ ?_) <;> (first | ((with_reducible refine leafI ?_ ?_) <;> k_dflt omega) | ((with_reducible refine leafL ?_); k_dflt (decide +kernel)) | (with_reducible exact leafS (by assumption) (by decide)))) | ((with_reducible refine fit7 ?_ ?_ ?_ ?_ ?_ ?_ ?_) <;> (first | ((with_reducible refine leafI ?_ ?_) <;> k_dflt omega) | ((with_reducible refine leafL ?_); k_dflt (decide +kernel)) | (with_reducible exact leafS (by assumption) (by decide)))))))
  (k_with "formatField int" => (k_here; (with_reducible show wpAny _ _ (formatField (Value.int _ _) PySem.Str.empty) _ _ _); k_dflt (refine wpAny_formatField_int (log_small (by omega) (by omega)) ?_)))
  (k_with "formatField int" => (k_here; (with_reducible show wpAny _ _ (formatField (Value.int _ _) (PySem.Str.ofString _)) _ _ _); k_dflt ((refine' KXf.field_sym (Heap.NoDigits.keeps (Top.nodigits ?wq7T) (Fr.keep ?wq7F)) ?wq7a ?wq7b ?wq7c ?wq7d ?wq7e ?_); (case wq7F => k_asm); (case wq7T => k_asm); (case wq7c => decide +kernel); (case wq7d => kxf_nat); (case wq7e => decide +kernel); (case wq7a => omega); (case wq7b => omega)); intro _ _ kxfF kxfLo kxfHi))
  (k_with "call ref" => (k_dflt ( (refine' use ?wq7c ?wq7k1 ?wq7k2 ?wq7k3 ?wq7k4 ?wq7k5 ?wq7k6 ?wq7k7 ?wq7k8 ?_); (case wq7k2 => k_asm); (case wq7k1 => k_asm); (case wq7k3 => k_asm); (case wq7k4 => k_asm); (case wq7k5 => k_asm); (case wq7c => first  | exact c_greg _ _ _ _ _ _ _ _ _ _ (by omega) (by omega) (by omega) (by omega) (by omega) (by omega)); (case wq7k6 => first | exact rfl | assumption); (case wq7k7 => ktr_room); (case wq7k8 => ktr_units); (refine ⟨fun msg9 hm9 => ?_, fun hm9 => ?_⟩; (intro e9 t9 k9 h9 G9 tk9 R9 F9 U9; (try dsimp only); (try k_fold)); rotate_left 1; (intro l9 o9 h9 tk9 P9 F9 N9 l1; obtain ⟨yy, mm, dd, ty, tm, td, eo, i1, i2, i3, i4, i5⟩ := P9; subst eo; (try dsimp only); (try k_fold); (try k_lt l1)); rotate_right 1))))
  unfold C Ctr; k_fill
  intro dp un gd cn cs a ccd cl outer A₀ base h₀ L m news s Q E B F X N T hk hd hu hret
  have D0 : KtsDicts [] h₀ := ktsDicts_nil
  refine wpAny_call ?_
  k_dflt cell_enter
  (refine tk_any ?_; intro tk0)
  rename Fr _ _ _ _ => F'
  (refine fr_in1 (PySem.Str.ofString "dtstr") F' (by with_unfolding_all exact rfl) ?_; clear F'; intro m0 F')
  k_steps
  all_goals (try k_data)
  all_goals (refine' endX (Q := Q) (E := E) (s := s) (hret) ?ev ?R ?F ?U ?S; (case R => assumption); (case ev => rfl); (case F => assumption); (case U => assumption); (case S => kcj_all); skip)
end Mine
end
section
namespace Mine
noncomputable abbrev CK (w : World) (mean : ExcName → Option Value) (mg mb : Str → Option Value) (f : Addr) (d u : Nat) (vs : List Value) (bad : List Value → Prop) : Prop := CtrK Challenge.rw_km0087_04.row.prog w (Mine.heapK w.params) Mine.viewK lo mean mg mb f d u vs bad
/-- the refusal of a text by int(), caught as its words alone -/
abbrev Refuse (y : PySem.Str) (vs : List Value) : Prop := ∃ k, vs = [.str (badInt y) k]
set_option maxHeartbeats 16000000 in
theorem c_parseY (w : World) (mean : ExcName → Option Value) (mg mb : Str → Option Value) (x : PySem.Str) (t : Tok) (hL1 : 7 ≤ x.length) (hL2 : x.length ≤ 10) (hl : ([7, 8, 10].any fun k => k == (x.length : Int)) = true) (hy : PySem.intText? (PySem.Txt.slice x (some 0) (some 4)) = none) (hr : (reprText (PySem.Txt.slice x (some 0) (some 4))).length ≤ 100) : CK w mean mg mb 73 24 96 [.str x t] (Refuse (PySem.Txt.slice x (some 0) (some 4))) := by
  w_top off
  k_with_none
  (k_with "compareOp NotIn int ref" => (k_here; k_dflt ((refine' notin_tuple_ints ?wq7t ?wq7i ?_); (case wq7t => exact News.isTup (by k_asm) (by k_mem)); (case wq7i => with_unfolding_all (repeat constructor)))))
  unfold CK CtrK; k_fill
  intro dp un gd cn cs a ccd cl outer A₀ base h₀ L m news s Q E B F X N T hk hd hu hret
  refine wpK.call ?_
  k_dflt (refine' enterK ?k1 ?k2 ?k3 ?k4 ?k5 ?kA ?kF ?kK ?k6 ?k7 ?k8 ?k9 ?kB ?_ ?c2 ?c3 ?c4 ?c5; (case kA => exact rfl); (case kF => exact rfl); (case kK => assumption); (case k1 => k_asm); (case k2 => k_asm); (case k3 => k_asm); (case k4 => k_asm); (case k5 => k_asm); (case k6 => k_is); (case k7 => k_is); (case k8 => ktr_room); (case k9 => exact BindsTo.of_eq rfl); (case c5 => decide); (case kB => exact locs rfl); (case c2 => exact rfl); (case c3 => exact rfl); (case c4 => exact rfl); k_whole; intro g' L' h' FG' F' N' B' X' T'; (try dsimp only); (try k_lift B'); (try k_fold))
  (refine tk_anyK ?_; intro tk0)
  rename Fr _ _ _ _ => F'
  (refine fr_in1 (PySem.Str.ofString "dtstr") F' (by with_unfolding_all exact rfl) ?_; clear F'; intro m0 F')
  refine execsA ?_
  k_steps
  all_goals (try k_data)
  all_goals dsimp only
  refine execsK (assignK (callEvalK ?_))
  k_steps
  refine callTypeArgsK ?_
  k_steps
  refine int_bad (by omega) hy rfl hr ?_
  (intro h9 e9 tk9 k9 me9; refine' badK (s := s) hret ⟨_, rfl⟩ ?b1 me9 ?b2 ?b3 ?b4 ?b5 ⟨_, _, rfl⟩; (case b1 => assumption); (case b2 => assumption); (case b3 => k_asm); (case b4 => k_asm); (case b5 => kcj_all))
set_option maxHeartbeats 16000000 in
theorem c_parseM (w : World) (mean : ExcName → Option Value) (mg mb : Str → Option Value) (x : PySem.Str) (t : Tok) (hL1 : 7 ≤ x.length) (hL2 : x.length ≤ 10) (hl : ([7, 8, 10].any fun k => k == (x.length : Int)) = true) (y : Int) (hy : PySem.intText? (PySem.Txt.slice x (some 0) (some 4)) = some y) (hw : ((PySem.Txt.slice x (some ((4 + (if (PySem.Txt.item x 4 == PySem.Str.ofString "-") = true then 1 else 0)))) (some ((4 + (if (PySem.Txt.item x 4 == PySem.Str.ofString "-") = true then 1 else 0)) + 1))) == PySem.Str.ofString "W") = false) (hM : PySem.intText? (PySem.Txt.slice x (some ((4 + (if (PySem.Txt.item x 4 == PySem.Str.ofString "-") = true then 1 else 0)))) (some ((4 + (if (PySem.Txt.item x 4 == PySem.Str.ofString "-") = true then 1 else 0)) + 2))) = none) (hr : (reprText (PySem.Txt.slice x (some ((4 + (if (PySem.Txt.item x 4 == PySem.Str.ofString "-") = true then 1 else 0)))) (some ((4 + (if (PySem.Txt.item x 4 == PySem.Str.ofString "-") = true then 1 else 0)) + 2)))).length ≤ 100) : CK w mean mg mb 73 24 96 [.str x t] (Refuse (PySem.Txt.slice x (some ((4 + (if (PySem.Txt.item x 4 == PySem.Str.ofString "-") = true then 1 else 0)))) (some ((4 + (if (PySem.Txt.item x 4 == PySem.Str.ofString "-") = true then 1 else 0)) + 2)))) := by
  w_top off
  k_with_none
  (k_with "compareOp NotIn int ref" => (k_here; k_dflt ((refine' notin_tuple_ints ?wq7t ?wq7i ?_); (case wq7t => exact News.isTup (by k_asm) (by k_mem)); (case wq7i => with_unfolding_all (repeat constructor)))))
  unfold CK CtrK; k_fill
  intro dp un gd cn cs a ccd cl outer A₀ base h₀ L m news s Q E B F X N T hk hd hu hret
  refine wpK.call ?_
  k_dflt (refine' enterK ?k1 ?k2 ?k3 ?k4 ?k5 ?kA ?kF ?kK ?k6 ?k7 ?k8 ?k9 ?kB ?_ ?c2 ?c3 ?c4 ?c5; (case kA => exact rfl); (case kF => exact rfl); (case kK => assumption); (case k1 => k_asm); (case k2 => k_asm); (case k3 => k_asm); (case k4 => k_asm); (case k5 => k_asm); (case k6 => k_is); (case k7 => k_is); (case k8 => ktr_room); (case k9 => exact BindsTo.of_eq rfl); (case c5 => decide); (case kB => exact locs rfl); (case c2 => exact rfl); (case c3 => exact rfl); (case c4 => exact rfl); k_whole; intro g' L' h' FG' F' N' B' X' T'; (try dsimp only); (try k_lift B'); (try k_fold))
  (refine tk_anyK ?_; intro tk0)
  rename Fr _ _ _ _ => F'
  (refine fr_in1 (PySem.Str.ofString "dtstr") F' (by with_unfolding_all exact rfl) ?_; clear F'; intro m0 F')
  refine execsA ?_
  k_steps
  all_goals (try k_data)
  all_goals dsimp only
  refine execsA ?_
  k_steps
  all_goals (try k_data)
  all_goals dsimp only
  refine execsA ?_
  k_steps
  all_goals (try k_data)
  all_goals dsimp only
  refine execsA ?_
  k_steps
  all_goals (try k_data)
  all_goals dsimp only
  refine execsK (ifK ?_)
  k_steps
  all_goals (try k_data)
  all_goals dsimp only
  refine execsK (assignK (callEvalK ?_))
  k_steps
  refine callTypeArgsK ?_
  k_steps
  refine int_bad (by omega) hM rfl hr ?_
  (intro h9 e9 tk9 k9 me9; refine' badK (s := s) hret ⟨_, rfl⟩ ?b1 me9 ?b2 ?b3 ?b4 ?b5 ⟨_, _, rfl⟩; (case b1 => assumption); (case b2 => assumption); (case b3 => k_asm); (case b4 => k_asm); (case b5 => kcj_all))
set_option maxHeartbeats 16000000 in
theorem c_parseW (w : World) (mean : ExcName → Option Value) (mg mb : Str → Option Value) (x : PySem.Str) (t : Tok) (hL1 : 7 ≤ x.length) (hL2 : x.length ≤ 10) (hl : ([7, 8, 10].any fun k => k == (x.length : Int)) = true) (y : Int) (hy : PySem.intText? (PySem.Txt.slice x (some 0) (some 4)) = some y) (hw : (PySem.Txt.slice x (some (4 + (if (PySem.Txt.item x 4 == PySem.Str.ofString "-") = true then 1 else 0))) (some ((4 + (if (PySem.Txt.item x 4 == PySem.Str.ofString "-") = true then 1 else 0)) + 1)) == PySem.Str.ofString "W") = true) (hW : PySem.intText? (PySem.Txt.slice x (some ((4 + (if (PySem.Txt.item x 4 == PySem.Str.ofString "-") = true then 1 else 0)) + 1)) (some ((4 + (if (PySem.Txt.item x 4 == PySem.Str.ofString "-") = true then 1 else 0)) + 1 + 2))) = none) (hr : (reprText (PySem.Txt.slice x (some ((4 + (if (PySem.Txt.item x 4 == PySem.Str.ofString "-") = true then 1 else 0)) + 1)) (some ((4 + (if (PySem.Txt.item x 4 == PySem.Str.ofString "-") = true then 1 else 0)) + 1 + 2)))).length ≤ 100) : CK w mean mg mb 73 24 96 [.str x t] (Refuse (PySem.Txt.slice x (some ((4 + (if (PySem.Txt.item x 4 == PySem.Str.ofString "-") = true then 1 else 0)) + 1)) (some ((4 + (if (PySem.Txt.item x 4 == PySem.Str.ofString "-") = true then 1 else 0)) + 1 + 2)))) := by
  w_top off
  k_with_none
  (k_with "compareOp NotIn int ref" => (k_here; k_dflt ((refine' notin_tuple_ints ?wq7t ?wq7i ?_); (case wq7t => exact News.isTup (by k_asm) (by k_mem)); (case wq7i => with_unfolding_all (repeat constructor)))))
  unfold CK CtrK; k_fill
  intro dp un gd cn cs a ccd cl outer A₀ base h₀ L m news s Q E B F X N T hk hd hu hret
  refine wpK.call ?_
  k_dflt (refine' enterK ?k1 ?k2 ?k3 ?k4 ?k5 ?kA ?kF ?kK ?k6 ?k7 ?k8 ?k9 ?kB ?_ ?c2 ?c3 ?c4 ?c5; (case kA => exact rfl); (case kF => exact rfl); (case kK => assumption); (case k1 => k_asm); (case k2 => k_asm); (case k3 => k_asm); (case k4 => k_asm); (case k5 => k_asm); (case k6 => k_is); (case k7 => k_is); (case k8 => ktr_room); (case k9 => exact BindsTo.of_eq rfl); (case c5 => decide); (case kB => exact locs rfl); (case c2 => exact rfl); (case c3 => exact rfl); (case c4 => exact rfl); k_whole; intro g' L' h' FG' F' N' B' X' T'; (try dsimp only); (try k_lift B'); (try k_fold))
  (refine tk_anyK ?_; intro tk0)
  rename Fr _ _ _ _ => F'
  (refine fr_in1 (PySem.Str.ofString "dtstr") F' (by with_unfolding_all exact rfl) ?_; clear F'; intro m0 F')
  refine execsA ?_
  k_steps
  all_goals (try k_data)
  all_goals dsimp only
  refine execsA ?_
  k_steps
  all_goals (try k_data)
  all_goals dsimp only
  refine execsA ?_
  k_steps
  all_goals (try k_data)
  all_goals dsimp only
  refine execsA ?_
  k_steps
  all_goals (try k_data)
  all_goals dsimp only
  refine execsK (ifK ?_)
  k_steps
  all_goals (try k_data)
  all_goals dsimp only
  refine execsA ?_
  k_steps
  all_goals (try k_data)
  all_goals dsimp only
  refine execsK (assignK (callEvalK ?_))
  k_steps
  refine callTypeArgsK ?_
  k_steps
  refine int_bad (by omega) hW rfl hr ?_
  (intro h9 e9 tk9 k9 me9; refine' badK (s := s) hret ⟨_, rfl⟩ ?b1 me9 ?b2 ?b3 ?b4 ?b5 ⟨_, _, rfl⟩; (case b1 => assumption); (case b2 => assumption); (case b3 => k_asm); (case b4 => k_asm); (case b5 => kcj_all))
set_option maxHeartbeats 16000000 in
theorem c_parseK (w : World) (mean : ExcName → Option Value) (mg mb : Str → Option Value) (x : PySem.Str) (t : Tok) (hL1 : 7 ≤ x.length) (hL2 : x.length ≤ 10) (hl : ([7, 8, 10].any fun k => k == (x.length : Int)) = true) (y : Int) (hy : PySem.intText? (PySem.Txt.slice x (some 0) (some 4)) = some y) (hw : (PySem.Txt.slice x (some (4 + (if (PySem.Txt.item x 4 == PySem.Str.ofString "-") = true then 1 else 0))) (some ((4 + (if (PySem.Txt.item x 4 == PySem.Str.ofString "-") = true then 1 else 0)) + 1)) == PySem.Str.ofString "W") = true) (w9 : Int) (hW : PySem.intText? (PySem.Txt.slice x (some ((4 + (if (PySem.Txt.item x 4 == PySem.Str.ofString "-") = true then 1 else 0)) + 1)) (some ((4 + (if (PySem.Txt.item x 4 == PySem.Str.ofString "-") = true then 1 else 0)) + 1 + 2))) = some w9) (hs : (4 + (if (PySem.Txt.item x 4 == PySem.Str.ofString "-") = true then 1 else 0)) + 1 + 2 < (x.length : Int)) (hd : (((PySem.Txt.slice x (some ((4 + (if (PySem.Txt.item x 4 == PySem.Str.ofString "-") = true then 1 else 0)) + 1 + 2)) (some ((4 + (if (PySem.Txt.item x 4 == PySem.Str.ofString "-") = true then 1 else 0)) + 1 + 2 + 1))) == PySem.Str.ofString "-") != (PySem.Txt.item x 4 == PySem.Str.ofString "-")) = false) (hD : PySem.intText? (PySem.Txt.slice x (some ((4 + (if (PySem.Txt.item x 4 == PySem.Str.ofString "-") = true then 1 else 0)) + 1 + 2 + (if (PySem.Txt.item x 4 == PySem.Str.ofString "-") = true then 1 else 0))) (some ((4 + (if (PySem.Txt.item x 4 == PySem.Str.ofString "-") = true then 1 else 0)) + 1 + 2 + (if (PySem.Txt.item x 4 == PySem.Str.ofString "-") = true then 1 else 0) + 1))) = none) (hr : (reprText (PySem.Txt.slice x (some ((4 + (if (PySem.Txt.item x 4 == PySem.Str.ofString "-") = true then 1 else 0)) + 1 + 2 + (if (PySem.Txt.item x 4 == PySem.Str.ofString "-") = true then 1 else 0))) (some ((4 + (if (PySem.Txt.item x 4 == PySem.Str.ofString "-") = true then 1 else 0)) + 1 + 2 + (if (PySem.Txt.item x 4 == PySem.Str.ofString "-") = true then 1 else 0) + 1)))).length ≤ 100) : CK w mean mg mb 73 24 96 [.str x t] (Refuse (PySem.Txt.slice x (some ((4 + (if (PySem.Txt.item x 4 == PySem.Str.ofString "-") = true then 1 else 0)) + 1 + 2 + (if (PySem.Txt.item x 4 == PySem.Str.ofString "-") = true then 1 else 0))) (some ((4 + (if (PySem.Txt.item x 4 == PySem.Str.ofString "-") = true then 1 else 0)) + 1 + 2 + (if (PySem.Txt.item x 4 == PySem.Str.ofString "-") = true then 1 else 0) + 1)))) := by
  w_top off
  k_with_none
  (k_with "compareOp NotIn int ref" => (k_here; k_dflt ((refine' notin_tuple_ints ?wq7t ?wq7i ?_); (case wq7t => exact News.isTup (by k_asm) (by k_mem)); (case wq7i => with_unfolding_all (repeat constructor)))))
  unfold CK CtrK; k_fill
  intro dp un gd cn cs a ccd cl outer A₀ base h₀ L m news s Q E B F X N T hk hd hu hret
  refine wpK.call ?_
  k_dflt (refine' enterK ?k1 ?k2 ?k3 ?k4 ?k5 ?kA ?kF ?kK ?k6 ?k7 ?k8 ?k9 ?kB ?_ ?c2 ?c3 ?c4 ?c5; (case kA => exact rfl); (case kF => exact rfl); (case kK => assumption); (case k1 => k_asm); (case k2 => k_asm); (case k3 => k_asm); (case k4 => k_asm); (case k5 => k_asm); (case k6 => k_is); (case k7 => k_is); (case k8 => ktr_room); (case k9 => exact BindsTo.of_eq rfl); (case c5 => decide); (case kB => exact locs rfl); (case c2 => exact rfl); (case c3 => exact rfl); (case c4 => exact rfl); k_whole; intro g' L' h' FG' F' N' B' X' T'; (try dsimp only); (try k_lift B'); (try k_fold))
  (refine tk_anyK ?_; intro tk0)
  rename Fr _ _ _ _ => F'
  (refine fr_in1 (PySem.Str.ofString "dtstr") F' (by with_unfolding_all exact rfl) ?_; clear F'; intro m0 F')
  refine execsA ?_
  k_steps
  all_goals (try k_data)
  all_goals dsimp only
  refine execsA ?_
  k_steps
  all_goals (try k_data)
  all_goals dsimp only
  refine execsA ?_
  k_steps
  all_goals (try k_data)
  all_goals dsimp only
  refine execsA ?_
  k_steps
  all_goals (try k_data)
  all_goals dsimp only
  refine execsK (ifK ?_)
  k_steps
  all_goals (try k_data)
  all_goals dsimp only
  refine execsA ?_
  k_steps
  all_goals (try k_data)
  all_goals dsimp only
  refine execsA ?_
  k_steps
  all_goals (try k_data)
  all_goals dsimp only
  refine execsA ?_
  k_steps
  all_goals (try k_data)
  all_goals dsimp only
  refine execsA ?_
  k_steps
  all_goals (try k_data)
  all_goals dsimp only
  refine execsK (ifK ?_)
  k_steps
  all_goals (try k_data)
  all_goals dsimp only
  refine execsA ?_
  k_steps
  all_goals (try k_data)
  all_goals dsimp only
  refine execsA ?_
  k_steps
  all_goals (try k_data)
  all_goals dsimp only
  refine execsK (assignK (callEvalK ?_))
  k_steps
  refine callTypeArgsK ?_
  k_steps
  refine int_bad (by omega) hD rfl hr ?_
  (intro h9 e9 tk9 k9 me9; refine' badK (s := s) hret ⟨_, rfl⟩ ?b1 me9 ?b2 ?b3 ?b4 ?b5 ⟨_, _, rfl⟩; (case b1 => assumption); (case b2 => assumption); (case b3 => k_asm); (case b4 => k_asm); (case b5 => kcj_all))
set_option maxHeartbeats 16000000 in
theorem c_parseN (w : World) (mean : ExcName → Option Value) (mg mb : Str → Option Value) (x : PySem.Str) (t : Tok) (hL1 : 7 ≤ x.length) (hL2 : x.length ≤ 10) (hl : ([7, 8, 10].any fun k => k == (x.length : Int)) = true) (y : Int) (hy : PySem.intText? (PySem.Txt.slice x (some 0) (some 4)) = some y) (hw : ((PySem.Txt.slice x (some ((4 + (if (PySem.Txt.item x 4 == PySem.Str.ofString "-") = true then 1 else 0)))) (some ((4 + (if (PySem.Txt.item x 4 == PySem.Str.ofString "-") = true then 1 else 0)) + 1))) == PySem.Str.ofString "W") = false) (m9 : Int) (hM : PySem.intText? (PySem.Txt.slice x (some ((4 + (if (PySem.Txt.item x 4 == PySem.Str.ofString "-") = true then 1 else 0)))) (some ((4 + (if (PySem.Txt.item x 4 == PySem.Str.ofString "-") = true then 1 else 0)) + 2))) = some m9) (hd : (((PySem.Txt.slice x (some ((4 + (if (PySem.Txt.item x 4 == PySem.Str.ofString "-") = true then 1 else 0)) + 2)) (some ((4 + (if (PySem.Txt.item x 4 == PySem.Str.ofString "-") = true then 1 else 0)) + 2 + 1))) == PySem.Str.ofString "-") != (PySem.Txt.item x 4 == PySem.Str.ofString "-")) = false) (hD : PySem.intText? (PySem.Txt.slice x (some ((4 + (if (PySem.Txt.item x 4 == PySem.Str.ofString "-") = true then 1 else 0)) + 2 + (if (PySem.Txt.item x 4 == PySem.Str.ofString "-") = true then 1 else 0))) (some ((4 + (if (PySem.Txt.item x 4 == PySem.Str.ofString "-") = true then 1 else 0)) + 2 + (if (PySem.Txt.item x 4 == PySem.Str.ofString "-") = true then 1 else 0) + 2))) = none) (hr : (reprText (PySem.Txt.slice x (some ((4 + (if (PySem.Txt.item x 4 == PySem.Str.ofString "-") = true then 1 else 0)) + 2 + (if (PySem.Txt.item x 4 == PySem.Str.ofString "-") = true then 1 else 0))) (some ((4 + (if (PySem.Txt.item x 4 == PySem.Str.ofString "-") = true then 1 else 0)) + 2 + (if (PySem.Txt.item x 4 == PySem.Str.ofString "-") = true then 1 else 0) + 2)))).length ≤ 100) : CK w mean mg mb 73 24 96 [.str x t] (Refuse (PySem.Txt.slice x (some ((4 + (if (PySem.Txt.item x 4 == PySem.Str.ofString "-") = true then 1 else 0)) + 2 + (if (PySem.Txt.item x 4 == PySem.Str.ofString "-") = true then 1 else 0))) (some ((4 + (if (PySem.Txt.item x 4 == PySem.Str.ofString "-") = true then 1 else 0)) + 2 + (if (PySem.Txt.item x 4 == PySem.Str.ofString "-") = true then 1 else 0) + 2)))) := by
  w_top off
  k_with_none
  (k_with "compareOp NotIn int ref" => (k_here; k_dflt ((refine' notin_tuple_ints ?wq7t ?wq7i ?_); (case wq7t => exact News.isTup (by k_asm) (by k_mem)); (case wq7i => with_unfolding_all (repeat constructor)))))
  unfold CK CtrK; k_fill
  intro dp un gd cn cs a ccd cl outer A₀ base h₀ L m news s Q E B F X N T hk hd hu hret
  refine wpK.call ?_
  k_dflt (refine' enterK ?k1 ?k2 ?k3 ?k4 ?k5 ?kA ?kF ?kK ?k6 ?k7 ?k8 ?k9 ?kB ?_ ?c2 ?c3 ?c4 ?c5; (case kA => exact rfl); (case kF => exact rfl); (case kK => assumption); (case k1 => k_asm); (case k2 => k_asm); (case k3 => k_asm); (case k4 => k_asm); (case k5 => k_asm); (case k6 => k_is); (case k7 => k_is); (case k8 => ktr_room); (case k9 => exact BindsTo.of_eq rfl); (case c5 => decide); (case kB => exact locs rfl); (case c2 => exact rfl); (case c3 => exact rfl); (case c4 => exact rfl); k_whole; intro g' L' h' FG' F' N' B' X' T'; (try dsimp only); (try k_lift B'); (try k_fold))
  (refine tk_anyK ?_; intro tk0)
  rename Fr _ _ _ _ => F'
  (refine fr_in1 (PySem.Str.ofString "dtstr") F' (by with_unfolding_all exact rfl) ?_; clear F'; intro m0 F')
  refine execsA ?_
  k_steps
  all_goals (try k_data)
  all_goals dsimp only
  refine execsA ?_
  k_steps
  all_goals (try k_data)
  all_goals dsimp only
  refine execsA ?_
  k_steps
  all_goals (try k_data)
  all_goals dsimp only
  refine execsA ?_
  k_steps
  all_goals (try k_data)
  all_goals dsimp only
  refine execsK (ifK ?_)
  k_steps
  all_goals (try k_data)
  all_goals dsimp only
  refine execsA ?_
  k_steps
  all_goals (try k_data)
  all_goals dsimp only
  refine execsA ?_
  k_steps
  all_goals (try k_data)
  all_goals dsimp only
  refine execsA ?_
  k_steps
  all_goals (try k_data)
  all_goals dsimp only
  refine execsA ?_
  k_steps
  all_goals (try k_data)
  all_goals dsimp only
  refine execsK (assignK (callEvalK ?_))
  k_steps
  refine callTypeArgsK ?_
  k_steps
  refine int_bad (by omega) hD rfl hr ?_
  (intro h9 e9 tk9 k9 me9; refine' badK (s := s) hret ⟨_, rfl⟩ ?b1 me9 ?b2 ?b3 ?b4 ?b5 ⟨_, _, rfl⟩; (case b1 => assumption); (case b2 => assumption); (case b3 => k_asm); (case b4 => k_asm); (case b5 => kcj_all))
end Mine
end
section
namespace Mine
set_option maxHeartbeats 16000000 in
theorem c_parseV (w : World) (mean : ExcName → Option Value) (mg mb : Str → Option Value) (x : PySem.Str) (t : Tok) (y w9 : Int) (hL1 : 7 ≤ x.length) (hL2 : x.length ≤ 10) (hl : ([7, 8, 10].any fun k => k == (x.length : Int)) = true) (hy : PySem.intText? (PySem.Txt.slice x (some 0) (some 4)) = some y) (b1 : -100000 < y) (b2 : y < 100000) (hw : (PySem.Txt.slice x (some (4 + (if (PySem.Txt.item x 4 == PySem.Str.ofString "-") = true then 1 else 0))) (some ((4 + (if (PySem.Txt.item x 4 == PySem.Str.ofString "-") = true then 1 else 0)) + 1)) == PySem.Str.ofString "W") = true) (hW : PySem.intText? (PySem.Txt.slice x (some ((4 + (if (PySem.Txt.item x 4 == PySem.Str.ofString "-") = true then 1 else 0)) + 1)) (some ((4 + (if (PySem.Txt.item x 4 == PySem.Str.ofString "-") = true then 1 else 0)) + 1 + 2))) = some w9) (b3 : -100000 < w9) (b4 : w9 < 100000) (hs : (4 + (if (PySem.Txt.item x 4 == PySem.Str.ofString "-") = true then 1 else 0)) + 1 + 2 < (x.length : Int)) (hd : (((PySem.Txt.slice x (some ((4 + (if (PySem.Txt.item x 4 == PySem.Str.ofString "-") = true then 1 else 0)) + 1 + 2)) (some ((4 + (if (PySem.Txt.item x 4 == PySem.Str.ofString "-") = true then 1 else 0)) + 1 + 2 + 1))) == PySem.Str.ofString "-") != (PySem.Txt.item x 4 == PySem.Str.ofString "-")) = true) : C w mean mg mb 73 24 96 [.str x t] (cBad (fun k => [.str (PySem.Str.ofString "Inconsistent use of dash separator") k])) := by
  w_top off
  k_with_none
  (k_with "eval Call" => (k_here; (with_reducible show wpAny _ _ (eval (PySem.Expr.Call (PySem.Expr.Name _ _) _ [] _) _) _ _ _); refine Call_ ?_))
  (k_with "newList" => (k_here; k_dflt ((refine' newList_K ?wq7k1 ?wq7k2 ?_ ?wq7z); (case wq7k1 => k_asm); (case wq7k2 => k_asm); (case wq7z => (rw [sizeLine_eq]; simp only [List.length_cons, List.length_nil]; omega)); k_whole); intro l' h' F' N' l1; (try k_lt l1); (try k_sweep)))
  (k_with "compareOp NotIn int ref" => (k_here; k_dflt ((refine' notin_tuple_ints ?wq7t ?wq7i ?_); (case wq7t => exact News.isTup (by k_asm) (by k_mem)); (case wq7i => with_unfolding_all (repeat constructor)))))
  (k_with "joinParts" => (k_here; (first | (with_reducible show wpAny _ _ (joinParts _ []) _ _ _) | (with_reducible show wpAny _ _ (joinParts _ (evalEach [] _)) _ _ _)); (try (with_reducible refine joinParts_nilE ?_)); (with_reducible refine' joinParts_nil ?_ ?wq7z); (case wq7z => first | ((with_reducible refine fit1 ?_) <;> (first | ((with_reducible refine leafI ?_ ?_) <;> k_dflt omega) | ((with_reducible refine leafL ?_); k_dflt (decide +kernel)) | (with_reducible exact leafS (by assumption) (by decide)))) | ((with_reducible refine fit2 ?_ ?_) <;> (first | ((with_reducible refine leafI ?_ ?_) <;> k_dflt omega) | ((with_reducible refine leafL ?_); k_dflt (decide +kernel)) | (with_reducible exact leafS (by assumption) (by decide)))) | ((with_reducible refine fit3 ?_ ?_ ?_) <;> (first | ((with_reducible refine leafI ?_ ?_) <;> k_dflt omega) | ((with_reducible refine leafL ?_); k_dflt (decide +kernel)) | (with_reducible exact leafS (by assumption) (by decide)))) | ((with_reducible refine fit4 ?_ ?_ ?_ ?_) <;> (first | ((with_reducible refine leafI ?_ ?_) <;> k_dflt omega) | ((with_reducible refine leafL ?_); k_dflt (decide +kernel)) | (with_reducible exact leafS (by assumption) (by decide)))) | ((with_reducible refine fit5 ?_ ?_ ?_ ?_ ?_) <;> (first | ((with_reducible refine leafI ?_ ?_) <;> k_dflt omega) | ((with_reducible refine leafL ?_); k_dflt (decide +kernel)) | (with_reducible exact leafS (by assumption) (by decide)))) | ((with_reducible refine fit6 ?_ ?_ ?_ ?_ ?_ ?_) <;> (first | ((with_reducible refine leafI ?_ ?_) <;> k_dflt omega) | ((with_reducible refine leafL ?_); k_dflt (decide +kernel)) | (with_reducible exact leafS (by assumption) (by decide)))) | ((with_reducible refine fit7 ?_ ?_ ?_ ?_ ?_ ?_ ?_) <;> (first | ((with_reducible refine leafI ?_ ?_) <;> k_dflt omega) | ((with_reducible refine leafL ?_); k_dflt (decide +kernel)) | (with_reducible exact leafS (by assumption) (by decide)))))))
  (k_with "formatField int" => (k_here; (with_reducible show wpAny _ _ (formatField (Value.int _ _) PySem.Str.empty) _ _ _); k_dflt (refine wpAny_formatField_int (log_small (by omega) (by omega)) ?_)))
  (k_with "formatField int" => (k_here; (with_reducible show wpAny _ _ (formatField (Value.int _ _) (PySem.Str.ofString _)) _ _ _); k_dflt ((refine' KXf.field_sym (Heap.NoDigits.keeps (Top.nodigits ?wq7T) (Fr.keep ?wq7F)) ?wq7a ?wq7b ?wq7c ?wq7d ?wq7e ?_); (case wq7F => k_asm); (case wq7T => k_asm); (case wq7c => decide +kernel); (case wq7d => kxf_nat); (case wq7e => decide +kernel); (case wq7a => omega); (case wq7b => omega)); intro _ _ kxfF kxfLo kxfHi))
  (k_with "call ref" => (k_dflt ( (refine' use ?wq7c ?wq7k1 ?wq7k2 ?wq7k3 ?wq7k4 ?wq7k5 ?wq7k6 ?wq7k7 ?wq7k8 ?_); (case wq7k2 => k_asm); (case wq7k1 => k_asm); (case wq7k3 => k_asm); (case wq7k4 => k_asm); (case wq7k5 => k_asm); (case wq7c => first  | exact c_greg _ _ _ _ _ _ _ _ _ _ (by omega) (by omega) (by omega) (by omega) (by omega) (by omega)); (case wq7k6 => first | exact rfl | assumption); (case wq7k7 => ktr_room); (case wq7k8 => ktr_units); (refine ⟨fun msg9 hm9 => ?_, fun hm9 => ?_⟩; (intro e9 t9 k9 h9 G9 tk9 R9 F9 U9; (try dsimp only); (try k_fold)); rotate_left 1; (intro l9 o9 h9 tk9 P9 F9 N9 l1; obtain ⟨yy, mm, dd, ty, tm, td, eo, i1, i2, i3, i4, i5⟩ := P9; subst eo; (try dsimp only); (try k_fold); (try k_lt l1)); rotate_right 1))))
  unfold C Ctr; k_fill
  intro dp un gd cn cs a ccd cl outer A₀ base h₀ L m news s Q E B F X N T hk hd hu hret
  have D0 : KtsDicts [] h₀ := ktsDicts_nil
  refine wpAny_call ?_
  k_dflt cell_enter
  (refine tk_any ?_; intro tk0)
  rename Fr _ _ _ _ => F'
  (refine fr_in1 (PySem.Str.ofString "dtstr") F' (by with_unfolding_all exact rfl) ?_; clear F'; intro m0 F')
  k_steps
  all_goals (try k_data)
  all_goals (refine' endX (Q := Q) (E := E) (s := s) (hret) ?ev ?R ?F ?U ?S; (case R => assumption); (case ev => rfl); (case F => assumption); (case U => assumption); (case S => kcj_all); skip)
structure ReadsM (x : PySem.Str) (Y S T : List Nat) (dash : Bool) : Prop where
  l1 : 7 ≤ x.length
  l2 : x.length ≤ 10
  ln : ([7, 8, 10].any fun k => k == (x.length : Int)) = true
  yr : PySem.Txt.slice x (some 0) (some 4) = ⟨Y.toArray⟩
  w : ((PySem.Txt.slice x (some ((4 + (if (PySem.Txt.item x 4 == PySem.Str.ofString "-") = true then 1 else 0)))) (some ((4 + (if (PySem.Txt.item x 4 == PySem.Str.ofString "-") = true then 1 else 0)) + 1))) == PySem.Str.ofString "W") = false
  s : (PySem.Txt.slice x (some ((4 + (if (PySem.Txt.item x 4 == PySem.Str.ofString "-") = true then 1 else 0)))) (some ((4 + (if (PySem.Txt.item x 4 == PySem.Str.ofString "-") = true then 1 else 0)) + 2))) = ⟨S.toArray⟩
  d : (((PySem.Txt.slice x (some ((4 + (if (PySem.Txt.item x 4 == PySem.Str.ofString "-") = true then 1 else 0)) + 2)) (some ((4 + (if (PySem.Txt.item x 4 == PySem.Str.ofString "-") = true then 1 else 0)) + 2 + 1))) == PySem.Str.ofString "-") != (PySem.Txt.item x 4 == PySem.Str.ofString "-")) = dash
  t : (PySem.Txt.slice x (some ((4 + (if (PySem.Txt.item x 4 == PySem.Str.ofString "-") = true then 1 else 0)) + 2 + (if (PySem.Txt.item x 4 == PySem.Str.ofString "-") = true then 1 else 0))) (some ((4 + (if (PySem.Txt.item x 4 == PySem.Str.ofString "-") = true then 1 else 0)) + 2 + (if (PySem.Txt.item x 4 == PySem.Str.ofString "-") = true then 1 else 0) + 2))) = ⟨T.toArray⟩
structure ReadsW (x : PySem.Str) (Y S : List Nat) : Prop where
  l1 : 7 ≤ x.length
  l2 : x.length ≤ 10
  ln : ([7, 8, 10].any fun k => k == (x.length : Int)) = true
  yr : PySem.Txt.slice x (some 0) (some 4) = ⟨Y.toArray⟩
  w : (PySem.Txt.slice x (some (4 + (if (PySem.Txt.item x 4 == PySem.Str.ofString "-") = true then 1 else 0))) (some ((4 + (if (PySem.Txt.item x 4 == PySem.Str.ofString "-") = true then 1 else 0)) + 1)) == PySem.Str.ofString "W") = true
  s : (PySem.Txt.slice x (some ((4 + (if (PySem.Txt.item x 4 == PySem.Str.ofString "-") = true then 1 else 0)) + 1)) (some ((4 + (if (PySem.Txt.item x 4 == PySem.Str.ofString "-") = true then 1 else 0)) + 1 + 2))) = ⟨S.toArray⟩
structure ReadsL (x : PySem.Str) (T : List Nat) (dash : Bool) : Prop where
  s : (4 + (if (PySem.Txt.item x 4 == PySem.Str.ofString "-") = true then 1 else 0)) + 1 + 2 < (x.length : Int)
  d : (((PySem.Txt.slice x (some ((4 + (if (PySem.Txt.item x 4 == PySem.Str.ofString "-") = true then 1 else 0)) + 1 + 2)) (some ((4 + (if (PySem.Txt.item x 4 == PySem.Str.ofString "-") = true then 1 else 0)) + 1 + 2 + 1))) == PySem.Str.ofString "-") != (PySem.Txt.item x 4 == PySem.Str.ofString "-")) = dash
  t : (PySem.Txt.slice x (some ((4 + (if (PySem.Txt.item x 4 == PySem.Str.ofString "-") = true then 1 else 0)) + 1 + 2 + (if (PySem.Txt.item x 4 == PySem.Str.ofString "-") = true then 1 else 0))) (some ((4 + (if (PySem.Txt.item x 4 == PySem.Str.ofString "-") = true then 1 else 0)) + 1 + 2 + (if (PySem.Txt.item x 4 == PySem.Str.ofString "-") = true then 1 else 0) + 1))) = ⟨T.toArray⟩
def ShortW (x : PySem.Str) : Prop := ¬ (4 + (if (PySem.Txt.item x 4 == PySem.Str.ofString "-") = true then 1 else 0)) + 1 + 2 < (x.length : Int)

/-- a contract in the contexts of the claim, with any end -/
abbrev CtrKC (prog : Program) (w : World) (K : Frag) (p : Program) (loose : List Str) (mean : ExcName → Option Value) (mg mb : Str → Option Value) (f : Addr) (d u : Nat) (vs : List Value) (C : Cont) : Prop :=
  ∀ (dp un : Nat) (gd : Option (List Code)) (cn : Str) (cs : Scope) (a : Addr) (ccd : Value) (cl : List (Str × Addr)) (outer : List Env) (A₀ : Around) (base h₀ : Heap) (L : Addr) (m : Str → Option Value) (news : List (Addr × Obj)) (s : Shared) (Q E : Value → Shared → Prop),
    Below A₀ base outer h₀ → Fr h₀ L s.heap m → K.In h₀ → News h₀ L s.heap news → Top p loose mean mg mb h₀ → cs.kind = .function →
    dp + d < recursionLimit → un + u < cLine → C base h₀ L m news (envX cn cs L a ccd cl :: outer) s Q E →
    wpK (model prog w) (ktrTop dp un gd cn cs L a ccd cl outer) (call (.ref f) vs) Q E s
noncomputable abbrev KC (w : World) (mean : ExcName → Option Value) (mg mb : Str → Option Value) (f : Addr) (d u : Nat) (vs : List Value) (c : Cont) : Prop := CtrKC Challenge.rw_km0087_04.row.prog w (Mine.heapK w.params) Mine.viewK lo mean mg mb f d u vs c
/-- what the reader gives for an answer -/
def cRes : Res → Cont
  | .bad t => cBadP (fun vs => ∃ k, vs = [.str t k])
  | .three y m d => cNew (IsLst3 y m d)
  | .day n => cNew (IsLst n)
theorem badInt_is {l : List Nat} (h : RoomOk l) : badInt ⟨l.toArray⟩ = badWord l := by
  have e1 : PySem.Str.ofString (toString "invalid literal for int() with base " ++ toString (10 : Nat) ++ toString ": ") = PySem.Str.ofString "invalid literal for int() with base 10: " := by decide +kernel
  have e2 : (⟨(reprText ⟨l.toArray⟩).cps.extract 0 200⟩ : PySem.Str) = reprText ⟨l.toArray⟩ := by
    have := repr_len h
    refine Str.ext' ?_
    exact Array.extract_eq_self_of_le (Nat.le_trans this (by decide))
  show PySem.Str.ofString _ ++ (⟨(reprText ⟨l.toArray⟩).cps.extract 0 200⟩ : PySem.Str) = PySem.Str.ofString _ ++ _
  rw [e1, e2]
section
variable {w : World} {mean : ExcName → Option Value} {mg mb : Str → Option Value} {f : Addr} {d u : Nat} {vs : List Value}
theorem kc_bad {bad : List Value → Prop} {t : PySem.Str} (h : CK w mean mg mb f d u vs bad) (hb : ∀ ws, bad ws → ∃ k, ws = [.str t k]) : KC w mean mg mb f d u vs (cRes (.bad t)) :=
  fun dp un gd cn cs a ccd cl outer A₀ base h₀ L m news s Q E b F X N T hk hd hu hret => h dp un gd cn cs a ccd cl outer A₀ base h₀ L m news s Q E b F X N T hk hd hu fun e t' ws h' G tk' hws => hret e t' ws h' G tk' (hb ws hws)
theorem kc_of {c : Cont} (h : C w mean mg mb f d u vs c) : KC w mean mg mb f d u vs c :=
  fun dp un gd cn cs a ccd cl outer A₀ base h₀ L m news s Q E b F X N T hk hd hu hret => wpK.of (h dp un gd cn cs a ccd cl outer A₀ base h₀ L m news s Q E b F X N T hk hd hu hret)
theorem kc_mono {c c' : Cont} (h : KC w mean mg mb f d u vs c) (hc : ∀ base h₀ L m news fr s Q E, c' base h₀ L m news fr s Q E → c base h₀ L m news fr s Q E) : KC w mean mg mb f d u vs c' :=
  fun dp un gd cn cs a ccd cl outer A₀ base h₀ L m news s Q E b F X N T hk hd hu hret => h dp un gd cn cs a ccd cl outer A₀ base h₀ L m news s Q E b F X N T hk hd hu (hc _ _ _ _ _ _ _ _ _ hret)
theorem kc_flies {t : PySem.Str} (h : C w mean mg mb f d u vs (cBad (fun k => [.str t k]))) : KC w mean mg mb f d u vs (cRes (.bad t)) :=
  kc_mono (kc_of h) fun _ _ _ _ _ _ _ _ _ hret e t' k h' G tk' => hret e t' _ h' G tk' ⟨k, rfl⟩
end
theorem none_of {l : List Nat} {z : PySem.Str} (R : RoomOk l) (e : z = ⟨l.toArray⟩) (h : numI l = none) : PySem.intText? z = none := by
  subst e; rw [num_is R.asc (by have := R.len; omega)]; exact h
theorem some_of {l : List Nat} {z : PySem.Str} {n : Int} (R : RoomOk l) (e : z = ⟨l.toArray⟩) (h : numI l = some n) : PySem.intText? z = some n := by
  subst e; rw [num_is R.asc (by have := R.len; omega)]; exact h
theorem repr_of {l : List Nat} {z : PySem.Str} (R : RoomOk l) (e : z = ⟨l.toArray⟩) : (reprText z).length ≤ 100 := by
  subst e; have := repr_len R; omega
theorem refuse_is {l : List Nat} {z : PySem.Str} (R : RoomOk l) (e : z = ⟨l.toArray⟩) : ∀ ws, Refuse z ws → ∃ k, ws = [.str (badWord l) k] := by
  subst e; rintro ws ⟨k, rfl⟩; exact ⟨k, by rw [badInt_is R]⟩
theorem lo5 {l : List Nat} {n : Int} (R : RoomOk l) (h : numI l = some n) : -100000 < n := by have := num_lt R h; omega
theorem hi5 {l : List Nat} {n : Int} (R : RoomOk l) (h : numI l = some n) : n < 100000 := by have := num_lt R h; omega
section
variable {w : World} {mean : ExcName → Option Value} {mg mb : Str → Option Value} {way : Int} {Y S T M : List Nat} {dash : Bool} {x : PySem.Str} {R : Res}
theorem told_month (H : ReadsM x Y S T dash) (hY : RoomOk Y) (hS : RoomOk S) (hT : RoomOk T) (hd : Dash way T M ↔ dash = true) (hne : T ≠ []) (hm : Month way) (D : Due4 way Y S T M R) (t : Tok) : KC w mean mg mb 73 24 96 [.str x t] (cRes R) := by
  have th : thirdI T = numI T := if_neg hne
  cases D with
  | year h => exact kc_bad (c_parseY w mean mg mb x t H.l1 H.l2 H.ln (none_of hY H.yr h) (repr_of hY H.yr)) (refuse_is hY H.yr)
  | second h h2 => exact kc_bad (c_parseM w mean mg mb x t H.l1 H.l2 H.ln _ (some_of hY H.yr h) H.w (none_of hS H.s h2) (repr_of hS H.s)) (refuse_is hS H.s)
  | dash h h2 h3 => exact kc_flies (c_parseX w mean mg mb x t _ _ H.l1 H.l2 H.ln (some_of hY H.yr h) (lo5 hY h) (hi5 hY h) H.w (some_of hS H.s h2) (H.d.trans (hd.mp h3)))
  | third h h2 h3 h4 => exact kc_bad (c_parseN w mean mg mb x t H.l1 H.l2 H.ln _ (some_of hY H.yr h) H.w _ (some_of hS H.s h2) (H.d.trans (Bool.eq_false_iff.mpr fun q => h3 (hd.mpr q))) (none_of hT H.t (th.symm.trans h4)) (repr_of hT H.t)) (refuse_is hT H.t)
  | three h h2 h3 h4 h5 => exact kc_of (c_parseD w mean mg mb x t _ _ H.l1 H.l2 H.ln (some_of hY H.yr h) (lo5 hY h) (hi5 hY h) H.w (some_of hS H.s h2) _ (H.d.trans (Bool.eq_false_iff.mpr fun q => h3 (hd.mpr q))) (some_of hT H.t (th.symm.trans h4)))
  | out h h2 h3 h4 h5 h6 => exact absurd hm h5
  | day h h2 h3 h4 h5 h6 => exact absurd hm h5
theorem told_long (H : ReadsW x Y S) (H2 : ReadsL x T dash) (hY : RoomOk Y) (hS : RoomOk S) (hT : RoomOk T) (hd : Dash way T M ↔ dash = true) (hne : T ≠ []) (hm : ¬ Month way) (D : Due4 way Y S T M R) (t : Tok) : KC w mean mg mb 73 24 96 [.str x t] (cRes R) := by
  have th : thirdI T = numI T := if_neg hne
  cases D with
  | year h => exact kc_bad (c_parseY w mean mg mb x t H.l1 H.l2 H.ln (none_of hY H.yr h) (repr_of hY H.yr)) (refuse_is hY H.yr)
  | second h h2 => exact kc_bad (c_parseW w mean mg mb x t H.l1 H.l2 H.ln _ (some_of hY H.yr h) H.w (none_of hS H.s h2) (repr_of hS H.s)) (refuse_is hS H.s)
  | dash h h2 h3 => exact kc_flies (c_parseV w mean mg mb x t _ _ H.l1 H.l2 H.ln (some_of hY H.yr h) (lo5 hY h) (hi5 hY h) H.w (some_of hS H.s h2) (lo5 hS h2) (hi5 hS h2) H2.s (H2.d.trans (hd.mp h3)))
  | third h h2 h3 h4 => exact kc_bad (c_parseK w mean mg mb x t H.l1 H.l2 H.ln _ (some_of hY H.yr h) H.w _ (some_of hS H.s h2) H2.s (H2.d.trans (Bool.eq_false_iff.mpr fun q => h3 (hd.mpr q))) (none_of hT H2.t (th.symm.trans h4)) (repr_of hT H2.t)) (refuse_is hT H2.t)
  | three h h2 h3 h4 h5 => exact absurd h5 hm
  | out h h2 h3 h4 h5 h6 =>
    have h4' := th.symm.trans h4
    exact kc_mono (kc_of (c_parseWl w mean mg mb x t _ _ H.l1 H.l2 H.ln (some_of hY H.yr h) (lo5 hY h) (hi5 hY h) H.w (some_of hS H.s h2) (lo5 hS h2) (hi5 hS h2) _ H2.s (H2.d.trans (Bool.eq_false_iff.mpr fun q => h3 (hd.mpr q))) (some_of hT H2.t h4') (lo5 hT h4') (hi5 hT h4')))
      fun _ _ _ _ _ _ _ _ _ hret => ⟨fun msg hm' e t' k h' G tk' => hret e t' _ h' G tk' ⟨k, by rw [h6] at hm'; cases hm'; rfl⟩, fun q => by rw [h6] at q; cases q⟩
  | day h h2 h3 h4 h5 h6 =>
    have h4' := th.symm.trans h4
    exact kc_mono (kc_of (c_parseWl w mean mg mb x t _ _ H.l1 H.l2 H.ln (some_of hY H.yr h) (lo5 hY h) (hi5 hY h) H.w (some_of hS H.s h2) (lo5 hS h2) (hi5 hS h2) _ H2.s (H2.d.trans (Bool.eq_false_iff.mpr fun q => h3 (hd.mpr q))) (some_of hT H2.t h4') (lo5 hT h4') (hi5 hT h4')))
      fun _ _ _ _ _ _ _ _ _ hret => ⟨fun msg hm' => (by rw [h6] at hm'; cases hm'), fun _ => hret⟩
theorem told_short (H : ReadsW x Y S) (H2 : ShortW x) (hY : RoomOk Y) (hS : RoomOk S) (hd : ¬ Dash way [] M) (hm : ¬ Month way) (D : Due4 way Y S [] M R) (t : Tok) : KC w mean mg mb 73 24 96 [.str x t] (cRes R) := by
  cases D with
  | year h => exact kc_bad (c_parseY w mean mg mb x t H.l1 H.l2 H.ln (none_of hY H.yr h) (repr_of hY H.yr)) (refuse_is hY H.yr)
  | second h h2 => exact kc_bad (c_parseW w mean mg mb x t H.l1 H.l2 H.ln _ (some_of hY H.yr h) H.w (none_of hS H.s h2) (repr_of hS H.s)) (refuse_is hS H.s)
  | dash h h2 h3 => exact absurd h3 hd
  | third h h2 h3 h4 => cases h4
  | three h h2 h3 h4 h5 => exact absurd h5 hm
  | out h h2 h3 h4 h5 h6 =>
    cases h4
    exact kc_mono (kc_of (c_parseWs w mean mg mb x t _ _ H.l1 H.l2 H.ln (some_of hY H.yr h) (lo5 hY h) (hi5 hY h) H.w (some_of hS H.s h2) (lo5 hS h2) (hi5 hS h2) H2))
      fun _ _ _ _ _ _ _ _ _ hret => ⟨fun msg hm' e t' k h' G tk' => hret e t' _ h' G tk' ⟨k, by rw [h6] at hm'; cases hm'; rfl⟩, fun q => by rw [h6] at q; cases q⟩
  | day h h2 h3 h4 h5 h6 =>
    cases h4
    exact kc_mono (kc_of (c_parseWs w mean mg mb x t _ _ H.l1 H.l2 H.ln (some_of hY H.yr h) (lo5 hY h) (hi5 hY h) H.w (some_of hS H.s h2) (lo5 hS h2) (hi5 hS h2) H2))
      fun _ _ _ _ _ _ _ _ _ hret => ⟨fun msg hm' => (by rw [h6] at hm'; cases hm'), fun _ => hret⟩
end
end Mine
end
section
open PySem PySem.W PyProof.Rows PySem.Builtin PySem.Builtin.Str
namespace Mine
theorem idx_over {i j : Int} {n : Nat} (h : (n : Int) ≤ j) : strSliceIndices (some i) (some j) 1 n = strSliceIndices (some i) (some (n : Int)) 1 n := by
  have e : max (0 : Int) (min (if j < 0 then j + (n : Int) else j) (n : Int)) = max 0 (min (if (n : Int) < 0 then (n : Int) + (n : Int) else (n : Int)) (n : Int)) := by
    rw [if_neg (by omega), if_neg (by omega)]; omega
  show sliceRange _ (max (0 : Int) (min (if j < 0 then j + (n : Int) else j) (n : Int))) 1 = sliceRange _ (max 0 (min (if (n : Int) < 0 then (n : Int) + (n : Int) else (n : Int)) (n : Int))) 1
  rw [e]
theorem cut_over (p q : List Nat) {i j : Int} (hi : i = (p.length : Int)) (hj : ((p ++ q).length : Int) ≤ j) : PySem.Txt.slice ⟨(p ++ q).toArray⟩ (some i) (some j) = ⟨q.toArray⟩ := by
  have e : PySem.Txt.slice ⟨(p ++ q).toArray⟩ (some i) (some j) = PySem.Txt.slice ⟨(p ++ q).toArray⟩ (some i) (some ((p ++ q).length : Int)) := by
    unfold PySem.Txt.slice
    have hl : (⟨(p ++ q).toArray⟩ : PySem.Str).length = (p ++ q).length := str_len _
    rw [hl, idx_over hj]
  rw [e]
  have := cut_mid p q [] (i := i) (j := ((p ++ q).length : Int)) hi rfl
  rwa [List.append_nil] at this
theorem is45 {l : List Nat} {c : Nat} (h : l[4]? = some c) : (PySem.Txt.item ⟨l.toArray⟩ 4 == PySem.Str.ofString "-") = decide (c = 45) := by
  rw [item_at (k := 4) (c := c) (by decide) rfl h, lit_d]
  exact one_is
theorem is_W {c : Nat} : ((⟨[c].toArray⟩ : PySem.Str) == PySem.Str.ofString "W") = decide (c = 87) := by rw [lit_W]; exact one_is
theorem is_D {c : Nat} : ((⟨[c].toArray⟩ : PySem.Str) == PySem.Str.ofString "-") = decide (c = 45) := by rw [lit_d]; exact one_is
section
variable {a b c d e f g h i : Nat}
theorem rd0 (h1 : e ≠ 87) : ReadsM ⟨[a, b, c, d, 45, e, f, i, g, h].toArray⟩ [a, b, c, d] [e, f] [g, h] (!decide (i = 45)) := by
  have hit : (PySem.Txt.item ⟨[a, b, c, d, 45, e, f, i, g, h].toArray⟩ 4 == PySem.Str.ofString "-") = true := (is45 rfl).trans (by simp)
  refine ⟨by rw [str_len]; exact Nat.le_of_ble_eq_true rfl, by rw [str_len]; exact Nat.le_of_ble_eq_true rfl, by rw [str_len]; rfl, cut_mid [] [a, b, c, d] [45, e, f, i, g, h] rfl rfl, ?_, ?_, ?_, ?_⟩
  · rw [hit]
    show (PySem.Txt.slice _ (some 5) (some 6) == _) = false
    rw [show PySem.Txt.slice ⟨[a, b, c, d, 45, e, f, i, g, h].toArray⟩ (some 5) (some 6) = ⟨[e].toArray⟩ from cut_mid [a, b, c, d, 45] [e] [f, i, g, h] rfl rfl, is_W]; exact decide_eq_false h1
  · rw [hit]
    exact cut_mid [a, b, c, d, 45] [e, f] [i, g, h] rfl rfl
  · rw [hit]
    show ((PySem.Txt.slice _ (some 7) (some 8) == _) != true) = _
    rw [show PySem.Txt.slice ⟨[a, b, c, d, 45, e, f, i, g, h].toArray⟩ (some 7) (some 8) = ⟨[i].toArray⟩ from cut_mid [a, b, c, d, 45, e, f] [i] [g, h] rfl rfl, is_D]
    cases decide (i = 45) <;> rfl
  · rw [hit]
    exact cut_mid [a, b, c, d, 45, e, f, i] [g, h] [] rfl rfl
theorem rd1 (h1 : e ≠ 87) (h2 : e ≠ 45) : ReadsM ⟨[a, b, c, d, e, f, g, h].toArray⟩ [a, b, c, d] [e, f] [g, h] (decide (g = 45)) := by
  have hit : (PySem.Txt.item ⟨[a, b, c, d, e, f, g, h].toArray⟩ 4 == PySem.Str.ofString "-") = false := (is45 rfl).trans (decide_eq_false h2)
  refine ⟨by rw [str_len]; exact Nat.le_of_ble_eq_true rfl, by rw [str_len]; exact Nat.le_of_ble_eq_true rfl, by rw [str_len]; rfl, cut_mid [] [a, b, c, d] [e, f, g, h] rfl rfl, ?_, ?_, ?_, ?_⟩
  · rw [hit]
    show (PySem.Txt.slice _ (some 4) (some 5) == _) = false
    rw [show PySem.Txt.slice ⟨[a, b, c, d, e, f, g, h].toArray⟩ (some 4) (some 5) = ⟨[e].toArray⟩ from cut_mid [a, b, c, d] [e] [f, g, h] rfl rfl, is_W]; exact decide_eq_false h1
  · rw [hit]
    exact cut_mid [a, b, c, d] [e, f] [g, h] rfl rfl
  · rw [hit]
    show ((PySem.Txt.slice _ (some 6) (some 7) == _) != false) = _
    rw [show PySem.Txt.slice ⟨[a, b, c, d, e, f, g, h].toArray⟩ (some 6) (some 7) = ⟨[g].toArray⟩ from cut_mid [a, b, c, d, e, f] [g] [h] rfl rfl, is_D]
    cases decide (g = 45) <;> rfl
  · rw [hit]
    exact cut_mid [a, b, c, d, e, f] [g, h] [] rfl rfl
theorem rd6 (h1 : e ≠ 87) (h2 : e ≠ 45) : ReadsM ⟨[a, b, c, d, e, f, h].toArray⟩ [a, b, c, d] [e, f] [h] (decide (h = 45)) := by
  have hit : (PySem.Txt.item ⟨[a, b, c, d, e, f, h].toArray⟩ 4 == PySem.Str.ofString "-") = false := (is45 rfl).trans (decide_eq_false h2)
  refine ⟨by rw [str_len]; exact Nat.le_of_ble_eq_true rfl, by rw [str_len]; exact Nat.le_of_ble_eq_true rfl, by rw [str_len]; rfl, cut_mid [] [a, b, c, d] [e, f, h] rfl rfl, ?_, ?_, ?_, ?_⟩
  · rw [hit]
    show (PySem.Txt.slice _ (some 4) (some 5) == _) = false
    rw [show PySem.Txt.slice ⟨[a, b, c, d, e, f, h].toArray⟩ (some 4) (some 5) = ⟨[e].toArray⟩ from cut_mid [a, b, c, d] [e] [f, h] rfl rfl, is_W]; exact decide_eq_false h1
  · rw [hit]
    exact cut_mid [a, b, c, d] [e, f] [h] rfl rfl
  · rw [hit]
    show ((PySem.Txt.slice _ (some 6) (some 7) == _) != false) = _
    rw [show PySem.Txt.slice ⟨[a, b, c, d, e, f, h].toArray⟩ (some 6) (some 7) = ⟨[h].toArray⟩ from cut_mid [a, b, c, d, e, f] [h] [] rfl rfl, is_D]
    cases decide (h = 45) <;> rfl
  · rw [hit]
    exact cut_over [a, b, c, d, e, f] [h] rfl (of_decide_eq_true rfl)
theorem rd2 : ReadsW ⟨[a, b, c, d, 45, 87, e, f, i, h].toArray⟩ [a, b, c, d] [e, f] ∧ ReadsL ⟨[a, b, c, d, 45, 87, e, f, i, h].toArray⟩ [h] (!decide (i = 45)) := by
  have hit : (PySem.Txt.item ⟨[a, b, c, d, 45, 87, e, f, i, h].toArray⟩ 4 == PySem.Str.ofString "-") = true := (is45 rfl).trans (by simp)
  refine ⟨⟨by rw [str_len]; exact Nat.le_of_ble_eq_true rfl, by rw [str_len]; exact Nat.le_of_ble_eq_true rfl, by rw [str_len]; rfl, cut_mid [] [a, b, c, d] [45, 87, e, f, i, h] rfl rfl, ?_, ?_⟩, ?_, ?_, ?_⟩
  · rw [hit]
    show (PySem.Txt.slice _ (some 5) (some 6) == _) = true
    rw [show PySem.Txt.slice ⟨[a, b, c, d, 45, 87, e, f, i, h].toArray⟩ (some 5) (some 6) = ⟨[87].toArray⟩ from cut_mid [a, b, c, d, 45] [87] [e, f, i, h] rfl rfl, is_W]; rfl
  · rw [hit]
    exact cut_mid [a, b, c, d, 45, 87] [e, f] [i, h] rfl rfl
  · rw [hit, str_len]; exact (by decide : (4 + 1 + 1 + 2 : Int) < 10)
  · rw [hit]
    show ((PySem.Txt.slice _ (some 8) (some 9) == _) != true) = _
    rw [show PySem.Txt.slice ⟨[a, b, c, d, 45, 87, e, f, i, h].toArray⟩ (some 8) (some 9) = ⟨[i].toArray⟩ from cut_mid [a, b, c, d, 45, 87, e, f] [i] [h] rfl rfl, is_D]
    cases decide (i = 45) <;> rfl
  · rw [hit]
    exact cut_mid [a, b, c, d, 45, 87, e, f, i] [h] [] rfl rfl
theorem rd3 : ReadsW ⟨[a, b, c, d, 87, e, f, h].toArray⟩ [a, b, c, d] [e, f] ∧ ReadsL ⟨[a, b, c, d, 87, e, f, h].toArray⟩ [h] (decide (h = 45)) := by
  have hit : (PySem.Txt.item ⟨[a, b, c, d, 87, e, f, h].toArray⟩ 4 == PySem.Str.ofString "-") = false := (is45 rfl).trans (by simp)
  refine ⟨⟨by rw [str_len]; exact Nat.le_of_ble_eq_true rfl, by rw [str_len]; exact Nat.le_of_ble_eq_true rfl, by rw [str_len]; rfl, cut_mid [] [a, b, c, d] [87, e, f, h] rfl rfl, ?_, ?_⟩, ?_, ?_, ?_⟩
  · rw [hit]
    show (PySem.Txt.slice _ (some 4) (some 5) == _) = true
    rw [show PySem.Txt.slice ⟨[a, b, c, d, 87, e, f, h].toArray⟩ (some 4) (some 5) = ⟨[87].toArray⟩ from cut_mid [a, b, c, d] [87] [e, f, h] rfl rfl, is_W]; rfl
  · rw [hit]
    exact cut_mid [a, b, c, d, 87] [e, f] [h] rfl rfl
  · rw [hit, str_len]; exact (by decide : (4 + 0 + 1 + 2 : Int) < 8)
  · rw [hit]
    show ((PySem.Txt.slice _ (some 7) (some 8) == _) != false) = _
    rw [show PySem.Txt.slice ⟨[a, b, c, d, 87, e, f, h].toArray⟩ (some 7) (some 8) = ⟨[h].toArray⟩ from cut_mid [a, b, c, d, 87, e, f] [h] [] rfl rfl, is_D]
    cases decide (h = 45) <;> rfl
  · rw [hit]
    exact cut_mid [a, b, c, d, 87, e, f] [h] [] rfl rfl
theorem rd4 : ReadsW ⟨[a, b, c, d, 45, 87, e, f].toArray⟩ [a, b, c, d] [e, f] ∧ ShortW ⟨[a, b, c, d, 45, 87, e, f].toArray⟩ := by
  have hit : (PySem.Txt.item ⟨[a, b, c, d, 45, 87, e, f].toArray⟩ 4 == PySem.Str.ofString "-") = true := (is45 rfl).trans (by simp)
  refine ⟨⟨by rw [str_len]; exact Nat.le_of_ble_eq_true rfl, by rw [str_len]; exact Nat.le_of_ble_eq_true rfl, by rw [str_len]; rfl, cut_mid [] [a, b, c, d] [45, 87, e, f] rfl rfl, ?_, ?_⟩, ?_⟩
  · rw [hit]
    show (PySem.Txt.slice _ (some 5) (some 6) == _) = true
    rw [show PySem.Txt.slice ⟨[a, b, c, d, 45, 87, e, f].toArray⟩ (some 5) (some 6) = ⟨[87].toArray⟩ from cut_mid [a, b, c, d, 45] [87] [e, f] rfl rfl, is_W]; rfl
  · rw [hit]
    exact cut_mid [a, b, c, d, 45, 87] [e, f] [] rfl rfl
  · unfold ShortW; rw [hit, str_len]; exact (by decide : ¬ (4 + 1 + 1 + 2 : Int) < 8)
theorem rd5 : ReadsW ⟨[a, b, c, d, 87, e, f].toArray⟩ [a, b, c, d] [e, f] ∧ ShortW ⟨[a, b, c, d, 87, e, f].toArray⟩ := by
  have hit : (PySem.Txt.item ⟨[a, b, c, d, 87, e, f].toArray⟩ 4 == PySem.Str.ofString "-") = false := (is45 rfl).trans (by simp)
  refine ⟨⟨by rw [str_len]; exact Nat.le_of_ble_eq_true rfl, by rw [str_len]; exact Nat.le_of_ble_eq_true rfl, by rw [str_len]; rfl, cut_mid [] [a, b, c, d] [87, e, f] rfl rfl, ?_, ?_⟩, ?_⟩
  · rw [hit]
    show (PySem.Txt.slice _ (some 4) (some 5) == _) = true
    rw [show PySem.Txt.slice ⟨[a, b, c, d, 87, e, f].toArray⟩ (some 4) (some 5) = ⟨[87].toArray⟩ from cut_mid [a, b, c, d] [87] [e, f] rfl rfl, is_W]; rfl
  · rw [hit]
    exact cut_mid [a, b, c, d, 87] [e, f] [] rfl rfl
  · unfold ShortW; rw [hit, str_len]; exact (by decide : ¬ (4 + 0 + 1 + 2 : Int) < 7)
theorem rd7 : ReadsW ⟨[a, b, c, d, 45, 87, f].toArray⟩ [a, b, c, d] [f] ∧ ShortW ⟨[a, b, c, d, 45, 87, f].toArray⟩ := by
  have hit : (PySem.Txt.item ⟨[a, b, c, d, 45, 87, f].toArray⟩ 4 == PySem.Str.ofString "-") = true := (is45 rfl).trans (by simp)
  refine ⟨⟨by rw [str_len]; exact Nat.le_of_ble_eq_true rfl, by rw [str_len]; exact Nat.le_of_ble_eq_true rfl, by rw [str_len]; rfl, cut_mid [] [a, b, c, d] [45, 87, f] rfl rfl, ?_, ?_⟩, ?_⟩
  · rw [hit]
    show (PySem.Txt.slice _ (some 5) (some 6) == _) = true
    rw [show PySem.Txt.slice ⟨[a, b, c, d, 45, 87, f].toArray⟩ (some 5) (some 6) = ⟨[87].toArray⟩ from cut_mid [a, b, c, d, 45] [87] [f] rfl rfl, is_W]; rfl
  · rw [hit]
    exact cut_over [a, b, c, d, 45, 87] [f] rfl (of_decide_eq_true rfl)
  · unfold ShortW; rw [hit, str_len]; exact (by decide : ¬ (4 + 1 + 1 + 2 : Int) < 7)
end
structure Sg (a : Nat) : Prop where
  h : 0 < a ∧ a < 128
theorem rm1 {a : Nat} (h : Sg a) : RoomOk [a] := ⟨asc_cons h.h asc_nil, Nat.le_of_ble_eq_true rfl⟩
theorem rm2 {a b : Nat} (h : Sg a) (h2 : Sg b) : RoomOk [a, b] := ⟨asc_cons h.h (asc_cons h2.h asc_nil), Nat.le_of_ble_eq_true rfl⟩
theorem rm4 {a b c d : Nat} (h : Sg a) (h2 : Sg b) (h3 : Sg c) (h4 : Sg d) : RoomOk [a, b, c, d] := ⟨asc_cons h.h (asc_cons h2.h (asc_cons h3.h (asc_cons h4.h asc_nil))), Nat.le_of_ble_eq_true rfl⟩
theorem rm0 : RoomOk [] := ⟨asc_nil, Nat.le_of_ble_eq_true rfl⟩
theorem sg {X : List Nat} (hX : Ascii X) (n : Nat) {c : Nat} (h : X[n]? = some c) : Sg c := ⟨hX c (List.mem_of_getElem? h)⟩
theorem no136 {k : Int} {A : Prop} (h : k = 1 ∨ k = 3 ∨ k = 6 → False) : k = 1 ∨ k = 3 ∨ k = 6 → A := fun q => (h q).elim
theorem cons_ne {a : Nat} {l : List Nat} : a :: l ≠ [] := fun h => nomatch h
theorem CaseIs.rooms {way : Int} {Y S T M X : List Nat} (h : CaseIs way Y S T M X) (hX : Ascii X) : DueAt4 way Y S T M := by
  have s (n : Nat) {c : Nat} (h : X[n]? = some c) : Sg c := sg hX n h
  cases h with
  | w0 h1 => exact ⟨by decide, by decide, rm4 (s 0 rfl) (s 1 rfl) (s 2 rfl) (s 3 rfl), rm2 (s 5 rfl) (s 6 rfl), rm2 (s 8 rfl) (s 9 rfl), cons_ne, cons_ne, fun _ => cons_ne⟩
  | w1 h1 h2 => exact ⟨by decide, by decide, rm4 (s 0 rfl) (s 1 rfl) (s 2 rfl) (s 3 rfl), rm2 (s 4 rfl) (s 5 rfl), rm2 (s 6 rfl) (s 7 rfl), cons_ne, cons_ne, fun _ => cons_ne⟩
  | w2 => exact ⟨by decide, by decide, rm4 (s 0 rfl) (s 1 rfl) (s 2 rfl) (s 3 rfl), rm2 (s 6 rfl) (s 7 rfl), rm1 (s 9 rfl), cons_ne, cons_ne, fun _ => cons_ne⟩
  | w3 => exact ⟨by decide, by decide, rm4 (s 0 rfl) (s 1 rfl) (s 2 rfl) (s 3 rfl), rm2 (s 5 rfl) (s 6 rfl), rm1 (s 7 rfl), cons_ne, cons_ne, fun _ => cons_ne⟩
  | w4 => exact ⟨by decide, by decide, rm4 (s 0 rfl) (s 1 rfl) (s 2 rfl) (s 3 rfl), rm2 (s 6 rfl) (s 7 rfl), rm0, cons_ne, cons_ne, no136 (by decide)⟩
  | w5 => exact ⟨by decide, by decide, rm4 (s 0 rfl) (s 1 rfl) (s 2 rfl) (s 3 rfl), rm2 (s 5 rfl) (s 6 rfl), rm0, cons_ne, cons_ne, no136 (by decide)⟩
  | w6 h1 h2 => exact ⟨by decide, by decide, rm4 (s 0 rfl) (s 1 rfl) (s 2 rfl) (s 3 rfl), rm2 (s 4 rfl) (s 5 rfl), rm1 (s 6 rfl), cons_ne, cons_ne, fun _ => cons_ne⟩
  | w7 => exact ⟨by decide, by decide, rm4 (s 0 rfl) (s 1 rfl) (s 2 rfl) (s 3 rfl), rm1 (s 6 rfl), rm0, cons_ne, cons_ne, no136 (by decide)⟩
theorem dash_d {way : Int} {T : List Nat} {i : Nat} (h : way = 0 ∨ way = 2) : Dash way T [i] ↔ (!decide (i = 45)) = true := by
  unfold Dash
  have h2 : ¬ (way = 1 ∨ way = 3 ∨ way = 6) := by omega
  simp only [h, h2, false_and, or_false, true_and]
  simp
theorem dash_t {way : Int} {M r : List Nat} {c : Nat} (h : way = 1 ∨ way = 3 ∨ way = 6) : Dash way (c :: r) M ↔ decide (c = 45) = true := by
  unfold Dash
  have h2 : ¬ (way = 0 ∨ way = 2) := by omega
  simp only [h, h2, false_and, false_or, true_and, decide_eq_true_eq]
  constructor
  · rintro ⟨_, h⟩; exact (List.cons.inj h).1
  · rintro rfl; exact ⟨r, rfl⟩
theorem dash_no {way : Int} {T M : List Nat} (h : way = 4 ∨ way = 5 ∨ way = 7) : ¬ Dash way T M := by
  rintro (⟨a, _⟩ | ⟨a, _⟩) <;> omega
theorem told {way : Int} {Y S T M X : List Nat} {R : Res} {w : World} {mean : ExcName → Option Value} {mg mb : Str → Option Value} (h : CaseIs way Y S T M X) (hX : Ascii X) (D : Due4 way Y S T M R) (t : Tok) : KC w mean mg mb 73 24 96 [.str ⟨X.toArray⟩ t] (cRes R) := by
  have r := h.rooms hX
  cases h with
  | w0 h1 => exact told_month (rd0 h1) r.yr r.sr r.tr (dash_d (by omega)) (by simp) (by unfold Month; omega) D t
  | w1 h1 h2 => exact told_month (rd1 h1 h2) r.yr r.sr r.tr (dash_t (by omega)) (by simp) (by unfold Month; omega) D t
  | w2 => exact told_long rd2.1 rd2.2 r.yr r.sr r.tr (dash_d (by omega)) (by simp) (by unfold Month; omega) D t
  | w3 => exact told_long rd3.1 rd3.2 r.yr r.sr r.tr (dash_t (by omega)) (by simp) (by unfold Month; omega) D t
  | w4 => exact told_short rd4.1 rd4.2 r.yr r.sr (dash_no (by omega)) (by unfold Month; omega) D t
  | w5 => exact told_short rd5.1 rd5.2 r.yr r.sr (dash_no (by omega)) (by unfold Month; omega) D t
  | w6 h1 h2 => exact told_month (rd6 h1 h2) r.yr r.sr r.tr (dash_t (by omega)) (by simp) (by unfold Month; omega) D t
  | w7 => exact told_short rd7.1 rd7.2 r.yr r.sr (dash_no (by omega)) (by unfold Month; omega) D t
end Mine
end
section
open PySem PySem.W PyProof.Rows PySem.Spec PySem.Calls
namespace Mine
section
variable {M : Model} {A : Around} {s : Shared}
theorem codeK.mono {c : Code} {R R' : Result → Shared → Prop} (h : codeK M A c R s) (hR : ∀ r s, R r s → R' r s) : codeK M A c R' s :=
  fun Γ p hc hΓ hk => wpCode_mono hR (h Γ p hc hΓ hk)
theorem enter_callK {f : Value} {pos : List Value} {kw : List (Str × Value)} {c : ClaimW} {cl : Str → Option Addr} {mean : ExcName → Option Value} {args : List WData} {s₁ : Shared}
    (h : codeK M A (.call f ⟨pos, kw⟩) (GoodWG c cl mean args s₁) s) : wpK M A (PySem.call f pos kw) (fun v s' => GoodWG c cl mean args s₁ (.ok (.ret v)) s') (fun e s' => GoodWG c cl mean args s₁ (.error e) s') s :=
  wpK.call (h.mono fun res s' g => by rcases g.1 with ⟨v, _, _, rfl, _⟩ | ⟨e, _, _, rfl, _⟩ <;> exact g)
end
section
variable {prog : Program} {w : World} {A : Around} {s : Shared}
theorem call_fullK {R : Result → Shared → Prop} {name : Str} {params : Arguments} {body : List Stmt} {scope : Scope}
    {dV kV pm cd doc : Value} {a : Addr} {o : Obj} {args : Args} {binds : List (Str × Value)}
    (hroom : A.depth < recursionLimit) (ho : s.heap.get? a = some o) (hdata : o.data = .func { docDef name params body scope pm cd doc with defaults := dV, kwdefaults := kV }) (hlim : s.heap.NoLimit) (hcd : s.heap.CodeRec cd name)
    (hbind : BindsTo s { docDef name params body scope pm cd doc with defaults := dV, kwdefaults := kV } args binds)
    (hloc : ∀ x ∈ binds, scope.names.lookup x.1 = some .local)
    (h : ∀ h₁, Fr s.heap s.heap.objs.size h₁ (fun x => binds.reverse.lookup x) →
      wpK (model prog w) (A.deeper (envOf name scope s.heap.objs.size a cd)) (execs body (envOf name scope s.heap.objs.size a cd))
        (fun f s' => R (.ok (.ret (match f with | .ret v => v | _ => .none))) s')
        (fun e s' => wpAny (model prog w) (A.deeper (envOf name scope s.heap.objs.size a cd)) (leaving (envOf name scope s.heap.objs.size a cd) e)
          (fun _ s'' => R (.error e) s'') (fun e' s'' => R (.error e') s'') s')
        { s with heap := h₁, toks := s.toks + binds.length })
    (hco : scope.isCoroutine = false := by rfl) (hgen : scope.isGenerator = false := by rfl) (hk : scope.kind = .function := by rfl)
    (hcell : ∀ x ∈ scope.names, x.2 ≠ .cell := by decide) :
    codeK (model prog w) A (.call (.ref a) args) R s :=
  callDefK hroom ho hdata hlim hcd rfl hbind hcell hloc (fun h₁ hns hkeep => h h₁ ⟨hns, hkeep, Nat.le_refl _⟩) hco hgen hk
/-- a loop over a made list of ints whose turns keep nothing and raise nothing, in the contexts of the claim -/
theorem loop_intsK {env : Env} {h₀ : Heap} {x : Str} {px : Pos} {body : List Stmt} {R : Result → Shared → Prop} {l : Addr} {vs : List Value} {ns : List Int} {nn : Nat} {m₀ : Str → Option Value} {news : List (Addr × Obj)} {E : Value → Shared → Prop}
    (hh : A.handled = none) (hx : env.kindOf x = some .local) (hp : (env.scope.kind == .class || (env.scope.kind == .module && env.locals != env.globals)) = false)
    (F : Fr h₀ env.locals s.heap m₀) (N : News h₀ env.locals s.heap news) (hm : (l, W.listOf vs.toArray nn) ∈ news) (hi : IntsAre vs ns)
    (turn : ∀ (n : Int) (t : Tok) (m₁ : Str → Option Value) (h : Heap) (tk : Nat) (own : List (Addr × Obj)), n ∈ ns → Fr h₀ env.locals h (fun y => if y = x then some (.int n t) else m₁ y) → News h₀ env.locals h ((l, W.listOf vs.toArray nn) :: own) →
      wpK (model prog w) A (execs body env) (LoopPost h₀ env.locals ((l, W.listOf vs.toArray nn) :: own) { s with heap := h, toks := tk } (fun f s' => R (.ok f) s')) (fun _ _ => False) { s with heap := h, toks := tk })
    (done : ∀ (m₁ : Str → Option Value) (h : Heap) (tk : Nat), Fr h₀ env.locals h m₁ → News h₀ env.locals h [] → R (.ok .next) { s with heap := h, toks := tk }) :
    wpAny (model prog w) A (pyIter (.ref l)) (fun it s₂ => codeK (model prog w) A (.forLoop (.Name x px) it body [] env) R s₂) E s := by
  have hol : s.heap.get? l = some (W.listOf vs.toArray nn) := (N _ hm).1
  have hls : s.heap.IsList l vs.toArray := ⟨_, hol, rfl, nn, rfl⟩
  have hne : l ≠ s.heap.objs.size := Nat.ne_of_lt (Heap.lt_size hol)
  refine wpAny_pyIter_list hls ?_
  have Wk := Walks.list (prog := prog) (w := w) hh s.heap.objs.size l hne vs.toArray
  have hlen : vs.toArray.size = vs.length := by simp
  rw [hlen] at Wk
  have hLI : env.locals ≠ s.heap.objs.size := fun e => absurd F.ns.lt (e ▸ Nat.lt_irrefl _)
  have hIn : h₀.get? s.heap.objs.size = none := next_is_new F
  refine forLoopK (fun k s' => ∃ h' tk m' i, s' = { s with heap := h', toks := tk } ∧ (h'.IsListIter s.heap.objs.size l i ∧ h'.IsList l vs.toArray) ∧ Fr h₀ env.locals h' m' ∧ News h₀ env.locals h' [(l, W.listOf vs.toArray nn)] ∧ i ≤ vs.length ∧ k = vs.length + 1 - i) ?_ (vs.length + 1)
    ⟨_, _, m₀, 0, rfl, ⟨⟨_, Heap.get?_push_size _ rfl, rfl, rfl⟩, hls.at fun o e => Heap.get?_push_of_some _ e⟩, F.push _, fun p hp => ?_, Nat.zero_le _, rfl⟩
  · rintro k s' ⟨h', tk, m', i, rfl, st, F', N', hile, rfl⟩
    have next : ∀ h₁ : Heap, (∀ b o, b ∉ [s.heap.objs.size] → h'.get? b = some o → h₁.get? b = some o) → Fr h₀ env.locals h₁ m' ∧ News h₀ env.locals h₁ [(l, W.listOf vs.toArray nn)] := fun h₁ hk₁ =>
      ⟨⟨F'.ns.at' fun o e => hk₁ _ o (fun q => hLI (List.mem_singleton.mp q)) e, fun b o e => hk₁ b o (fun q => by rw [List.mem_singleton.mp q] at e; rw [hIn] at e; cases e) (F'.keep b o e), F'.above⟩,
        fun p hp => ⟨hk₁ _ _ (fun q => by rw [List.mem_singleton.mp hp] at q; exact hne (List.mem_singleton.mp q)) (N' p hp).1, (N' p hp).2⟩⟩
    by_cases hlt : i < vs.length
    · refine Wk.item i _ _ _ hlt st fun v h₁ tk₁ hP st₁ hk₁ => ?_
      obtain ⟨F₁, N₁⟩ := next h₁ hk₁
      refine letGo_listiter st₁.1 ?_
      refine wpAny_assign_Name (wpAny_storeName_local hx F₁.ns (fun h₂ hn₂ hs₂ => ?_) hp)
      have F₂ := F₁.set hn₂ hs₂
      have st₂ := Wk.frame _ _ _ st₁ fun b hb o e => (hs₂.2 b fun q => by
        rcases List.mem_cons.mp hb with hb | hb
        · exact hLI (q.symm.trans hb)
        · exact (N _ hm).2.1 ((List.mem_singleton.mp hb).symm.trans q)).trans e
      obtain ⟨oI, hoI, hcI, hdI⟩ := id st₂.1
      have hi' : i < ns.length := by rw [← hi.length]; exact hlt
      obtain ⟨t, hx'⟩ := hi.get i (ns[i]'hi') (List.getElem?_eq_getElem hi')
      have hP' : vs[i]? = some v := by simpa using hP
      have ev : v = .int (ns[i]'hi') t := by rw [hx'] at hP'; exact (Option.some.inj hP').symm
      subst ev
      have N₂ : News h₀ env.locals h₂ ((l, W.listOf vs.toArray nn) :: [(s.heap.objs.size, oI)]) := fun p hp => by
        rcases List.mem_cons.mp hp with rfl | hp
        · exact (N₁.set hs₂) _ (.head _)
        · rw [List.mem_singleton.mp hp]; exact ⟨hoI, hLI.symm, hIn⟩
      refine (turn _ t m' h₂ _ [(s.heap.objs.size, oI)] (List.getElem_mem hi') F₂ N₂).mono (fun f s₃ h₃ => ?_) fun _ _ hf => hf.elim
      have up : (∃ h' tk' m' news', s₃ = { s with heap := h', toks := tk' } ∧ Fr h₀ env.locals h' m' ∧ News h₀ env.locals h' news' ∧ ∀ p ∈ (l, W.listOf vs.toArray nn) :: [(s.heap.objs.size, oI)], p ∈ news') →
          ∃ m, m < vs.length + 1 - i ∧ ∃ h' tk m' i', s₃ = { s with heap := h', toks := tk } ∧ (h'.IsListIter s.heap.objs.size l i' ∧ h'.IsList l vs.toArray) ∧ Fr h₀ env.locals h' m' ∧ News h₀ env.locals h' [(l, W.listOf vs.toArray nn)] ∧ i' ≤ vs.length ∧ m = vs.length + 1 - i' := by
        rintro ⟨g₃, tk₃, m₃, news₃, rfl, F₃, N₃, hs₃⟩
        have gI := (N₃ _ (hs₃ _ (.tail _ (.head _)))).1
        have gl := (N₃ _ (hs₃ _ (.head _))).1
        refine ⟨vs.length + 1 - (i + 1), by omega, g₃, tk₃, m₃, i + 1, rfl, ⟨⟨oI, gI, hcI, hdI⟩, ⟨W.listOf vs.toArray nn, gl, rfl, nn, rfl⟩⟩, F₃, fun p hp => by rw [List.mem_singleton.mp hp]; exact N₃ _ (hs₃ _ (.head _)), hlt, rfl⟩
      cases f with
      | ret v => exact h₃
      | brk => exact h₃
      | next => exact up h₃
      | cont => exact up h₃
    · have hin : i = vs.length := by omega
      subst hin
      refine Wk.done _ _ _ st fun h₁ tk₁ hk₁ => ?_
      obtain ⟨F₁, N₁⟩ := next h₁ hk₁
      exact done m' h₁ tk₁ F₁ fun _ hp => nomatch hp
  · rw [List.mem_singleton.mp hp]
    exact ⟨Heap.get?_push_of_some _ hol, (N _ hm).2⟩
end
end Mine
end
section
open PySem PySem.W PyProof.Rows PySem.Spec PySem.Calls
namespace Mine
section
variable {prog : Program} {w : World} {A₀ : Around} {E : Value → Shared → Prop} {s' : Shared} {h₀ G : Heap} {L a e t : Addr} {m : Str → Option Value} {name : Str} {scope : Scope} {cd : Value} {outer : List Env}
  {vs : List Value} {n : Str} {b₀ : Stmt} {suite : List Stmt} {pos np : Pos} {rest : List ExceptHandler} {Q : Flow → Shared → Prop} {news : List (Addr × Obj)}
  {p : Program} {loose : List Str} {mean : ExcName → Option Value} {mg mb : Str → Option Value}
/-- a ValueError caught in the law's own frame -/
theorem caughtL (K : Below A₀ h₀ outer h₀) (F : Fr h₀ L G m) (hsm : G.UpToSlots s'.heap) (R : RaisedS h₀ G (envOf name scope L a cd :: outer) e (.type "ValueError") t vs news s'.heap) (T : Top p loose mean mg mb h₀)
    (k : ∀ h' ot tk, Fr h₀ L h' (fun y => if y = n then some (.ref e) else m y) → ∀ news₂, News h₀ L h' news₂ → Got news₂ e t (.type "ValueError") vs → Caught vs ot → News h₀ L h' ((t, ot) :: news) →
      wpAny (model prog w) ((A₀.deeper (envOf name scope L a cd)).mark (some (.ref e))) (execs (b₀ :: suite) (envOf name scope L a cd))
        (fun f s₄ => wpAny (model prog w) (A₀.deeper (envOf name scope L a cd)) (do bindName (envOf name scope L a cd) n .none; unbindBehindTheSuite (envOf name scope L a cd) n pos) (fun _ s₅ => Q f s₅) E s₄)
        (AsSuiteRaised (model prog w) ((A₀.deeper (envOf name scope L a cd)).mark (some (.ref e))) (envOf name scope L a cd) n pos (notedBy (model prog w) ((A₀.deeper (envOf name scope L a cd)).mark (some (.ref e))) (envOf name scope L a cd) (cameBackBy (model prog w) (A₀.deeper (envOf name scope L a cd)) (envOf name scope L a cd) E)))
        { s' with heap := h', toks := tk })
    (h1 : ("ValueError" : Str) ∉ startupNames := by decide +kernel) (h2 : ("ValueError" : Str) ∉ loose := by decide +kernel) (h3 : ("ValueError" : Str) ∉ (recsOf p).map (·.name) := by decide +kernel) (h4 : ("ValueError" : Str) ∉ (litsOf p).map (·.1) := by decide +kernel) (h4c : ("ValueError" : Str) ∉ (clssOf p loose).map (·.name) := by decide +kernel)
    (hk : scope.kind = .function := by rfl) (hlo : (envOf name scope L a cd).kindOf n = some .local := by rfl) (hx : (envOf name scope L a cd).kindOf "ValueError" = some .globalImplicit := by rfl) :
    wpAny (model prog w) (A₀.deeper (envOf name scope L a cd)) (noteFrame (.ref e) (envOf name scope L a cd))
      (fun _ s₂ => wpAny (model prog w) (A₀.deeper (envOf name scope L a cd)) (setFlight (.ref e) none) (fun _ s₃ =>
        wpAny (model prog w) (A₀.deeper (envOf name scope L a cd)) (handleBy (.ref e) (envOf name scope L a cd) (.ExceptHandler (some (.Name "ValueError" np)) (some n) (b₀ :: suite) pos :: rest)) Q E s₃) E s₂) E s' := by
  refine caught_KB (T' := "ValueError") (X := "ValueError") K F hsm R.toK (topRead_of T) PyProof.Rows.Boot.«ValueError» PySem.F.isExc_ValueError PySem.F.notTuple_ValueError (by rw [isSubtype_type]; kernel_rfl) (fun h' news₂ tk F' N₂ G' N' => ?_) h1 h2 h3 h4 h4c (by decide) hk hlo hx (by decide)
  obtain ⟨oe, ot, ws, nt, m1, m2, c1, c2, c3, c4, c5⟩ := id G'
  refine k h' ot tk F' news₂ N₂ G' ⟨c4, nt, c5⟩ fun q hq => ?_
  rcases List.mem_cons.mp hq with rfl | hq
  · exact N₂ _ m2
  · exact N' q hq
end
end Mine
end
section
open PySem PySem.W PyProof.Rows PySem.Spec PySem.Calls PyProof.Rows.LCg
namespace Mine
/-- a made tuple as a comprehension's source -/
def SrcT (ax : Addr) (its : Array Value) (news : List (Addr × Obj)) : Prop := ∃ o, (ax, o) ∈ news ∧ o.cls = .type "tuple" ∧ ∃ n, o.data = .seq its n
theorem SrcT.tuple {h₀ h : Heap} {L ax : Addr} {its : Array Value} {news : List (Addr × Obj)} (x : SrcT ax its news) (N : News h₀ L h news) : h.IsTuple ax its := by
  obtain ⟨o, hm, c, n, d⟩ := x
  exact ⟨o, (N _ hm).1, c, n, d⟩
section
variable {prog : Program} {w : World} {A : Around} {E : Value → Shared → Prop} {s : Shared} {h₀ : Heap} {L : Addr} {m : Str → Option Value} {env : Env}
def CompSrcU (prog : Program) (w : World) (A : Around) (h₀ : Heap) (L : Addr) (m : Str → Option Value) (env : Env) (elt : Expr) (x : Str) (scope : Scope) (cl : List (Str × Addr)) (Fin : Shared → List Value → List (Addr × Obj) → Prop) (xv : Value) (s₁ : Shared) : Prop :=
  ∃ ax its news, xv = .ref ax ∧ A.handled = none ∧ Fr h₀ L s₁.heap m ∧ News h₀ L s₁.heap news ∧ SrcT ax its news ∧ its.size ≤ sizeLine ∧
    ∀ s₂ : Shared, (∃ h, s₂ = { s₁ with heap := h }) → CompRest prog w A h₀ L m env elt x scope cl s₂ (SrcT ax its) (fun i v => its[i]? = some v) (Fin s₂) its.size 0 [] news
theorem CompSrcU.ledger {elt : Expr} {x : Str} {scope : Scope} {cl : List (Str × Addr)} {Fin : Shared → List Value → List (Addr × Obj) → Prop} {ax : Addr} {its : Array Value} {k : Nat} {dd : Option Addr} {sl : Array (Option Value)} {news : List (Addr × Obj)} {s₁ : Shared}
    (hh : A.handled = none) (F : Fr h₀ L s₁.heap m) (N : News h₀ L s₁.heap news) (hm : (ax, ({ cls := .type "tuple", dict := dd, data := .seq its k, slots := sl } : Obj)) ∈ news) (hsz : its.size ≤ sizeLine)
    (h : ∀ g, CompRest prog w A h₀ L m env elt x scope cl { s₁ with heap := g } (SrcT ax its) (fun i v => its[i]? = some v) (Fin { s₁ with heap := g }) its.size 0 [] news) :
    CompSrcU prog w A h₀ L m env elt x scope cl Fin (.ref ax) s₁ := ⟨ax, its, news, rfl, hh, F, N, ⟨_, hm, rfl, _, rfl⟩, hsz, fun _ ⟨g, e⟩ => e ▸ h g⟩
theorem ListComp_T {elt iter : Expr} {x : Str} {px : Pos} {scope : Scope} {cl : List (Str × Addr)} {pos : Pos} {Q : Value → Shared → Prop} (F₀ : Fr h₀ L s.heap m)
    (hclos : closureFor scope env = pure cl) (hcell : ∀ y ∈ scope.names, y.2 ≠ .cell) (hkind : scope.kind = .function)
    (hnames : ∀ y ∈ scope.names, y.2 = .local → scope.names.lookup y.1 = some .local) (hx : scope.names.lookup x = some .local)
    (h : wpAny (model prog w) A (eval iter env) (CompSrcU prog w A h₀ L m env elt x scope cl (fun s₂ => FinE h₀ L m s₂ Q)) E s)
    (hs : ∀ x, foldedSetIterable iter env x = pure x := by intro _; rfl) :
    wpAny (model prog w) A (eval (.ListComp elt [⟨.Name x px, iter, [], 0⟩] scope pos) env) Q E s := by
  rw [eval_ListComp]
  refine wpAny_comprehension_free (use := none) rfl hs hclos hkind hnames (wpAny_mono h (fun xv s₁ h₁ => ?_) fun _ _ e => e)
  obtain ⟨ax, its, news, rfl, hh, F, N, S, hsz, R⟩ := h₁
  have hl := S.tuple N
  have hlt : ax < s₁.heap.objs.size := by obtain ⟨_, e, _⟩ := hl; exact Heap.lt_size e
  refine wpAny_pyIter_tuple hl ?_
  refine block_U (Walks.tuple hh s₁.heap.objs.size ax (Nat.ne_of_lt hlt) its) hsz (fun i h st => by obtain ⟨o, e, _⟩ := st.1; exact ⟨o, e⟩)
    (fun i h h' o nw st e e' k N' S' => ⟨by obtain ⟨o', q, r⟩ := st.1; rw [e] at q; cases q; exact ⟨o, e', r⟩, S'.tuple N'⟩) hcell hkind hx ⟨⟨_, Heap.get?_push_size _ rfl, rfl, rfl⟩, hl.at fun o e => Heap.get?_push_of_some _ e⟩ (fun b hb => ?_)
    (F.keeps fun _ _ e => Heap.get?_push_of_some _ e) (N.grown fun _ _ e => Heap.get?_push_of_some _ e) (Nat.ne_of_lt F.ns.lt) (next_is_new F) (fun p hp => Nat.ne_of_lt (Heap.lt_size (N p hp).1)) S (R _ ⟨_, rfl⟩) ?_
  · show b < (s₁.heap.push _).objs.size
    rw [Heap.size_push]
    rcases List.mem_cons.mp hb with rfl | hb
    · exact Nat.lt_succ_self _
    · rw [List.mem_singleton.mp hb]; exact Nat.lt_succ_of_lt hlt
  · intro D C h tk m' ys news' F' N' o1 hn hC₀ hD₀ hCL hDL hCD offC fin
    refine ⟨m', hn, fun h'' hs'' => fin D h'' tk (F'.change hs'' hCL hC₀) (fun p hp => ?_) o1⟩
    refine ⟨hs''.extBut _ _ ?_ (N' p hp).1, (N' p hp).2⟩
    rcases List.mem_cons.mp hp with rfl | hp
    · exact Ne.symm hCD
    · exact offC p hp
end
end Mine
end
section
open PySem PySem.W PyProof.Rows PySem.Spec PySem.Calls PySem.SeqAt
namespace Mine
section
variable {prog : Program} {w : World} {A : Around} {E : Value → Shared → Prop} {s : Shared} {h₀ : Heap} {L a b : Addr} {news : List (Addr × Obj)}
theorem eq_type (n : String) : EqAt A s (.type n) (.type n) true := by
  intro prog w E Q h
  unfold eqBool
  refine wpAny_holding ?_
  refine wpAny_ite_split (fun hab => ?_) (fun hab => ?_)
  · exact wpAny_bind (wpAny_rule (wpAny_pure h))
  · exact absurd (beq_self_eq_true _) hab
theorem types_ne {n : String} {m : Nat} {Q : Value → Shared → Prop} (N : News h₀ L s.heap news) (ha : (a, LCg.lst [.type n, .type n, .type n]) ∈ news) (hb : (b, W.listOf #[.type n, .type n, .type n] m) ∈ news) (hu : A.units < cLine)
    (h : Q (.bool false) s) : wpAny (model prog w) A (compareOp .NotEq (.ref a) (.ref b)) Q E s := by
  refine cmp_ofNotEq ?_
  refine RcNeAt.lists (items := #[.type n, .type n, .type n]) (items2 := #[.type n, .type n, .type n]) (e := fun _ => true) ⟨_, (N _ ha).1, rfl, _, rfl⟩ ⟨_, (N _ hb).1, rfl, _, rfl⟩ rfl hu (fun j h1 h2 => ?_) prog w E Q h
  have : j = 0 ∨ j = 1 ∨ j = 2 := by simp at h1; omega
  rcases this with rfl | rfl | rfl <;> exact eq_type n
end
end Mine
end
section
open PySem PySem.W PyProof.Rows PySem.Spec PySem.Calls PySem.SeqAt
namespace Mine
section
variable {prog : Program} {w : World} {A : Around} {E : Value → Shared → Prop} {s : Shared} {h₀ : Heap} {L : Addr} {news tl : List (Addr × Obj)} {Q : Value → Shared → Prop}
theorem tup1_ne {t a : Addr} {msg : PySem.Str} {k k7 : Tok} {dd : Option Addr} {sl : Array (Option Value)} {n : Nat} (N : News h₀ L s.heap news) (ha : (t, ({ cls := .type "tuple", dict := dd, data := .seq #[.str msg k] n, slots := sl } : Obj)) ∈ news) (hb : (a, tupOf #[.str msg k7]) ∈ news) (hu : A.units < cLine)
    (h : Q (.bool false) s) : wpAny (model prog w) A (compareOp .NotEq (.ref t) (.ref a)) Q E s := by
  refine cmp_ofNotEq ?_
  have hl : s.heap.IsTuple t #[.str msg k] := ⟨_, (N _ ha).1, rfl, _, rfl⟩
  have hc : s.heap.IsTuple a #[.str msg k7] := ⟨_, (N _ hb).1, rfl, _, rfl⟩
  refine RcNeAt.tuples (e := fun _ => true) hl hc hu (fun j h1 h2 => ?_) prog w E Q h
  have : j = 0 := by simp at h1; omega
  subst this
  have := EqAt.str_str (A := A.in1) (s := s) msg k msg k7; simpa using this
end
end Mine
end
section
namespace Mine
structure YmdAt (n y m d : Int) : Prop where
  i1 : 1 ≤ m
  i2 : m ≤ 12
  i3 : 1 ≤ d
  i4 : d ≤ dimI y m
  i5 : dbyI y + dbmI y m + d = n
theorem YmdAt.same {n y m d y' m' d' : Int} (H : YmdAt n y m d) (H' : YmdAt n y' m' d') : [y, m, d] = [y', m', d'] := lex_eq H.i1 H.i2 H.i3 H.i4 H'.i1 H'.i2 H'.i3 H'.i4 (by have a := H.i5; have b := H'.i5; unfold ordI; omega)
theorem one_len {vs : List Value} {ns : List Int} {v : Value} (h1 : IntsAre vs ns) (h : ¬ ((63 : Nat) : Int) < (ns.length : Int)) : vs.length + [v].length ≤ sizeLine := by
  rw [h1.length, sizeLine_eq]; simp only [List.length_cons, List.length_nil]; omega
theorem one_size {vs : List Value} {ns : List Int} {v : Value} (h1 : IntsAre vs ns) (h : ¬ ((63 : Nat) : Int) < (ns.length : Int)) : (vs ++ [v]).toArray.size ≤ sizeLine := by
  rw [List.size_toArray, List.length_append]; exact one_len h1 h
structure CaseAt (way : Int) (Y S T M X : List Nat) : Prop where
  is : CaseIs way Y S T M X
  asc : Ascii X
theorem CaseAt.due {way : Int} {Y S T M X : List Nat} (h : CaseAt way Y S T M X) : DueAt4 way Y S T M := h.is.rooms h.asc
theorem news_two {h₀ h : Heap} {L : Addr} {news : List (Addr × Obj)} {p q : Addr × Obj} (N : News h₀ L h (news ++ [p, q])) : News h₀ L h (q :: p :: news) := cb_drop N (by
  intro z hz
  rcases List.mem_cons.mp hz with rfl | hz
  · simp
  · rcases List.mem_cons.mp hz with rfl | hz
    · simp
    · exact List.mem_append_left _ hz)
section
variable {M : Model} {A : Around} {E : Value → Shared → Prop} {s : Shared} {env : Env}
theorem tryKA {body orelse : List Stmt} {h₀ : ExceptHandler} {hs : List ExceptHandler} {pos : Pos} {Q : Flow → Shared → Prop}
    (h : wpK M A (execs body env) (fun f s₁ => match f with | .next => wpK M A (execs orelse env) Q E s₁ | f => Q f s₁)
      (fun e s₁ => wpAny M A (noteFrame e env) (fun _ s₂ => wpAny M A (setFlight e none) (fun _ s₃ => wpAny M A (handleBy e env (h₀ :: hs)) Q E s₃) E s₂) E s₁) s) :
    wpK M A (exec (.Try body (h₀ :: hs) orelse [] pos) env) Q E s :=
  tryK (h.mono (fun _ _ x => x) fun _ _ x => wpAny_mono x (fun _ _ x => wpAny_mono x (fun _ _ x => wpK.of x) fun _ _ x => x) fun _ _ x => x)
theorem types1_ne {prog : Program} {w : World} {A : Around} {E : Value → Shared → Prop} {s : Shared} {h₀ : Heap} {L a b : Addr} {news : List (Addr × Obj)} {n : String} {Q : Value → Shared → Prop} (N : News h₀ L s.heap news) (ha : (a, LCg.lst [.type n]) ∈ news) (hb : (b, LCg.lst [.type n]) ∈ news) (hu : A.units < cLine)
    (h : Q (.bool false) s) : wpAny (model prog w) A (compareOp .NotEq (.ref a) (.ref b)) Q E s := by
  refine cmp_ofNotEq ?_
  refine PySem.SeqAt.RcNeAt.lists (items := #[.type n]) (items2 := #[.type n]) (e := fun _ => true) ⟨_, (N _ ha).1, rfl, _, rfl⟩ ⟨_, (N _ hb).1, rfl, _, rfl⟩ rfl hu (fun j h1 h2 => ?_) prog w E Q h
  have : j = 0 := by simp at h1; omega
  subst this
  exact eq_type n
theorem fnAt {K : Frag} {h₀ h : Heap} {L f : Addr} {m : Str → Option Value} {oc : Value} {od : Option Addr} {fd : FuncData} {osl : Array (Option Value)} (X : K.In h₀) (F : Fr h₀ L h m) (hl : K.lookup f = some ⟨oc, od, .func fd, osl⟩) : ∃ o fd, h.get? f = some o ∧ o.data = .func fd := ⟨_, _, (X.keeps F.keep) _ _ hl, rfl⟩
def FnOk (h : Heap) (a : Addr) : Prop := ∃ o fd, h.get? a = some o ∧ o.data = .func fd
def AndK (P Q : Prop) : Prop := P ∧ Q
theorem callFnArgsK2 {pos : Pos} {a : Addr} {e : Expr} {rest : List Expr} {Q : Value → Shared → Prop} (h : wpAny M A (spliced (backTo pos (starEach (e :: rest) env))) (fun vs s₁ => AndK (FnOk s₁.heap a) (wpK M A (call (.ref a) vs) Q E s₁)) E s)
    (he : starEach (e :: rest) env = (false, eval e env) :: starEach rest env := by rfl) (hp : (backTo pos (starEach rest env)).any (·.1) = false := by rfl) : wpK M A (callWith pos (.ref a) [] (backTo pos (starEach (e :: rest) env)) []) Q E s :=
  callFnArgsK (wpAny_mono h (fun _ _ x => x) fun _ _ x => x) he hp
theorem nilK {Q : Flow → Shared → Prop} (h : Q .next s) : wpK M A (execs [] env) Q E s := wpK.of (wpAny_execs_nil h)
end
section
variable {prog : Program} {w : World} {K : Frag} {p : Program} {loose : List Str} {mean : ExcName → Option Value} {mg mb : Str → Option Value} {f : Addr} {d u : Nat} {vs : List Value}
   {dp un : Nat} {gd : Option (List Code)} {cn : Str} {cs : Scope} {a : Addr} {ccd : Value} {cl : List (Str × Addr)} {outer : List Env} {A₀ : Around} {base h₀ : Heap} {L : Addr} {m : Str → Option Value} {news : List (Addr × Obj)} {s : Shared} {Q E : Value → Shared → Prop}
theorem useP {pre : List (Addr × Obj) → Prop} {C : Cont} (h : CtrP prog w K p loose mean mg mb f d u vs pre C)
    (B : Below A₀ base outer h₀) (F : Fr h₀ L s.heap m) (X : K.In h₀) (N : News h₀ L s.heap news) (hp : pre news) (T : Top p loose mean mg mb h₀) (hk : cs.kind = .function)
    (hd : dp + d < recursionLimit) (hu : un + u < cLine) (h1 : C base h₀ L m news (envX cn cs L a ccd cl :: outer) s Q E) :
    wpAny (model prog w) (ktrTop dp un gd cn cs L a ccd cl outer) (call (.ref f) vs) Q E s :=
  h dp un gd cn cs a ccd cl outer A₀ base h₀ L m news s Q E B F X N hp T hk hd hu h1
theorem useKC {C : Cont} (h : CtrKC prog w K p loose mean mg mb f d u vs C)
    (B : Below A₀ base outer h₀) (F : Fr h₀ L s.heap m) (X : K.In h₀) (N : News h₀ L s.heap news) (T : Top p loose mean mg mb h₀) (hk : cs.kind = .function)
    (hd : dp + d < recursionLimit) (hu : un + u < cLine) (h1 : C base h₀ L m news (envX cn cs L a ccd cl :: outer) s Q E) :
    wpK (model prog w) (ktrTop dp un gd cn cs L a ccd cl outer) (call (.ref f) vs) Q E s :=
  h dp un gd cn cs a ccd cl outer A₀ base h₀ L m news s Q E B F X N T hk hd hu h1
end
set_option maxHeartbeats 0 in
theorem law04 : Challenge.rw_km0087_04.Holds := by
  w_on
  o_law
  refine holdsK (q := Mine.viewK) (loose := looseL) (Xt := fun s => xlAt Mine.viewK lvL s && recOk Challenge.rw_km0087_04.row.records s) (XP := XL Mine.viewK lvL) (Yf := Hook.obs hookL) (Ya := Hook.val hookL) (YP := Hook.says hookL) (N := 3284) ?hl (Hook.of hookL) (Hook.keeps hookL) (fun s e => xl_of s (Bool.and_eq_true_iff.mp e).1) XL.keeps (by rfl) (by rfl) (by rfl) (fun s e => recFacts_of (Bool.and_eq_true_iff.mp e).2) (by rfl) (by first | assumption | decide +kernel) (by decide +kernel) (by decide +kernel) (by decide +kernel) (by decide +kernel) ⟨rfl, rfl, rfl, rfl, rfl, by decide +kernel⟩ ?hw ?hc
  case hl => exact leftL
  case hw => w_witness2
  (rename_i said9; clear said9)
  delta hookL looseL lvL asL
  w_top off
  k_with_none
  (k_with "subscriptTail BinOp" => (k_here; k_dflt (refine kba_turn (value' := PySem.Expr.Name (PySem.Str.ofString "_") ⟨0, 0, 0, 0⟩) (fun _ => rfl) ?_)))
  (k_with "binaryOp Add ref ref" => (k_here; k_dflt (refine' add_script ?wq7F ?wq7N ?wq7a ?wq7b ?wq7z ?_; (case wq7F => k_asm); (case wq7N => k_asm); (case wq7a => assumption); (case wq7b => (repeat (first | (exact List.mem_cons_self) | (with_reducible assumption) | (with_reducible refine List.mem_cons_of_mem _ ?_) | (with_reducible refine List.mem_append_left _ ?_)))); (case wq7z => exact one_len (by assumption) (by omega))); intro l' h' F' N' l1; (try k_lt l1); (try k_sweep)))
  (k_with "subscriptTail Name Slice ref ref" => (k_here; (with_reducible show wpAny _ _ (subscriptTail _ (PySem.Expr.Slice none (some _) none _) (Value.ref _) (Value.ref _)) _ _ _); k_dflt (refine' kmk_slice_ints ?wq7F ?wq7N ?wq7l ?wq7p ?wq7q ?wq7i ?wq7m ?wq7c ?_ ?wq7s ?wq7t ?wq7z; (case wq7F => k_asm); (case wq7N => k_asm); (case wq7l => exact ⟨_, (News.get (by k_asm) (by (repeat (first | (exact List.mem_cons_self) | (with_reducible assumption) | (with_reducible refine List.mem_cons_of_mem _ ?_) | (with_reducible refine List.mem_append_left _ ?_))))), rfl, _, rfl⟩); (case wq7p => kmk_part); (case wq7q => kmk_part); (case wq7i => exact IntsAre.append (by assumption) (IntsAre.cons _ _ .nil)); (case wq7m => exact kmk_upto (IntsAre.append (by assumption) (IntsAre.cons _ _ .nil)) (by omega)); (case wq7c => exact rfl); (case wq7s => with_unfolding_all rfl); (case wq7t => kmk_pure); (case wq7z => exact one_size (by assumption) (by omega))); intro D' ws' h' F' N' l1 hI' hC' hL'; (try k_lt l1); (try k_sweep)))
  (k_with "compareOp NotEq ref ref" => (k_here; (with_reducible show wpAny _ _ (compareOp CmpOp.NotEq (Value.ref _) (Value.ref _)) _ _ _); k_dflt (refine' types_ne ?wq7zN ?wq7za ?wq7zb ?wq7zu ?_; (case wq7zN => k_asm); (case wq7za => (repeat (first | (with_reducible exact List.mem_cons_self) | (with_reducible refine List.mem_cons_of_mem _ ?_)))); (case wq7zb => (repeat (first | (with_reducible exact List.mem_cons_self) | (with_reducible refine List.mem_cons_of_mem _ ?_)))); (case wq7zu => ke_room))))
  (k_with "compareOp NotEq ref ref" => (k_here; (with_reducible show wpAny _ _ (compareOp CmpOp.NotEq (Value.ref _) (Value.ref _)) _ _ _); k_dflt (refine' tup1_ne ?wq7zN ?wq7za ?wq7zb ?wq7zu ?_; (case wq7zN => k_asm); (case wq7za => (repeat (first | (with_reducible exact List.mem_cons_self) | (with_reducible refine List.mem_cons_of_mem _ ?_)))); (case wq7zb => (repeat (first | (with_reducible exact List.mem_cons_self) | (with_reducible refine List.mem_cons_of_mem _ ?_)))); (case wq7zu => ke_room))))
  (k_with "CompEnd" => (k_dflt (refine LCg.CompEnd.intro (by assumption) (by assumption) _ (fun _ h => h) (by first | assumption | (simp only [LCg.Off3, and_true]; assumption)) (by lcg_src) ?_)))
  (k_with "eval ListComp" => (k_here; k_dflt (refine ListComp_T (F₀ := by k_asm) (by rfl) (by decide) (by rfl) (by decide) (by rfl) ?_); walk1; (try dsimp only); k_dflt (refine CompSrcU.ledger (by rfl) (by k_asm) (by k_asm) (by (repeat (first | (with_reducible exact List.mem_cons_self) | (with_reducible refine List.mem_cons_of_mem _ ?_)))) (by (rw [sizeLine_eq]; exact Nat.le_of_ble_eq_true rfl)) ?_); intro g'; lcg_lit))
  (k_with "CompEnd" => (k_dflt (refine LCg.CompEnd.intro (by with_reducible assumption) (by with_reducible assumption) _ (fun _ h => h) (by (simp only [LCg.Off3, and_true]); with_reducible assumption) (by exact ⟨_, (by (repeat (first | (with_reducible exact List.mem_cons_self) | (with_reducible refine List.mem_cons_of_mem _ ?_)))), rfl, _, rfl⟩) ?_)))
  (k_with "compareOp NotEq ref ref" => (k_here; (with_reducible show wpAny _ _ (compareOp CmpOp.NotEq (Value.ref _) (Value.ref _)) _ _ _); k_dflt (refine' types1_ne ?wq7zN ?wq7za ?wq7zb ?wq7zu ?_; (case wq7zN => k_asm); (case wq7za => (repeat (first | (with_reducible exact List.mem_cons_self) | (with_reducible refine List.mem_cons_of_mem _ ?_)))); (case wq7zb => (repeat (first | (with_reducible exact List.mem_cons_self) | (with_reducible refine List.mem_cons_of_mem _ ?_)))); (case wq7zu => ke_room))))
  (k_with "call ref" => (k_dflt ( (refine' use ?wq7c ?wq7k1 ?wq7k2 ?wq7k3 ?wq7k4 ?wq7k5 ?wq7k6 ?wq7k7 ?wq7k8 ?_); (case wq7k2 => k_asm); (case wq7k1 => k_asm); (case wq7k3 => k_asm); (case wq7k4 => k_asm); (case wq7k5 => k_asm); (case wq7c => first  | exact c_case _ _ _ _ _ _); (case wq7k6 => first | exact rfl | assumption); (case wq7k7 => ktr_room); (case wq7k8 => ktr_units); (intro v9 new9 h9 tk9 P9 fr9 F9 N9; k_dflt (obtain ⟨way9, Y9, S9, T9, M9, X9, y9, s9, t9, m9, x9, ty9, ts9, tt9, tm9, tx9, u9, n9, l9, d9, hC9, hA9, e1, e2, e3, e4, e5, ev9, en9⟩ := P9; have hK9 := CaseAt.mk hC9 hA9; clear hC9 hA9 fr9; subst e1 e2 e3 e4 e5 ev9 en9; replace N9 := news_two N9); (try dsimp only); (try k_fold)))))
  (k_with "call ref" => (k_here; (with_reducible rename CaseAt _ _ _ _ _ _ => hK9); k_dflt (refine' useP (c_due _ _ _ _ _ _ _ _ _ _ _ _ _ _ _ _ hK9.due) ?wq7k1 ?wq7k2 ?wq7k3 ?wq7k4 ?wq7kp ?wq7k5 ?wq7k6 ?wq7k7 ?wq7k8 ?_; (case wq7k2 => k_asm); (case wq7k1 => k_asm); (case wq7k3 => k_asm); (case wq7k4 => k_asm); (case wq7kp => ((try dsimp only); (repeat (first | (with_reducible exact List.mem_cons_self) | (with_reducible refine List.mem_cons_of_mem _ ?_))))); (case wq7k5 => k_asm); (case wq7k6 => first | exact rfl | assumption); (case wq7k7 => ktr_room); (case wq7k8 => ktr_units)); (intro l8 o8 h8 tk8 P8 F8 N8 l1; (try dsimp only); (try k_fold); (try k_lt l1))))
  k_fill
  intro w s₀ s₁ mg mb G Y fa o pm cd doc dV kV ho hd hcd hD hmg hg args vals as hpre hlay hrd hwl hlo
  have KX := kIn_of Y
  have X := (Ground.X G).1
  have V := (Ground.X G).2
  try w_nolog (first | (have GL := glob_more (Ground.glob G (by decide +kernel)) V))
  refine Ground.open G ?_
  intro T B D TE TW
  try (refine guard_noD D (by decide +kernel) ?_; clear D)
  obtain ⟨_, _, M⟩ := bmod_of_top T
  have TA := at_of_top T
  try (obtain ⟨_, _, he, B0⟩ := based_of_top T rfl hmg ho hd; have he' : cd = _ := he; subst he'; clear he)
  clear hmg
  wrow_args hpre hlay hrd hwl hlo
  refine enter_callK ?_
  w_top on
  refine codeK.mono ?_ (fun _ _ g => GoodW.toG g)
  have K0 := below_caller (Top.heap T)
  have he := Dflts.none hD rfl
  subst he
  refine call_fullK (by decide) ho hd (Top.nolimit T) hcd (BindsTo.of_eq rfl) (locs rfl) fun h₁ F => ?_
  w_binds F
  have N0 := (News.nil : News _ _ _ []).at F
  clear hd TA
  k_drop
  refine execsK (forK ?_)
  k_steps
  refine loop_intsK (nn := 0) rfl (by with_unfolding_all rfl) (by with_unfolding_all rfl) (by k_asm) (by k_asm) List.mem_cons_self (by assumption) ?_ ?_
  · intro n t m₁ h tk own hn F N
    refine execsA ?_
    k_steps
    all_goals (try dsimp only)
    refine execsA ?_
    k_steps
    all_goals (try dsimp only)
    rename IsDue4 _ _ _ _ _ _ => P8
    rename CaseAt _ _ _ _ _ _ => hK
    obtain ⟨R, hR, ho⟩ := P8
    refine execsK (tryKA ?_)
    refine execsK (assignK (callEvalK ?_))
    k_steps
    all_goals (try dsimp only)
    refine callFnArgsK2 ?_
    k_steps
    refine ⟨?_, ?_⟩
    · refine' fnAt ?X ?F ?l; (case X => k_asm); (case F => k_asm); (case l => k_is)
    rcases R with t | ⟨y, m, d⟩ | n
    · refine' useKC (told hK.is hK.asc hR _) ?k1 ?k2 ?k3 ?k4 ?k5 ?k6 ?k7 ?k8 ?_; (case k2 => k_asm); (case k1 => k_asm); (case k3 => k_asm); (case k4 => k_asm); (case k5 => k_asm); (case k6 => first | exact rfl | assumption); (case k7 => ktr_room); (case k8 => ktr_units)
      intro e9 t9 vs9 h9 G9 tk9 hv9 R9 F9 U9
      obtain ⟨k9, rfl⟩ := hv9
      obtain ⟨k8, rfl⟩ := ho
      dsimp only
      refine' caughtL ?zK ?zF ?zU ?zR ?zT ?_ ?q1 ?q2 ?q3 ?q4 ?q5; (case zK => assumption); (case zF => exact F9); (case zU => exact U9); (case zR => exact R9); (case zT => k_asm); (case q1 => decide +kernel); (case q2 => decide +kernel); (case q3 => decide +kernel); (case q4 => decide +kernel); (case q5 => decide +kernel)
      clear F9 U9 R9
      intro h5 ot5 tk5 F5 n5 N5 G5 C5 N6
      obtain ⟨cls5, dict5, data5, slots5⟩ := ot5
      obtain ⟨e5, n5', e6⟩ := C5
      dsimp only at e5 e6
      subst e5 e6
      try k_fold
      k_steps
      all_goals (try dsimp only)
      refine wpK.of ?_
      k_steps
      all_goals (try k_data)
      all_goals first
      | (refine' LoopPost.next ?zF ?zN ?zS; (case zF => k_asm); (case zN => k_asm); (case zS => kcf_all))
      | (exfalso; exact absurd (hy5.same hy6) (by assumption))
    · refine' useKC (told hK.is hK.asc hR _) ?k1 ?k2 ?k3 ?k4 ?k5 ?k6 ?k7 ?k8 ?_; (case k2 => k_asm); (case k1 => k_asm); (case k3 => k_asm); (case k4 => k_asm); (case k5 => k_asm); (case k6 => first | exact rfl | assumption); (case k7 => ktr_room); (case k8 => ktr_units)
      intro l5 o5 h5 tk5 P5 F5 N5 l6
      obtain ⟨ty5, tm5, td5, k5, rfl⟩ := P5
      obtain ⟨ty6, tm6, td6, k6, rfl⟩ := ho
      try dsimp only
      try k_fold
      k_steps
      all_goals (try dsimp only)
      refine nilK ?_
      try dsimp only
      refine nilK ?_
      try dsimp only
      refine wpK.of ?_
      k_steps
      all_goals (try k_data)
      all_goals first
      | (refine' LoopPost.next ?zF ?zN ?zS; (case zF => k_asm); (case zN => k_asm); (case zS => kcf_all))
      | (exfalso; exact absurd (hy5.same hy6) (by assumption))
    · refine' useKC (told hK.is hK.asc hR _) ?k1 ?k2 ?k3 ?k4 ?k5 ?k6 ?k7 ?k8 ?_; (case k2 => k_asm); (case k1 => k_asm); (case k3 => k_asm); (case k4 => k_asm); (case k5 => k_asm); (case k6 => first | exact rfl | assumption); (case k7 => ktr_room); (case k8 => ktr_units)
      intro l5 o5 h5 tk5 P5 F5 N5 l6
      obtain ⟨y5, m5, d5, ty5, tm5, td5, k5, rfl, i1, i2, i3, i4, i5⟩ := P5
      obtain ⟨y6, m6, d6, ty6, tm6, td6, k6, rfl, j1, j2, j3, j4, j5⟩ := ho
      have hy5 := YmdAt.mk i1 i2 i3 i4 i5
      have hy6 := YmdAt.mk j1 j2 j3 j4 j5
      clear i1 i2 i3 i4 i5 j1 j2 j3 j4 j5
      try dsimp only
      try k_fold
      k_steps
      all_goals (try dsimp only)
      refine nilK ?_
      try dsimp only
      refine nilK ?_
      try dsimp only
      refine wpK.of ?_
      k_steps
      all_goals (try k_data)
      all_goals first
      | (refine' LoopPost.next ?zF ?zN ?zS; (case zF => k_asm); (case zN => k_asm); (case zS => kcf_all))
      | (exfalso; exact absurd (hy5.same hy6) (by assumption))
  · intro m₁ h tk F N
    dsimp only
    refine wpK.of ?_
    k_steps
end Mine
end
theorem PySem.Challenge.cw_km0087_04_holds : PySem.Challenge.rw_km0087_04.Holds := by
  exact Mine.law04
