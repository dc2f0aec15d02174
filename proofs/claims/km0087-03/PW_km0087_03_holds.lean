import PyProof.Rows.All
import Wide.All
import OpenK.AllK
import Wide.FinOn
import Lean
import PySem.Challenge.RW_km0087_03
open PySem PySem.W PyProof.Rows
set_option Elab.async false
set_option maxRecDepth 100000
local macro_rules | `(tactic| walk_at $s:str) => `(tactic| k_extra $s)
section
namespace Mine
noncomputable abbrev progL : Program := Challenge.rw_km0087_03.row.prog
def pick (l : List Stmt) (is : List Nat) : List Stmt := is.filterMap (l[·]?)
noncomputable def viewK0 : Program := { progL with main := { progL.main with body := pick progL.main.body [0, 2, 3, 4, 5, 9, 10, 11, 12, 13, 14, 15, 16, 17, 18, 19, 20, 21, 22, 23, 25, 26, 27, 28, 29, 30] } }
noncomputable def viewK : Program := by
  refine' (?f : (x : Program) → x = viewK0 → Program) _ ?h
  case f => exact fun x _ => x
  case h =>
    unfold viewK0
    dsimp only [progL, OpenLaw.row, OpenLaw.prog, Challenge.rw_km0087_03, Challenge.pw_km0087_03, pick, List.filterMap, List.getElem?_cons_succ, List.getElem?_cons_zero]
    exact rfl
noncomputable def fnL (i : Nat) : Arguments × List Stmt × Scope := match progL.main.body[i]? with
  | some (.FunctionDef _ p b _ _ _ s _ _ _) => (p, b, s)
  | _ => default
set_option maxHeartbeats 0 in
noncomputable def heapK : Params → Frag := fun P => List.cons (nat_lit 3, ({ cls := PySem.Value.type "dict", data := PySem.Data.dict #[{ hash := PySem.PyData.keyHash P (PySem.Str.ofString "__name__"), key := PySem.Value.str (PySem.Str.ofString "__name__") 165, val := PySem.Value.str (PySem.Str.ofString "law_km0087_03") 565 }, { hash := PySem.PyData.keyHash P (PySem.Str.ofString "__doc__"), key := PySem.Value.str (PySem.Str.ofString "__doc__") 166, val := PySem.Value.none }, { hash := PySem.PyData.keyHash P (PySem.Str.ofString "__package__"), key := PySem.Value.str (PySem.Str.ofString "__package__") 167, val := PySem.Value.none }, { hash := PySem.PyData.keyHash P (PySem.Str.ofString "__loader__"), key := PySem.Value.str (PySem.Str.ofString "__loader__") 168, val := PySem.Value.builtin "__main__.__loader__#opaque" }, { hash := PySem.PyData.keyHash P (PySem.Str.ofString "__spec__"), key := PySem.Value.str (PySem.Str.ofString "__spec__") 169, val := PySem.Value.none }, { hash := PySem.PyData.keyHash P (PySem.Str.ofString "__annotations__"), key := PySem.Value.str (PySem.Str.ofString "__annotations__") 170, val := PySem.Value.ref 6 }, { hash := PySem.PyData.keyHash P (PySem.Str.ofString "__builtins__"), key := PySem.Value.str (PySem.Str.ofString "__builtins__") 171, val := PySem.Value.ref 4 }, { hash := PySem.PyData.keyHash P (PySem.Str.ofString "__file__"), key := PySem.Value.str (PySem.Str.ofString "__file__") 173, val := PySem.Value.str (PySem.Str.ofString "/claim/cut.py") 172 }, { hash := PySem.PyData.keyHash P (PySem.Str.ofString "__cached__"), key := PySem.Value.str (PySem.Str.ofString "__cached__") 174, val := PySem.Value.none }, { hash := PySem.PyData.keyHash P (PySem.Str.ofString "index"), key := PySem.Value.str (PySem.Str.ofString "index") 321, val := PySem.Value.builtin "_operator.index" }, { hash := PySem.PyData.keyHash P (PySem.Str.ofString "MINYEAR"), key := PySem.Value.str (PySem.Str.ofString "MINYEAR") 331, val := PySem.Value.int 1 330 }, { hash := PySem.PyData.keyHash P (PySem.Str.ofString "MAXYEAR"), key := PySem.Value.str (PySem.Str.ofString "MAXYEAR") 333, val := PySem.Value.int 9999 332 }, { hash := PySem.PyData.keyHash P (PySem.Str.ofString "_DAYS_IN_MONTH"), key := PySem.Value.str (PySem.Str.ofString "_DAYS_IN_MONTH") 348, val := PySem.Value.ref 33 }, { hash := PySem.PyData.keyHash P (PySem.Str.ofString "_DAYS_BEFORE_MONTH"), key := PySem.Value.str (PySem.Str.ofString "_DAYS_BEFORE_MONTH") 351, val := PySem.Value.ref 34 }, { hash := PySem.PyData.keyHash P (PySem.Str.ofString "_is_leap"), key := PySem.Value.str (PySem.Str.ofString "_is_leap") 397, val := PySem.Value.ref 46 }, { hash := PySem.PyData.keyHash P (PySem.Str.ofString "_days_before_year"), key := PySem.Value.str (PySem.Str.ofString "_days_before_year") 405, val := PySem.Value.ref 53 }, { hash := PySem.PyData.keyHash P (PySem.Str.ofString "_days_in_month"), key := PySem.Value.str (PySem.Str.ofString "_days_in_month") 413, val := PySem.Value.ref 60 }, { hash := PySem.PyData.keyHash P (PySem.Str.ofString "_days_before_month"), key := PySem.Value.str (PySem.Str.ofString "_days_before_month") 421, val := PySem.Value.ref 67 }, { hash := PySem.PyData.keyHash P (PySem.Str.ofString "_ymd2ord"), key := PySem.Value.str (PySem.Str.ofString "_ymd2ord") 431, val := PySem.Value.ref 74 }, { hash := PySem.PyData.keyHash P (PySem.Str.ofString "_DI400Y"), key := PySem.Value.str (PySem.Str.ofString "_DI400Y") 448, val := PySem.Value.int 146097 447 }, { hash := PySem.PyData.keyHash P (PySem.Str.ofString "_DI100Y"), key := PySem.Value.str (PySem.Str.ofString "_DI100Y") 465, val := PySem.Value.int 36524 464 }, { hash := PySem.PyData.keyHash P (PySem.Str.ofString "_DI4Y"), key := PySem.Value.str (PySem.Str.ofString "_DI4Y") 482, val := PySem.Value.int 1461 481 }, { hash := PySem.PyData.keyHash P (PySem.Str.ofString "_ord2ymd"), key := PySem.Value.str (PySem.Str.ofString "_ord2ymd") 497, val := PySem.Value.ref 84 }, { hash := PySem.PyData.keyHash P (PySem.Str.ofString "_is_ascii_digit"), key := PySem.Value.str (PySem.Str.ofString "_is_ascii_digit") 504, val := PySem.Value.ref 91 }, { hash := PySem.PyData.keyHash P (PySem.Str.ofString "_find_isoformat_datetime_separator"), key := PySem.Value.str (PySem.Str.ofString "_find_isoformat_datetime_separator") 515, val := PySem.Value.ref 98 }, { hash := PySem.PyData.keyHash P (PySem.Str.ofString "_parse_isoformat_date"), key := PySem.Value.str (PySem.Str.ofString "_parse_isoformat_date") 529, val := PySem.Value.ref 105 }, { hash := PySem.PyData.keyHash P (PySem.Str.ofString "_isoweek_to_gregorian"), key := PySem.Value.str (PySem.Str.ofString "_isoweek_to_gregorian") 543, val := PySem.Value.ref 112 }, { hash := PySem.PyData.keyHash P (PySem.Str.ofString "_check_date_fields"), key := PySem.Value.str (PySem.Str.ofString "_check_date_fields") 553, val := PySem.Value.ref 119 }, { hash := PySem.PyData.keyHash P (PySem.Str.ofString "_isoweek1monday"), key := PySem.Value.str (PySem.Str.ofString "_isoweek1monday") 564, val := PySem.Value.ref 126 }, { hash := PySem.PyData.keyHash P (PySem.Str.ofString "_law_mark"), key := PySem.Value.str (PySem.Str.ofString "_law_mark") 575, val := PySem.Value.ref 133 }, { hash := PySem.PyData.keyHash P (PySem.Str.ofString "_law_ahead"), key := PySem.Value.str (PySem.Str.ofString "_law_ahead") 583, val := PySem.Value.ref 140 }, { hash := PySem.PyData.keyHash P (PySem.Str.ofString "_law_of_month"), key := PySem.Value.str (PySem.Str.ofString "_law_of_month") 594, val := PySem.Value.ref 147 }, { hash := PySem.PyData.keyHash P (PySem.Str.ofString "_law_of_week"), key := PySem.Value.str (PySem.Str.ofString "_law_of_week") 605, val := PySem.Value.ref 154 }, { hash := PySem.PyData.keyHash P (PySem.Str.ofString "_law_entry"), key := PySem.Value.str (PySem.Str.ofString "_law_entry") 621, val := PySem.Value.ref 161 }, { hash := PySem.PyData.keyHash P (PySem.Str.ofString "law"), key := PySem.Value.str (PySem.Str.ofString "law") 627, val := PySem.Value.ref 166 }] 39 } : Obj)) <|
  List.cons (nat_lit 33, ({ cls := PySem.Value.type "list", data := PySem.Data.seq #[PySem.Value.int (-1) 335, PySem.Value.int 31 336, PySem.Value.int 28 337, PySem.Value.int 31 338, PySem.Value.int 30 339, PySem.Value.int 31 340, PySem.Value.int 30 341, PySem.Value.int 31 342, PySem.Value.int 31 343, PySem.Value.int 30 344, PySem.Value.int 31 345, PySem.Value.int 30 346, PySem.Value.int 31 347] } : Obj)) <|
  List.cons (nat_lit 34, ({ cls := PySem.Value.type "list", data := PySem.Data.seq #[PySem.Value.int (-1) 350, PySem.Value.int 0 352, PySem.Value.int 31 356, PySem.Value.int 59 359, PySem.Value.int 90 362, PySem.Value.int 120 365, PySem.Value.int 151 368, PySem.Value.int 181 371, PySem.Value.int 212 374, PySem.Value.int 243 377, PySem.Value.int 273 380, PySem.Value.int 304 383, PySem.Value.int 334 386] 12 } : Obj)) <|
  List.cons (nat_lit 40, ({ cls := PySem.Value.type "tuple", data := PySem.Data.seq #[] } : Obj)) <|
  List.cons (nat_lit 42, ({ cls := PySem.Value.type "tuple", data := PySem.Data.seq #[PySem.Value.str (PySem.Str.ofString "year") 394] } : Obj)) <|
  List.cons (nat_lit 43, ({ cls := PySem.Value.type "tuple", data := PySem.Data.seq #[] } : Obj)) <|
  List.cons (nat_lit 45, ({ cls := PySem.Value.type "code", data := PySem.Data.fields #[PySem.Value.str (PySem.Str.ofString "_is_leap") 391, PySem.Value.str (PySem.Str.ofString "_is_leap") 392, PySem.Value.str (PySem.Str.ofString "/claim/cut.py") 393, PySem.Value.int 12 0, PySem.Value.int 1 0, PySem.Value.int 0 0, PySem.Value.int 0 0, PySem.Value.int 3 0, PySem.Value.ref 40, PySem.Value.bool true, PySem.Value.int 322 0, PySem.Value.ref 41, PySem.Value.none, PySem.Value.ref 42, PySem.Value.ref 43, PySem.Value.ref 44, PySem.Value.int 395 0, PySem.Value.int 12 0, PySem.Value.str (PySem.Str.ofString "/claim/cut.py") 396] } : Obj)) <|
  List.cons (nat_lit 46, ((by refine' (?f : (x : Obj) → x = ({ cls := PySem.Value.type "function", data := PySem.Data.func { name := PySem.Str.ofString "_is_leap", qualname := PySem.Str.ofString "_is_leap", params := (fnL 9).1, body := PySem.FuncBody.stmts (fnL 9).2.1, scope := (fnL 9).2.2, globals := 3, closure := [], defaults := PySem.Value.none, kwdefaults := PySem.Value.none, pyModule := PySem.Value.str (PySem.Str.ofString "cpy313._pydatetime") 328, code := PySem.Value.ref 45 } } : Obj) → Obj) _ ?h; (case f => exact fun x _ => x); (case h => (dsimp only [fnL, progL, OpenLaw.row, OpenLaw.prog, Challenge.rw_km0087_03, Challenge.pw_km0087_03, List.getElem?_cons_succ, List.getElem?_cons_zero]; exact rfl))) : Obj)) <|
  List.cons (nat_lit 47, ({ cls := PySem.Value.type "tuple", data := PySem.Data.seq #[] } : Obj)) <|
  List.cons (nat_lit 49, ({ cls := PySem.Value.type "tuple", data := PySem.Data.seq #[PySem.Value.str (PySem.Str.ofString "year") 401, PySem.Value.str (PySem.Str.ofString "y") 402] } : Obj)) <|
  List.cons (nat_lit 50, ({ cls := PySem.Value.type "tuple", data := PySem.Data.seq #[] } : Obj)) <|
  List.cons (nat_lit 52, ({ cls := PySem.Value.type "code", data := PySem.Data.fields #[PySem.Value.str (PySem.Str.ofString "_days_before_year") 398, PySem.Value.str (PySem.Str.ofString "_days_before_year") 399, PySem.Value.str (PySem.Str.ofString "/claim/cut.py") 400, PySem.Value.int 14 0, PySem.Value.int 1 0, PySem.Value.int 0 0, PySem.Value.int 0 0, PySem.Value.int 3 0, PySem.Value.ref 47, PySem.Value.bool true, PySem.Value.int 322 0, PySem.Value.ref 48, PySem.Value.none, PySem.Value.ref 49, PySem.Value.ref 50, PySem.Value.ref 51, PySem.Value.int 403 0, PySem.Value.int 14 0, PySem.Value.str (PySem.Str.ofString "/claim/cut.py") 404] } : Obj)) <|
  List.cons (nat_lit 53, ((by refine' (?f : (x : Obj) → x = ({ cls := PySem.Value.type "function", data := PySem.Data.func { name := PySem.Str.ofString "_days_before_year", qualname := PySem.Str.ofString "_days_before_year", params := (fnL 10).1, body := PySem.FuncBody.stmts (fnL 10).2.1, scope := (fnL 10).2.2, globals := 3, closure := [], defaults := PySem.Value.none, kwdefaults := PySem.Value.none, pyModule := PySem.Value.str (PySem.Str.ofString "cpy313._pydatetime") 328, code := PySem.Value.ref 52 } } : Obj) → Obj) _ ?h; (case f => exact fun x _ => x); (case h => (dsimp only [fnL, progL, OpenLaw.row, OpenLaw.prog, Challenge.rw_km0087_03, Challenge.pw_km0087_03, List.getElem?_cons_succ, List.getElem?_cons_zero]; exact rfl))) : Obj)) <|
  List.cons (nat_lit 54, ({ cls := PySem.Value.type "tuple", data := PySem.Data.seq #[] } : Obj)) <|
  List.cons (nat_lit 56, ({ cls := PySem.Value.type "tuple", data := PySem.Data.seq #[PySem.Value.str (PySem.Str.ofString "year") 409, PySem.Value.str (PySem.Str.ofString "month") 410] } : Obj)) <|
  List.cons (nat_lit 57, ({ cls := PySem.Value.type "tuple", data := PySem.Data.seq #[] } : Obj)) <|
  List.cons (nat_lit 59, ({ cls := PySem.Value.type "code", data := PySem.Data.fields #[PySem.Value.str (PySem.Str.ofString "_days_in_month") 406, PySem.Value.str (PySem.Str.ofString "_days_in_month") 407, PySem.Value.str (PySem.Str.ofString "/claim/cut.py") 408, PySem.Value.int 17 0, PySem.Value.int 2 0, PySem.Value.int 0 0, PySem.Value.int 0 0, PySem.Value.int 3 0, PySem.Value.ref 54, PySem.Value.bool true, PySem.Value.int 322 0, PySem.Value.ref 55, PySem.Value.none, PySem.Value.ref 56, PySem.Value.ref 57, PySem.Value.ref 58, PySem.Value.int 411 0, PySem.Value.int 17 0, PySem.Value.str (PySem.Str.ofString "/claim/cut.py") 412] } : Obj)) <|
  List.cons (nat_lit 60, ((by refine' (?f : (x : Obj) → x = ({ cls := PySem.Value.type "function", data := PySem.Data.func { name := PySem.Str.ofString "_days_in_month", qualname := PySem.Str.ofString "_days_in_month", params := (fnL 11).1, body := PySem.FuncBody.stmts (fnL 11).2.1, scope := (fnL 11).2.2, globals := 3, closure := [], defaults := PySem.Value.none, kwdefaults := PySem.Value.none, pyModule := PySem.Value.str (PySem.Str.ofString "cpy313._pydatetime") 328, code := PySem.Value.ref 59 } } : Obj) → Obj) _ ?h; (case f => exact fun x _ => x); (case h => (dsimp only [fnL, progL, OpenLaw.row, OpenLaw.prog, Challenge.rw_km0087_03, Challenge.pw_km0087_03, List.getElem?_cons_succ, List.getElem?_cons_zero]; exact rfl))) : Obj)) <|
  List.cons (nat_lit 61, ({ cls := PySem.Value.type "tuple", data := PySem.Data.seq #[] } : Obj)) <|
  List.cons (nat_lit 63, ({ cls := PySem.Value.type "tuple", data := PySem.Data.seq #[PySem.Value.str (PySem.Str.ofString "year") 417, PySem.Value.str (PySem.Str.ofString "month") 418] } : Obj)) <|
  List.cons (nat_lit 64, ({ cls := PySem.Value.type "tuple", data := PySem.Data.seq #[] } : Obj)) <|
  List.cons (nat_lit 66, ({ cls := PySem.Value.type "code", data := PySem.Data.fields #[PySem.Value.str (PySem.Str.ofString "_days_before_month") 414, PySem.Value.str (PySem.Str.ofString "_days_before_month") 415, PySem.Value.str (PySem.Str.ofString "/claim/cut.py") 416, PySem.Value.int 22 0, PySem.Value.int 2 0, PySem.Value.int 0 0, PySem.Value.int 0 0, PySem.Value.int 3 0, PySem.Value.ref 61, PySem.Value.bool true, PySem.Value.int 322 0, PySem.Value.ref 62, PySem.Value.none, PySem.Value.ref 63, PySem.Value.ref 64, PySem.Value.ref 65, PySem.Value.int 419 0, PySem.Value.int 22 0, PySem.Value.str (PySem.Str.ofString "/claim/cut.py") 420] } : Obj)) <|
  List.cons (nat_lit 67, ((by refine' (?f : (x : Obj) → x = ({ cls := PySem.Value.type "function", data := PySem.Data.func { name := PySem.Str.ofString "_days_before_month", qualname := PySem.Str.ofString "_days_before_month", params := (fnL 12).1, body := PySem.FuncBody.stmts (fnL 12).2.1, scope := (fnL 12).2.2, globals := 3, closure := [], defaults := PySem.Value.none, kwdefaults := PySem.Value.none, pyModule := PySem.Value.str (PySem.Str.ofString "cpy313._pydatetime") 328, code := PySem.Value.ref 66 } } : Obj) → Obj) _ ?h; (case f => exact fun x _ => x); (case h => (dsimp only [fnL, progL, OpenLaw.row, OpenLaw.prog, Challenge.rw_km0087_03, Challenge.pw_km0087_03, List.getElem?_cons_succ, List.getElem?_cons_zero]; exact rfl))) : Obj)) <|
  List.cons (nat_lit 68, ({ cls := PySem.Value.type "tuple", data := PySem.Data.seq #[] } : Obj)) <|
  List.cons (nat_lit 70, ({ cls := PySem.Value.type "tuple", data := PySem.Data.seq #[PySem.Value.str (PySem.Str.ofString "year") 425, PySem.Value.str (PySem.Str.ofString "month") 426, PySem.Value.str (PySem.Str.ofString "day") 427, PySem.Value.str (PySem.Str.ofString "dim") 428] } : Obj)) <|
  List.cons (nat_lit 71, ({ cls := PySem.Value.type "tuple", data := PySem.Data.seq #[] } : Obj)) <|
  List.cons (nat_lit 73, ({ cls := PySem.Value.type "code", data := PySem.Data.fields #[PySem.Value.str (PySem.Str.ofString "_ymd2ord") 422, PySem.Value.str (PySem.Str.ofString "_ymd2ord") 423, PySem.Value.str (PySem.Str.ofString "/claim/cut.py") 424, PySem.Value.int 25 0, PySem.Value.int 3 0, PySem.Value.int 0 0, PySem.Value.int 0 0, PySem.Value.int 3 0, PySem.Value.ref 68, PySem.Value.bool true, PySem.Value.int 322 0, PySem.Value.ref 69, PySem.Value.none, PySem.Value.ref 70, PySem.Value.ref 71, PySem.Value.ref 72, PySem.Value.int 429 0, PySem.Value.int 25 0, PySem.Value.str (PySem.Str.ofString "/claim/cut.py") 430] } : Obj)) <|
  List.cons (nat_lit 74, ((by refine' (?f : (x : Obj) → x = ({ cls := PySem.Value.type "function", data := PySem.Data.func { name := PySem.Str.ofString "_ymd2ord", qualname := PySem.Str.ofString "_ymd2ord", params := (fnL 13).1, body := PySem.FuncBody.stmts (fnL 13).2.1, scope := (fnL 13).2.2, globals := 3, closure := [], defaults := PySem.Value.none, kwdefaults := PySem.Value.none, pyModule := PySem.Value.str (PySem.Str.ofString "cpy313._pydatetime") 328, code := PySem.Value.ref 73 } } : Obj) → Obj) _ ?h; (case f => exact fun x _ => x); (case h => (dsimp only [fnL, progL, OpenLaw.row, OpenLaw.prog, Challenge.rw_km0087_03, Challenge.pw_km0087_03, List.getElem?_cons_succ, List.getElem?_cons_zero]; exact rfl))) : Obj)) <|
  List.cons (nat_lit 78, ({ cls := PySem.Value.type "tuple", data := PySem.Data.seq #[] } : Obj)) <|
  List.cons (nat_lit 80, ({ cls := PySem.Value.type "tuple", data := PySem.Data.seq #[PySem.Value.str (PySem.Str.ofString "n") 486, PySem.Value.str (PySem.Str.ofString "n400") 487, PySem.Value.str (PySem.Str.ofString "year") 488, PySem.Value.str (PySem.Str.ofString "n100") 489, PySem.Value.str (PySem.Str.ofString "n4") 490, PySem.Value.str (PySem.Str.ofString "n1") 491, PySem.Value.str (PySem.Str.ofString "leapyear") 492, PySem.Value.str (PySem.Str.ofString "month") 493, PySem.Value.str (PySem.Str.ofString "preceding") 494] } : Obj)) <|
  List.cons (nat_lit 81, ({ cls := PySem.Value.type "tuple", data := PySem.Data.seq #[] } : Obj)) <|
  List.cons (nat_lit 83, ({ cls := PySem.Value.type "code", data := PySem.Data.fields #[PySem.Value.str (PySem.Str.ofString "_ord2ymd") 483, PySem.Value.str (PySem.Str.ofString "_ord2ymd") 484, PySem.Value.str (PySem.Str.ofString "/claim/cut.py") 485, PySem.Value.int 33 0, PySem.Value.int 1 0, PySem.Value.int 0 0, PySem.Value.int 0 0, PySem.Value.int 3 0, PySem.Value.ref 78, PySem.Value.bool true, PySem.Value.int 322 0, PySem.Value.ref 79, PySem.Value.none, PySem.Value.ref 80, PySem.Value.ref 81, PySem.Value.ref 82, PySem.Value.int 495 0, PySem.Value.int 33 0, PySem.Value.str (PySem.Str.ofString "/claim/cut.py") 496] } : Obj)) <|
  List.cons (nat_lit 84, ((by refine' (?f : (x : Obj) → x = ({ cls := PySem.Value.type "function", data := PySem.Data.func { name := PySem.Str.ofString "_ord2ymd", qualname := PySem.Str.ofString "_ord2ymd", params := (fnL 17).1, body := PySem.FuncBody.stmts (fnL 17).2.1, scope := (fnL 17).2.2, globals := 3, closure := [], defaults := PySem.Value.none, kwdefaults := PySem.Value.none, pyModule := PySem.Value.str (PySem.Str.ofString "cpy313._pydatetime") 328, code := PySem.Value.ref 83 } } : Obj) → Obj) _ ?h; (case f => exact fun x _ => x); (case h => (dsimp only [fnL, progL, OpenLaw.row, OpenLaw.prog, Challenge.rw_km0087_03, Challenge.pw_km0087_03, List.getElem?_cons_succ, List.getElem?_cons_zero]; exact rfl))) : Obj)) <|
  List.cons (nat_lit 85, ({ cls := PySem.Value.type "tuple", data := PySem.Data.seq #[] } : Obj)) <|
  List.cons (nat_lit 87, ({ cls := PySem.Value.type "tuple", data := PySem.Data.seq #[PySem.Value.str (PySem.Str.ofString "c") 501] } : Obj)) <|
  List.cons (nat_lit 88, ({ cls := PySem.Value.type "tuple", data := PySem.Data.seq #[] } : Obj)) <|
  List.cons (nat_lit 90, ({ cls := PySem.Value.type "code", data := PySem.Data.fields #[PySem.Value.str (PySem.Str.ofString "_is_ascii_digit") 498, PySem.Value.str (PySem.Str.ofString "_is_ascii_digit") 499, PySem.Value.str (PySem.Str.ofString "/claim/cut.py") 500, PySem.Value.int 54 0, PySem.Value.int 1 0, PySem.Value.int 0 0, PySem.Value.int 0 0, PySem.Value.int 3 0, PySem.Value.ref 85, PySem.Value.bool true, PySem.Value.int 322 0, PySem.Value.ref 86, PySem.Value.none, PySem.Value.ref 87, PySem.Value.ref 88, PySem.Value.ref 89, PySem.Value.int 502 0, PySem.Value.int 54 0, PySem.Value.str (PySem.Str.ofString "/claim/cut.py") 503] } : Obj)) <|
  List.cons (nat_lit 91, ((by refine' (?f : (x : Obj) → x = ({ cls := PySem.Value.type "function", data := PySem.Data.func { name := PySem.Str.ofString "_is_ascii_digit", qualname := PySem.Str.ofString "_is_ascii_digit", params := (fnL 18).1, body := PySem.FuncBody.stmts (fnL 18).2.1, scope := (fnL 18).2.2, globals := 3, closure := [], defaults := PySem.Value.none, kwdefaults := PySem.Value.none, pyModule := PySem.Value.str (PySem.Str.ofString "cpy313._pydatetime") 328, code := PySem.Value.ref 90 } } : Obj) → Obj) _ ?h; (case f => exact fun x _ => x); (case h => (dsimp only [fnL, progL, OpenLaw.row, OpenLaw.prog, Challenge.rw_km0087_03, Challenge.pw_km0087_03, List.getElem?_cons_succ, List.getElem?_cons_zero]; exact rfl))) : Obj)) <|
  List.cons (nat_lit 92, ({ cls := PySem.Value.type "tuple", data := PySem.Data.seq #[] } : Obj)) <|
  List.cons (nat_lit 94, ({ cls := PySem.Value.type "tuple", data := PySem.Data.seq #[PySem.Value.str (PySem.Str.ofString "dtstr") 508, PySem.Value.str (PySem.Str.ofString "len_dtstr") 509, PySem.Value.str (PySem.Str.ofString "date_separator") 510, PySem.Value.str (PySem.Str.ofString "week_indicator") 511, PySem.Value.str (PySem.Str.ofString "idx") 512] } : Obj)) <|
  List.cons (nat_lit 95, ({ cls := PySem.Value.type "tuple", data := PySem.Data.seq #[] } : Obj)) <|
  List.cons (nat_lit 97, ({ cls := PySem.Value.type "code", data := PySem.Data.fields #[PySem.Value.str (PySem.Str.ofString "_find_isoformat_datetime_separator") 505, PySem.Value.str (PySem.Str.ofString "_find_isoformat_datetime_separator") 506, PySem.Value.str (PySem.Str.ofString "/claim/cut.py") 507, PySem.Value.int 56 0, PySem.Value.int 1 0, PySem.Value.int 0 0, PySem.Value.int 0 0, PySem.Value.int 3 0, PySem.Value.ref 92, PySem.Value.bool true, PySem.Value.int 322 0, PySem.Value.ref 93, PySem.Value.none, PySem.Value.ref 94, PySem.Value.ref 95, PySem.Value.ref 96, PySem.Value.int 513 0, PySem.Value.int 56 0, PySem.Value.str (PySem.Str.ofString "/claim/cut.py") 514] } : Obj)) <|
  List.cons (nat_lit 98, ((by refine' (?f : (x : Obj) → x = ({ cls := PySem.Value.type "function", data := PySem.Data.func { name := PySem.Str.ofString "_find_isoformat_datetime_separator", qualname := PySem.Str.ofString "_find_isoformat_datetime_separator", params := (fnL 19).1, body := PySem.FuncBody.stmts (fnL 19).2.1, scope := (fnL 19).2.2, globals := 3, closure := [], defaults := PySem.Value.none, kwdefaults := PySem.Value.none, pyModule := PySem.Value.str (PySem.Str.ofString "cpy313._pydatetime") 328, code := PySem.Value.ref 97 } } : Obj) → Obj) _ ?h; (case f => exact fun x _ => x); (case h => (dsimp only [fnL, progL, OpenLaw.row, OpenLaw.prog, Challenge.rw_km0087_03, Challenge.pw_km0087_03, List.getElem?_cons_succ, List.getElem?_cons_zero]; exact rfl))) : Obj)) <|
  List.cons (nat_lit 99, ({ cls := PySem.Value.type "tuple", data := PySem.Data.seq #[] } : Obj)) <|
  List.cons (nat_lit 101, ({ cls := PySem.Value.type "tuple", data := PySem.Data.seq #[PySem.Value.str (PySem.Str.ofString "dtstr") 519, PySem.Value.str (PySem.Str.ofString "year") 520, PySem.Value.str (PySem.Str.ofString "has_sep") 521, PySem.Value.str (PySem.Str.ofString "pos") 522, PySem.Value.str (PySem.Str.ofString "weekno") 523, PySem.Value.str (PySem.Str.ofString "dayno") 524, PySem.Value.str (PySem.Str.ofString "month") 525, PySem.Value.str (PySem.Str.ofString "day") 526] } : Obj)) <|
  List.cons (nat_lit 102, ({ cls := PySem.Value.type "tuple", data := PySem.Data.seq #[] } : Obj)) <|
  List.cons (nat_lit 104, ({ cls := PySem.Value.type "code", data := PySem.Data.fields #[PySem.Value.str (PySem.Str.ofString "_parse_isoformat_date") 516, PySem.Value.str (PySem.Str.ofString "_parse_isoformat_date") 517, PySem.Value.str (PySem.Str.ofString "/claim/cut.py") 518, PySem.Value.int 91 0, PySem.Value.int 1 0, PySem.Value.int 0 0, PySem.Value.int 0 0, PySem.Value.int 3 0, PySem.Value.ref 99, PySem.Value.bool true, PySem.Value.int 322 0, PySem.Value.ref 100, PySem.Value.none, PySem.Value.ref 101, PySem.Value.ref 102, PySem.Value.ref 103, PySem.Value.int 527 0, PySem.Value.int 91 0, PySem.Value.str (PySem.Str.ofString "/claim/cut.py") 528] } : Obj)) <|
  List.cons (nat_lit 105, ((by refine' (?f : (x : Obj) → x = ({ cls := PySem.Value.type "function", data := PySem.Data.func { name := PySem.Str.ofString "_parse_isoformat_date", qualname := PySem.Str.ofString "_parse_isoformat_date", params := (fnL 20).1, body := PySem.FuncBody.stmts (fnL 20).2.1, scope := (fnL 20).2.2, globals := 3, closure := [], defaults := PySem.Value.none, kwdefaults := PySem.Value.none, pyModule := PySem.Value.str (PySem.Str.ofString "cpy313._pydatetime") 328, code := PySem.Value.ref 104 } } : Obj) → Obj) _ ?h; (case f => exact fun x _ => x); (case h => (dsimp only [fnL, progL, OpenLaw.row, OpenLaw.prog, Challenge.rw_km0087_03, Challenge.pw_km0087_03, List.getElem?_cons_succ, List.getElem?_cons_zero]; exact rfl))) : Obj)) <|
  List.cons (nat_lit 106, ({ cls := PySem.Value.type "tuple", data := PySem.Data.seq #[] } : Obj)) <|
  List.cons (nat_lit 108, ({ cls := PySem.Value.type "tuple", data := PySem.Data.seq #[PySem.Value.str (PySem.Str.ofString "year") 533, PySem.Value.str (PySem.Str.ofString "week") 534, PySem.Value.str (PySem.Str.ofString "day") 535, PySem.Value.str (PySem.Str.ofString "out_of_range") 536, PySem.Value.str (PySem.Str.ofString "first_weekday") 537, PySem.Value.str (PySem.Str.ofString "day_offset") 538, PySem.Value.str (PySem.Str.ofString "day_1") 539, PySem.Value.str (PySem.Str.ofString "ord_day") 540] } : Obj)) <|
  List.cons (nat_lit 109, ({ cls := PySem.Value.type "tuple", data := PySem.Data.seq #[] } : Obj)) <|
  List.cons (nat_lit 111, ({ cls := PySem.Value.type "code", data := PySem.Data.fields #[PySem.Value.str (PySem.Str.ofString "_isoweek_to_gregorian") 530, PySem.Value.str (PySem.Str.ofString "_isoweek_to_gregorian") 531, PySem.Value.str (PySem.Str.ofString "/claim/cut.py") 532, PySem.Value.int 116 0, PySem.Value.int 3 0, PySem.Value.int 0 0, PySem.Value.int 0 0, PySem.Value.int 3 0, PySem.Value.ref 106, PySem.Value.bool true, PySem.Value.int 322 0, PySem.Value.ref 107, PySem.Value.none, PySem.Value.ref 108, PySem.Value.ref 109, PySem.Value.ref 110, PySem.Value.int 541 0, PySem.Value.int 116 0, PySem.Value.str (PySem.Str.ofString "/claim/cut.py") 542] } : Obj)) <|
  List.cons (nat_lit 112, ((by refine' (?f : (x : Obj) → x = ({ cls := PySem.Value.type "function", data := PySem.Data.func { name := PySem.Str.ofString "_isoweek_to_gregorian", qualname := PySem.Str.ofString "_isoweek_to_gregorian", params := (fnL 21).1, body := PySem.FuncBody.stmts (fnL 21).2.1, scope := (fnL 21).2.2, globals := 3, closure := [], defaults := PySem.Value.none, kwdefaults := PySem.Value.none, pyModule := PySem.Value.str (PySem.Str.ofString "cpy313._pydatetime") 328, code := PySem.Value.ref 111 } } : Obj) → Obj) _ ?h; (case f => exact fun x _ => x); (case h => (dsimp only [fnL, progL, OpenLaw.row, OpenLaw.prog, Challenge.rw_km0087_03, Challenge.pw_km0087_03, List.getElem?_cons_succ, List.getElem?_cons_zero]; exact rfl))) : Obj)) <|
  List.cons (nat_lit 113, ({ cls := PySem.Value.type "tuple", data := PySem.Data.seq #[] } : Obj)) <|
  List.cons (nat_lit 115, ({ cls := PySem.Value.type "tuple", data := PySem.Data.seq #[PySem.Value.str (PySem.Str.ofString "year") 547, PySem.Value.str (PySem.Str.ofString "month") 548, PySem.Value.str (PySem.Str.ofString "day") 549, PySem.Value.str (PySem.Str.ofString "dim") 550] } : Obj)) <|
  List.cons (nat_lit 116, ({ cls := PySem.Value.type "tuple", data := PySem.Data.seq #[] } : Obj)) <|
  List.cons (nat_lit 118, ({ cls := PySem.Value.type "code", data := PySem.Data.fields #[PySem.Value.str (PySem.Str.ofString "_check_date_fields") 544, PySem.Value.str (PySem.Str.ofString "_check_date_fields") 545, PySem.Value.str (PySem.Str.ofString "/claim/cut.py") 546, PySem.Value.int 133 0, PySem.Value.int 3 0, PySem.Value.int 0 0, PySem.Value.int 0 0, PySem.Value.int 3 0, PySem.Value.ref 113, PySem.Value.bool true, PySem.Value.int 322 0, PySem.Value.ref 114, PySem.Value.none, PySem.Value.ref 115, PySem.Value.ref 116, PySem.Value.ref 117, PySem.Value.int 551 0, PySem.Value.int 133 0, PySem.Value.str (PySem.Str.ofString "/claim/cut.py") 552] } : Obj)) <|
  List.cons (nat_lit 119, ((by refine' (?f : (x : Obj) → x = ({ cls := PySem.Value.type "function", data := PySem.Data.func { name := PySem.Str.ofString "_check_date_fields", qualname := PySem.Str.ofString "_check_date_fields", params := (fnL 22).1, body := PySem.FuncBody.stmts (fnL 22).2.1, scope := (fnL 22).2.2, globals := 3, closure := [], defaults := PySem.Value.none, kwdefaults := PySem.Value.none, pyModule := PySem.Value.str (PySem.Str.ofString "cpy313._pydatetime") 328, code := PySem.Value.ref 118 } } : Obj) → Obj) _ ?h; (case f => exact fun x _ => x); (case h => (dsimp only [fnL, progL, OpenLaw.row, OpenLaw.prog, Challenge.rw_km0087_03, Challenge.pw_km0087_03, List.getElem?_cons_succ, List.getElem?_cons_zero]; exact rfl))) : Obj)) <|
  List.cons (nat_lit 120, ({ cls := PySem.Value.type "tuple", data := PySem.Data.seq #[] } : Obj)) <|
  List.cons (nat_lit 122, ({ cls := PySem.Value.type "tuple", data := PySem.Data.seq #[PySem.Value.str (PySem.Str.ofString "year") 557, PySem.Value.str (PySem.Str.ofString "THURSDAY") 558, PySem.Value.str (PySem.Str.ofString "firstday") 559, PySem.Value.str (PySem.Str.ofString "firstweekday") 560, PySem.Value.str (PySem.Str.ofString "week1monday") 561] } : Obj)) <|
  List.cons (nat_lit 123, ({ cls := PySem.Value.type "tuple", data := PySem.Data.seq #[] } : Obj)) <|
  List.cons (nat_lit 125, ({ cls := PySem.Value.type "code", data := PySem.Data.fields #[PySem.Value.str (PySem.Str.ofString "_isoweek1monday") 554, PySem.Value.str (PySem.Str.ofString "_isoweek1monday") 555, PySem.Value.str (PySem.Str.ofString "/claim/cut.py") 556, PySem.Value.int 145 0, PySem.Value.int 1 0, PySem.Value.int 0 0, PySem.Value.int 0 0, PySem.Value.int 3 0, PySem.Value.ref 120, PySem.Value.bool true, PySem.Value.int 322 0, PySem.Value.ref 121, PySem.Value.none, PySem.Value.ref 122, PySem.Value.ref 123, PySem.Value.ref 124, PySem.Value.int 562 0, PySem.Value.int 145 0, PySem.Value.str (PySem.Str.ofString "/claim/cut.py") 563] } : Obj)) <|
  List.cons (nat_lit 126, ((by refine' (?f : (x : Obj) → x = ({ cls := PySem.Value.type "function", data := PySem.Data.func { name := PySem.Str.ofString "_isoweek1monday", qualname := PySem.Str.ofString "_isoweek1monday", params := (fnL 23).1, body := PySem.FuncBody.stmts (fnL 23).2.1, scope := (fnL 23).2.2, globals := 3, closure := [], defaults := PySem.Value.none, kwdefaults := PySem.Value.none, pyModule := PySem.Value.str (PySem.Str.ofString "cpy313._pydatetime") 328, code := PySem.Value.ref 125 } } : Obj) → Obj) _ ?h; (case f => exact fun x _ => x); (case h => (dsimp only [fnL, progL, OpenLaw.row, OpenLaw.prog, Challenge.rw_km0087_03, Challenge.pw_km0087_03, List.getElem?_cons_succ, List.getElem?_cons_zero]; exact rfl))) : Obj)) <|
  List.cons (nat_lit 127, ({ cls := PySem.Value.type "tuple", data := PySem.Data.seq #[] } : Obj)) <|
  List.cons (nat_lit 129, ({ cls := PySem.Value.type "tuple", data := PySem.Data.seq #[PySem.Value.str (PySem.Str.ofString "number") 570, PySem.Value.str (PySem.Str.ofString "code") 571, PySem.Value.str (PySem.Str.ofString "kind") 572] } : Obj)) <|
  List.cons (nat_lit 130, ({ cls := PySem.Value.type "tuple", data := PySem.Data.seq #[] } : Obj)) <|
  List.cons (nat_lit 132, ({ cls := PySem.Value.type "code", data := PySem.Data.fields #[PySem.Value.str (PySem.Str.ofString "_law_mark") 567, PySem.Value.str (PySem.Str.ofString "_law_mark") 568, PySem.Value.str (PySem.Str.ofString "/claim/cut.py") 569, PySem.Value.int 154 0, PySem.Value.int 1 0, PySem.Value.int 0 0, PySem.Value.int 0 0, PySem.Value.int 3 0, PySem.Value.ref 127, PySem.Value.bool true, PySem.Value.int 322 0, PySem.Value.ref 128, PySem.Value.none, PySem.Value.ref 129, PySem.Value.ref 130, PySem.Value.ref 131, PySem.Value.int 573 0, PySem.Value.int 154 0, PySem.Value.str (PySem.Str.ofString "/claim/cut.py") 574] } : Obj)) <|
  List.cons (nat_lit 133, ((by refine' (?f : (x : Obj) → x = ({ cls := PySem.Value.type "function", data := PySem.Data.func { name := PySem.Str.ofString "_law_mark", qualname := PySem.Str.ofString "_law_mark", params := (fnL 25).1, body := PySem.FuncBody.stmts (fnL 25).2.1, scope := (fnL 25).2.2, globals := 3, closure := [], defaults := PySem.Value.none, kwdefaults := PySem.Value.none, pyModule := PySem.Value.str (PySem.Str.ofString "law_km0087_03") 565, code := PySem.Value.ref 132 } } : Obj) → Obj) _ ?h; (case f => exact fun x _ => x); (case h => (dsimp only [fnL, progL, OpenLaw.row, OpenLaw.prog, Challenge.rw_km0087_03, Challenge.pw_km0087_03, List.getElem?_cons_succ, List.getElem?_cons_zero]; exact rfl))) : Obj)) <|
  List.cons (nat_lit 134, ({ cls := PySem.Value.type "tuple", data := PySem.Data.seq #[] } : Obj)) <|
  List.cons (nat_lit 136, ({ cls := PySem.Value.type "tuple", data := PySem.Data.seq #[PySem.Value.str (PySem.Str.ofString "year") 579, PySem.Value.str (PySem.Str.ofString "leaps") 580] } : Obj)) <|
  List.cons (nat_lit 137, ({ cls := PySem.Value.type "tuple", data := PySem.Data.seq #[] } : Obj)) <|
  List.cons (nat_lit 139, ({ cls := PySem.Value.type "code", data := PySem.Data.fields #[PySem.Value.str (PySem.Str.ofString "_law_ahead") 576, PySem.Value.str (PySem.Str.ofString "_law_ahead") 577, PySem.Value.str (PySem.Str.ofString "/claim/cut.py") 578, PySem.Value.int 164 0, PySem.Value.int 1 0, PySem.Value.int 0 0, PySem.Value.int 0 0, PySem.Value.int 3 0, PySem.Value.ref 134, PySem.Value.bool true, PySem.Value.int 322 0, PySem.Value.ref 135, PySem.Value.none, PySem.Value.ref 136, PySem.Value.ref 137, PySem.Value.ref 138, PySem.Value.int 581 0, PySem.Value.int 164 0, PySem.Value.str (PySem.Str.ofString "/claim/cut.py") 582] } : Obj)) <|
  List.cons (nat_lit 140, ((by refine' (?f : (x : Obj) → x = ({ cls := PySem.Value.type "function", data := PySem.Data.func { name := PySem.Str.ofString "_law_ahead", qualname := PySem.Str.ofString "_law_ahead", params := (fnL 26).1, body := PySem.FuncBody.stmts (fnL 26).2.1, scope := (fnL 26).2.2, globals := 3, closure := [], defaults := PySem.Value.none, kwdefaults := PySem.Value.none, pyModule := PySem.Value.str (PySem.Str.ofString "law_km0087_03") 565, code := PySem.Value.ref 139 } } : Obj) → Obj) _ ?h; (case f => exact fun x _ => x); (case h => (dsimp only [fnL, progL, OpenLaw.row, OpenLaw.prog, Challenge.rw_km0087_03, Challenge.pw_km0087_03, List.getElem?_cons_succ, List.getElem?_cons_zero]; exact rfl))) : Obj)) <|
  List.cons (nat_lit 141, ({ cls := PySem.Value.type "tuple", data := PySem.Data.seq #[] } : Obj)) <|
  List.cons (nat_lit 143, ({ cls := PySem.Value.type "tuple", data := PySem.Data.seq #[PySem.Value.str (PySem.Str.ofString "year") 587, PySem.Value.str (PySem.Str.ofString "month") 588, PySem.Value.str (PySem.Str.ofString "day") 589, PySem.Value.str (PySem.Str.ofString "february") 590, PySem.Value.str (PySem.Str.ofString "lengths") 591] } : Obj)) <|
  List.cons (nat_lit 144, ({ cls := PySem.Value.type "tuple", data := PySem.Data.seq #[] } : Obj)) <|
  List.cons (nat_lit 146, ({ cls := PySem.Value.type "code", data := PySem.Data.fields #[PySem.Value.str (PySem.Str.ofString "_law_of_month") 584, PySem.Value.str (PySem.Str.ofString "_law_of_month") 585, PySem.Value.str (PySem.Str.ofString "/claim/cut.py") 586, PySem.Value.int 167 0, PySem.Value.int 3 0, PySem.Value.int 0 0, PySem.Value.int 0 0, PySem.Value.int 3 0, PySem.Value.ref 141, PySem.Value.bool true, PySem.Value.int 322 0, PySem.Value.ref 142, PySem.Value.none, PySem.Value.ref 143, PySem.Value.ref 144, PySem.Value.ref 145, PySem.Value.int 592 0, PySem.Value.int 167 0, PySem.Value.str (PySem.Str.ofString "/claim/cut.py") 593] } : Obj)) <|
  List.cons (nat_lit 147, ((by refine' (?f : (x : Obj) → x = ({ cls := PySem.Value.type "function", data := PySem.Data.func { name := PySem.Str.ofString "_law_of_month", qualname := PySem.Str.ofString "_law_of_month", params := (fnL 27).1, body := PySem.FuncBody.stmts (fnL 27).2.1, scope := (fnL 27).2.2, globals := 3, closure := [], defaults := PySem.Value.none, kwdefaults := PySem.Value.none, pyModule := PySem.Value.str (PySem.Str.ofString "law_km0087_03") 565, code := PySem.Value.ref 146 } } : Obj) → Obj) _ ?h; (case f => exact fun x _ => x); (case h => (dsimp only [fnL, progL, OpenLaw.row, OpenLaw.prog, Challenge.rw_km0087_03, Challenge.pw_km0087_03, List.getElem?_cons_succ, List.getElem?_cons_zero]; exact rfl))) : Obj)) <|
  List.cons (nat_lit 148, ({ cls := PySem.Value.type "tuple", data := PySem.Data.seq #[] } : Obj)) <|
  List.cons (nat_lit 150, ({ cls := PySem.Value.type "tuple", data := PySem.Data.seq #[PySem.Value.str (PySem.Str.ofString "year") 598, PySem.Value.str (PySem.Str.ofString "week") 599, PySem.Value.str (PySem.Str.ofString "weekday") 600, PySem.Value.str (PySem.Str.ofString "ahead") 601, PySem.Value.str (PySem.Str.ofString "thursday") 602] } : Obj)) <|
  List.cons (nat_lit 151, ({ cls := PySem.Value.type "tuple", data := PySem.Data.seq #[] } : Obj)) <|
  List.cons (nat_lit 153, ({ cls := PySem.Value.type "code", data := PySem.Data.fields #[PySem.Value.str (PySem.Str.ofString "_law_of_week") 595, PySem.Value.str (PySem.Str.ofString "_law_of_week") 596, PySem.Value.str (PySem.Str.ofString "/claim/cut.py") 597, PySem.Value.int 177 0, PySem.Value.int 3 0, PySem.Value.int 0 0, PySem.Value.int 0 0, PySem.Value.int 3 0, PySem.Value.ref 148, PySem.Value.bool true, PySem.Value.int 322 0, PySem.Value.ref 149, PySem.Value.none, PySem.Value.ref 150, PySem.Value.ref 151, PySem.Value.ref 152, PySem.Value.int 603 0, PySem.Value.int 177 0, PySem.Value.str (PySem.Str.ofString "/claim/cut.py") 604] } : Obj)) <|
  List.cons (nat_lit 154, ((by refine' (?f : (x : Obj) → x = ({ cls := PySem.Value.type "function", data := PySem.Data.func { name := PySem.Str.ofString "_law_of_week", qualname := PySem.Str.ofString "_law_of_week", params := (fnL 28).1, body := PySem.FuncBody.stmts (fnL 28).2.1, scope := (fnL 28).2.2, globals := 3, closure := [], defaults := PySem.Value.none, kwdefaults := PySem.Value.none, pyModule := PySem.Value.str (PySem.Str.ofString "law_km0087_03") 565, code := PySem.Value.ref 153 } } : Obj) → Obj) _ ?h; (case f => exact fun x _ => x); (case h => (dsimp only [fnL, progL, OpenLaw.row, OpenLaw.prog, Challenge.rw_km0087_03, Challenge.pw_km0087_03, List.getElem?_cons_succ, List.getElem?_cons_zero]; exact rfl))) : Obj)) <|
  List.cons (nat_lit 155, ({ cls := PySem.Value.type "tuple", data := PySem.Data.seq #[] } : Obj)) <|
  List.cons (nat_lit 157, ({ cls := PySem.Value.type "tuple", data := PySem.Data.seq #[PySem.Value.str (PySem.Str.ofString "number") 609, PySem.Value.str (PySem.Str.ofString "ways") 610, PySem.Value.str (PySem.Str.ofString "code") 611, PySem.Value.str (PySem.Str.ofString "way") 612, PySem.Value.str (PySem.Str.ofString "turn") 613, PySem.Value.str (PySem.Str.ofString "week") 614, PySem.Value.str (PySem.Str.ofString "last") 615, PySem.Value.str (PySem.Str.ofString "year") 616, PySem.Value.str (PySem.Str.ofString "month") 617, PySem.Value.str (PySem.Str.ofString "weekday") 618] } : Obj)) <|
  List.cons (nat_lit 158, ({ cls := PySem.Value.type "tuple", data := PySem.Data.seq #[] } : Obj)) <|
  List.cons (nat_lit 160, ({ cls := PySem.Value.type "code", data := PySem.Data.fields #[PySem.Value.str (PySem.Str.ofString "_law_entry") 606, PySem.Value.str (PySem.Str.ofString "_law_entry") 607, PySem.Value.str (PySem.Str.ofString "/claim/cut.py") 608, PySem.Value.int 189 0, PySem.Value.int 2 0, PySem.Value.int 0 0, PySem.Value.int 0 0, PySem.Value.int 3 0, PySem.Value.ref 155, PySem.Value.bool true, PySem.Value.int 322 0, PySem.Value.ref 156, PySem.Value.none, PySem.Value.ref 157, PySem.Value.ref 158, PySem.Value.ref 159, PySem.Value.int 619 0, PySem.Value.int 189 0, PySem.Value.str (PySem.Str.ofString "/claim/cut.py") 620] } : Obj)) <|
  List.cons (nat_lit 161, ((by refine' (?f : (x : Obj) → x = ({ cls := PySem.Value.type "function", data := PySem.Data.func { name := PySem.Str.ofString "_law_entry", qualname := PySem.Str.ofString "_law_entry", params := (fnL 29).1, body := PySem.FuncBody.stmts (fnL 29).2.1, scope := (fnL 29).2.2, globals := 3, closure := [], defaults := PySem.Value.none, kwdefaults := PySem.Value.none, pyModule := PySem.Value.str (PySem.Str.ofString "law_km0087_03") 565, code := PySem.Value.ref 160 } } : Obj) → Obj) _ ?h; (case f => exact fun x _ => x); (case h => (dsimp only [fnL, progL, OpenLaw.row, OpenLaw.prog, Challenge.rw_km0087_03, Challenge.pw_km0087_03, List.getElem?_cons_succ, List.getElem?_cons_zero]; exact rfl))) : Obj)) <|
  List.cons (nat_lit 162, ({ cls := PySem.Value.type "tuple", data := PySem.Data.seq #[] } : Obj)) <|
  List.cons (nat_lit 165, ({ cls := PySem.Value.type "code", data := PySem.Data.fields #[PySem.Value.str (PySem.Str.ofString "law") 622, PySem.Value.str (PySem.Str.ofString "law") 623, PySem.Value.str (PySem.Str.ofString "/claim/cut.py") 624, PySem.Value.int 216 0, PySem.Value.int 1 0, PySem.Value.int 0 0, PySem.Value.int 0 0, PySem.Value.int 3 0, PySem.Value.ref 162, PySem.Value.bool true, PySem.Value.int 322 0, PySem.Value.ref 163, PySem.Value.none, PySem.Value.none, PySem.Value.none, PySem.Value.ref 164, PySem.Value.int 625 0, PySem.Value.int 216 0, PySem.Value.str (PySem.Str.ofString "/claim/cut.py") 626] } : Obj)) <|
  List.cons (nat_lit 166, ((by refine' (?f : (x : Obj) → x = ({ cls := PySem.Value.type "function", data := PySem.Data.func { name := PySem.Str.ofString "law", qualname := PySem.Str.ofString "law", params := (fnL 30).1, body := PySem.FuncBody.stmts (fnL 30).2.1, scope := (fnL 30).2.2, globals := 3, closure := [], defaults := PySem.Value.none, kwdefaults := PySem.Value.none, pyModule := PySem.Value.str (PySem.Str.ofString "law_km0087_03") 565, code := PySem.Value.ref 165 } } : Obj) → Obj) _ ?h; (case f => exact fun x _ => x); (case h => (dsimp only [fnL, progL, OpenLaw.row, OpenLaw.prog, Challenge.rw_km0087_03, Challenge.pw_km0087_03, List.getElem?_cons_succ, List.getElem?_cons_zero]; exact rfl))) : Obj)) <| List.nil
abbrev looseL : List Str := [Str.ofString "_DAYS_IN_MONTH", Str.ofString "_DAYS_BEFORE_MONTH", Str.ofString "_DI400Y", Str.ofString "_DI100Y", Str.ofString "_DI4Y"]
abbrev lvL : List (Str × WData) := [(Str.ofString "_DI400Y", WData.int 146097), (Str.ofString "_DI100Y", WData.int 36524), (Str.ofString "_DI4Y", WData.int 1461)]
abbrev asL : List Addr := [3, 33, 34, 40, 42, 43, 45, 46, 47, 49, 50, 52, 53, 54, 56, 57, 59, 60, 61, 63, 64, 66, 67, 68, 70, 71, 73, 74, 78, 80, 81, 83, 84, 85, 87, 88, 90, 91, 92, 94, 95, 97, 98, 99, 101, 102, 104, 105, 106, 108, 109, 111, 112, 113, 115, 116, 118, 119, 120, 122, 123, 125, 126, 127, 129, 130, 132, 133, 134, 136, 137, 139, 140, 141, 143, 144, 146, 147, 148, 150, 151, 153, 154, 155, 157, 158, 160, 161, 162, 165, 166]
noncomputable abbrev hookL : Hook := kHook heapK asL (fun _ => by kernel_rfl)
set_option maxHeartbeats 0 in
theorem leftL : LeftO Challenge.rw_km0087_03.row.prog viewK looseL (fun s => xlAt viewK lvL s && recOk Challenge.rw_km0087_03.row.records s) (Hook.obs hookL) (Hook.val hookL) 3448 :=
  LeftO.of_split "special-get-raises" (fun w => by kernel_rfl)
end Mine
end
section
namespace Mine

abbrev Cont := (base h₀ : Heap) → (L : Addr) → (m : Str → Option Value) → (news : List (Addr × Obj)) → (fr : List Env) → (s : Shared) → (Q E : Value → Shared → Prop) → Prop

/-- a contract of a def: what a call of it does, from any def's frame -/
abbrev Ctr (prog : Program) (w : World) (K : Frag) (p : Program) (loose : List Str) (mean : ExcName → Option Value) (mg mb : Str → Option Value) (f : Addr) (d u : Nat) (vs : List Value) (C : Cont) : Prop :=
  ∀ (dp un : Nat) (gd : Option (List Code)) (cn : Str) (cs : Scope) (a : Addr) (ccd : Value) (cl : List (Str × Addr)) (outer : List Env) (A₀ : Around) (base h₀ : Heap) (L : Addr) (m : Str → Option Value) (news : List (Addr × Obj)) (s : Shared) (Q E : Value → Shared → Prop),
    Below A₀ base outer h₀ → Fr h₀ L s.heap m → K.In h₀ → News h₀ L s.heap news → Top p loose mean mg mb h₀ → cs.kind = .function →
    dp + d < recursionLimit → un + u < cLine → C base h₀ L m news (envX cn cs L a ccd cl :: outer) s Q E →
    wpAny (model prog w) (ktrTop dp un gd cn cs L a ccd cl outer) (call (.ref f) vs) Q E s

abbrev rVal (v : Tok → Value) : Cont := fun _ h₀ L m news _ s Q _ => ∀ (t : Tok) (h' : Heap) (tk' : Nat), Fr h₀ L h' m → News h₀ L h' news → Q (v t) { s with heap := h', toks := tk' }
abbrev cInt (x : Int) : Cont := rVal fun t => .int x t
abbrev cBool (x : Bool) : Cont := rVal fun _ => .bool x
abbrev cStr (x : Str) : Cont := rVal fun t => .str x t
/-- one new object comes back -/
abbrev cNew (P : Obj → Prop) : Cont := fun _ h₀ L m news _ s Q _ => ∀ (l : Addr) (o : Obj) (h' : Heap) (tk' : Nat), P o → Fr h₀ L h' m → News h₀ L h' ((l, o) :: news) → (∀ p ∈ news, p.1 < l) → Q (.ref l) { s with heap := h', toks := tk' }
/-- a ValueError flies -/
abbrev cBad (vs : Tok → List Value) : Cont := fun base h₀ L m news fr s _ E => ∀ (e t : Addr) (k : Tok) (h' G : Heap) (tk' : Nat), RaisedS base G fr e (.type "ValueError") t (vs k) news h' → Fr h₀ L G m → G.UpToSlots h' → E (.ref e) { s with heap := h', toks := tk' }
/-- one or the other -/
abbrev cIf (c : Prop) (A B : Cont) : Cont := fun base h₀ L m news fr s Q E => (c → A base h₀ L m news fr s Q E) ∧ (¬ c → B base h₀ L m news fr s Q E)

theorem RaisedS.drop {base G : Heap} {l : List Env} {e t : Addr} {cls : Value} {vs : List Value} {news news' : List (Addr × Obj)} {h : Heap} (R : RaisedS base G l e cls t vs news' h) (hs : ∀ p ∈ news, p ∈ news') : RaisedS base G l e cls t vs news h := by
  obtain ⟨⟨B, hB, hBG, hl, hfl, hnew⟩, htup⟩ := R
  exact ⟨⟨B, hB, hBG, fun q hq => hl q (hs q hq), hfl, hnew⟩, htup⟩

section
variable {prog : Program} {w : World} {K : Frag} {p : Program} {loose : List Str} {mean : ExcName → Option Value} {mg mb : Str → Option Value} {f : Addr} {d u : Nat} {vs : List Value}
   {dp un : Nat} {gd : Option (List Code)} {cn : Str} {cs : Scope} {a : Addr} {ccd : Value} {cl : List (Str × Addr)} {outer : List Env} {A₀ : Around} {base h₀ : Heap} {L : Addr} {m : Str → Option Value} {news : List (Addr × Obj)} {s : Shared} {Q E : Value → Shared → Prop}
theorem use {C : Cont} (h : Ctr prog w K p loose mean mg mb f d u vs C)
    (B : Below A₀ base outer h₀) (F : Fr h₀ L s.heap m) (X : K.In h₀) (N : News h₀ L s.heap news) (T : Top p loose mean mg mb h₀) (hk : cs.kind = .function)
    (hd : dp + d < recursionLimit) (hu : un + u < cLine) (h1 : C base h₀ L m news (envX cn cs L a ccd cl :: outer) s Q E) :
    wpAny (model prog w) (ktrTop dp un gd cn cs L a ccd cl outer) (call (.ref f) vs) Q E s :=
  h dp un gd cn cs a ccd cl outer A₀ base h₀ L m news s Q E B F X N T hk hd hu h1
end
section
variable {base h₀ h' G : Heap} {L : Addr} {m : Str → Option Value} {news news' : List (Addr × Obj)} {fr : List Env} {s : Shared} {Q E : Value → Shared → Prop} {t : Tok} {tk' : Nat}
theorem endI {x y : Int} (hret : cInt x base h₀ L m news fr s Q E) (e : y = x) (F : Fr h₀ L h' m) (N : News h₀ L h' news') (hs : ∀ p ∈ news, p ∈ news') : Q (.int y t) { s with heap := h', toks := tk' } := by
  subst e; exact hret t h' tk' F (cb_drop N hs)
theorem endB {x y : Bool} (hret : cBool x base h₀ L m news fr s Q E) (e : y = x) (F : Fr h₀ L h' m) (N : News h₀ L h' news') (hs : ∀ p ∈ news, p ∈ news') : Q (.bool y) { s with heap := h', toks := tk' } := by
  subst e; exact hret 0 h' tk' F (cb_drop N hs)
theorem endN {P : Obj → Prop} {l : Addr} {o : Obj} (hret : cNew P base h₀ L m news fr s Q E) (e : P o) (F : Fr h₀ L h' m) (N : News h₀ L h' news') (hs : ∀ p ∈ (l, o) :: news, p ∈ news') (hl : ∀ p ∈ news, p.1 < l) : Q (.ref l) { s with heap := h', toks := tk' } :=
  hret l o h' tk' e F (cb_drop N hs) hl
theorem endX {vs : Tok → List Value} {vs' : List Value} {e t : Addr} {k : Tok} (hret : cBad vs base h₀ L m news fr s Q E) (ev : vs' = vs k) (R : RaisedS base G fr e (.type "ValueError") t vs' news' h') (F : Fr h₀ L G m) (U : G.UpToSlots h') (hs : ∀ p ∈ news, p ∈ news') : E (.ref e) { s with heap := h', toks := tk' } := by
  subst ev; exact hret e t k h' G tk' (RaisedS.drop R hs) F U
end
section
open PySem.Calls
variable {prog : Program} {w : World} {A : Around} {E : Value → Shared → Prop} {s : Shared} {h₀ : Heap} {L a : Addr} {m : Str → Option Value} {K : Frag} {n : Nat} {news : List (Addr × Obj)}
theorem list_item {value slice : PySem.Expr} {l : List Value} {ns : List Int} {k : Int} {u : Tok} {Q : Value → Shared → Prop} (hL : s.heap.IsList a l.toArray) (hi : IntsAre l ns)
    (h0 : 0 ≤ k) (h1 : k.toNat < ns.length) (h2 : ns.length ≤ 2 ^ 62) (h : ∀ t, Q (.int (ns.getD k.toNat 0) t) s)
    (hs : subscripted slice false (.ref a) (.int k u) = operate [.ref a, .int k u] (getItem (.ref a) (.int k u)) := by with_unfolding_all rfl) :
    wpAny (model prog w) A (subscriptTail value slice (.ref a) (.int k u)) Q E s := by
  obtain ⟨t, ht⟩ := hi.get k.toNat ns[k.toNat] (by simp [h1])
  have e : ns.getD k.toNat 0 = ns[k.toNat] := by simp [List.getD_eq_getElem?_getD, h1]
  rw [e] at h
  exact tail_any hL.typeIs slot_list_getitem.lookup (wpAny_getItem_list hL h0 (by omega) (by simpa using ht) (h t)) hs
theorem top_item {value slice : PySem.Expr} {l : List Value} {ns : List Int} {dd : Option Addr} {sl : Array (Option Value)} {k : Int} {u : Tok} {Q : Value → Shared → Prop} (F : Fr h₀ L s.heap m) (X₀ : K.In h₀) (hl : K.lookup a = some ⟨.type "list", dd, .seq l.toArray n, sl⟩) (hi : IntsAre l ns)
    (h0 : 0 ≤ k) (h1 : k.toNat < ns.length) (h2 : ns.length ≤ 2 ^ 62) (h : ∀ t, Q (.int (ns.getD k.toNat 0) t) s)
    (hs : subscripted slice false (.ref a) (.int k u) = operate [.ref a, .int k u] (getItem (.ref a) (.int k u)) := by with_unfolding_all rfl) :
    wpAny (model prog w) A (subscriptTail value slice (.ref a) (.int k u)) Q E s := list_item (lstK (X₀.keeps F.keep) hl) hi h0 h1 h2 h hs
theorem ints13 {a b c d e f g h i j k l o : Int} {t1 t2 t3 t4 t5 t6 t7 t8 t9 t10 t11 t12 t13 : Tok} : IntsAre [.int a t1, .int b t2, .int c t3, .int d t4, .int e t5, .int f t6, .int g t7, .int h t8, .int i t9, .int j t10, .int k t11, .int l t12, .int o t13] [a, b, c, d, e, f, g, h, i, j, k, l, o] := by
  repeat (first | exact IntsAre.nil | refine IntsAre.cons _ _ ?_)
end
end Mine
namespace Mine
section
open PySem.Calls
variable {prog : Program} {w : World} {A : Around} {E : Value → Shared → Prop} {s : Shared} {h₀ : Heap} {L : Addr} {m : Str → Option Value} {news : List (Addr × Obj)}
theorem divmod_G {a b : Int} {t u : Tok} {Q : Value → Shared → Prop} (F : Fr h₀ L s.heap m) (N : News h₀ L s.heap news) (hb : 0 < b)
    (h : ∀ (h' : Heap) (D : Addr) (q r : Int) (t1 t2 : Tok) (tk : Nat), Fr h₀ L h' m → News h₀ L h' ((D, { cls := .type "tuple", data := .seq #[.int q t1, .int r t2] }) :: news) → (∀ p ∈ news, p.1 < D) → a = b * q + r → 0 ≤ r → r < b → Q (.ref D) { s with toks := tk, heap := h' })
    (hp : Builtin.divisionGoesByPylong a b = false ∨ PySem.PylongRoom (model prog w) A s := by first | exact Or.inl (PyProof.noPylong_of_log2 (by decide +kernel)) | exact Or.inl (PyProof.noPylong_small (by omega)) | exact Or.inr (PySem.PylongRoom.of (by first | assumption | (refine PySem.Heap.NoLimit.keeps ?_ (PyProof.Rows.Fr.keep (by assumption)); first | assumption | exact PyProof.Rows.Glob.nolimit (by assumption) | exact PyProof.Rows.Top.nolimit (by assumption)) | exact PyProof.Rows.Glob.nolimit (by assumption) | exact PyProof.Rows.Top.nolimit (by assumption)) (of_decide_eq_true (by with_unfolding_all rfl))) | assumption) :
    wpAny (model prog w) A (call (.builtin "divmod") [.int a t, .int b u]) Q E s :=
  divmod_N F N (by omega) (fun h' F' N' => h h' _ (a.fdiv b) (a.fmod b) _ _ _ F' N' (fun p hp => Heap.lt_size (N p hp).1) (by have := Int.mul_fdiv_add_fmod a b; omega) (Int.fmod_nonneg_of_pos _ hb) (Int.fmod_lt_of_pos _ hb)) hp
/-- the ways of a test meet: a bool that is true where P holds -/
def JB (P : Prop) (h₀ : Heap) (L : Addr) (m : Str → Option Value) (news : List (Addr × Obj)) (s : Shared) (v : Value) (s₂ : Shared) : Prop :=
  ∃ (h : Heap) (tk : Nat) (b : Bool), v = .bool b ∧ (b = true ↔ P) ∧ s₂ = { s with heap := h, toks := tk } ∧ Fr h₀ L h m ∧ News h₀ L h news
/-- a mark: a join is under way -/
def JMark : Prop := True
theorem JB.intro {P : Prop} {h : Heap} {tk : Nat} {b : Bool} {news' : List (Addr × Obj)} (e : b = true ↔ P) (F : Fr h₀ L h m) (N : News h₀ L h news') (hs : ∀ p ∈ news, p ∈ news') : JB P h₀ L m news s (.bool b) { s with heap := h, toks := tk } :=
  ⟨h, tk, b, rfl, e, rfl, F, cb_drop N hs⟩
theorem jb1 {c : Prop} {lp : Bool} (h : c) : lp = true ↔ c ∧ lp = true := ⟨fun x => ⟨h, x⟩, fun x => x.2⟩
theorem jb2 {c : Prop} [Decidable c] {lp : Bool} (h : ¬ c) : decide c = true ↔ c ∧ lp = true := ⟨fun x => absurd (of_decide_eq_true x) h, fun x => absurd x.1 h⟩
theorem jb3 {k : Int} {lp : Bool} (h : k ≠ 2) : (k == 2) = true ↔ k = 2 ∧ lp = true := ⟨fun x => absurd (eq_of_beq x) h, fun x => absurd x.1 h⟩
theorem jb4 {x y z : Int} (h1 : x = 3) (h2 : y ≠ 24) : (y != 24) = true ↔ x = 3 ∧ (y ≠ 24 ∨ z = 3) := by simp [h1, h2]
theorem jb5 {x y z : Int} (h1 : x = 3) (h2 : y = 24) : (z == 3) = true ↔ x = 3 ∧ (y ≠ 24 ∨ z = 3) := by simp [h1, h2]
theorem jb6 {x y z : Int} (h1 : x ≠ 3) : (x == 3) = true ↔ x = 3 ∧ (y ≠ 24 ∨ z = 3) := by simp [h1]
theorem joinP {M : Model} {c : Sem Value} {Q : Value → Shared → Prop} (P : Prop) [Decidable P] (_F : Fr h₀ L s.heap m) (_N : News h₀ L s.heap news)
    (hc : JMark → wpAny M A c (fun v s₂ => JB P h₀ L m news s v s₂) E s)
    (hk : ∀ (h : Heap) (tk : Nat), Fr h₀ L h m → News h₀ L h news → Q (.bool (decide P)) { s with heap := h, toks := tk }) : wpAny M A c Q E s := by
  refine wpAny_mono (hc True.intro) (fun v s₂ hq => ?_) fun _ _ h => h
  obtain ⟨h, tk, b, rfl, hb, rfl, F, N⟩ := hq
  have e : b = decide P := by rw [Bool.eq_iff_iff, hb, decide_eq_true_eq]
  rw [e]
  exact hk h tk F N
theorem joinA {M : Model} {c : Sem Value} {Q : Value → Shared → Prop} {x y z : Int} {t1 t2 t3 : Tok} (_h1 : m (Str.ofString "n1") = some (.int x t1)) (_h2 : m (Str.ofString "n4") = some (.int y t2)) (_h3 : m (Str.ofString "n100") = some (.int z t3)) (F : Fr h₀ L s.heap m) (N : News h₀ L s.heap news)
    (hc : JMark → wpAny M A c (fun v s₂ => JB (x = 3 ∧ (y ≠ 24 ∨ z = 3)) h₀ L m news s v s₂) E s)
    (hk : ∀ (h : Heap) (tk : Nat), Fr h₀ L h m → News h₀ L h news → Q (.bool (decide (x = 3 ∧ (y ≠ 24 ∨ z = 3)))) { s with heap := h, toks := tk }) : wpAny M A c Q E s := joinP _ F N hc hk
theorem joinB {M : Model} {c : Sem Value} {Q : Value → Shared → Prop} {k : Int} {lp : Bool} {t1 : Tok} (_h1 : m (Str.ofString "month") = some (.int k t1)) (_h2 : m (Str.ofString "leapyear") = some (.bool lp)) (F : Fr h₀ L s.heap m) (N : News h₀ L s.heap news)
    (hc : JMark → wpAny M A c (fun v s₂ => JB (2 < k ∧ lp = true) h₀ L m news s v s₂) E s)
    (hk : ∀ (h : Heap) (tk : Nat), Fr h₀ L h m → News h₀ L h news → Q (.bool (decide (2 < k ∧ lp = true))) { s with heap := h, toks := tk }) : wpAny M A c Q E s := joinP _ F N hc hk
theorem joinC {M : Model} {c : Sem Value} {Q : Value → Shared → Prop} {k : Int} {lp : Bool} {t1 : Tok} (_h1 : m (Str.ofString "month") = some (.int k t1)) (_h2 : m (Str.ofString "leapyear") = some (.bool lp)) (F : Fr h₀ L s.heap m) (N : News h₀ L s.heap news)
    (hc : JMark → wpAny M A c (fun v s₂ => JB (k = 2 ∧ lp = true) h₀ L m news s v s₂) E s)
    (hk : ∀ (h : Heap) (tk : Nat), Fr h₀ L h m → News h₀ L h news → Q (.bool (decide (k = 2 ∧ lp = true))) { s with heap := h, toks := tk }) : wpAny M A c Q E s := joinP _ F N hc hk
theorem lt0 {d : Addr} {l : List (Addr × Obj)} (h : AllLt d l) : ∀ p ∈ l, p.1 < d := by
  induction l with
  | nil => intro p hp; cases hp
  | cons q r ih =>
    intro p hp
    have h' : @LT.lt Nat _ q.1 d ∧ AllLt d r := h
    rcases List.mem_cons.mp hp with e | hp
    · rw [e]; exact h'.1
    · exact ih h'.2 p hp
theorem lt1 {d : Addr} {l : List (Addr × Obj)} {A : Prop} (h : A ∧ AllLt d l) : ∀ p ∈ l, p.1 < d := lt0 h.2
theorem lt2 {d : Addr} {l : List (Addr × Obj)} {A B : Prop} (h : A ∧ B ∧ AllLt d l) : ∀ p ∈ l, p.1 < d := lt0 h.2.2
theorem lt3 {d : Addr} {l : List (Addr × Obj)} {A B C : Prop} (h : A ∧ B ∧ C ∧ AllLt d l) : ∀ p ∈ l, p.1 < d := lt0 h.2.2.2
theorem lt4 {d : Addr} {l : List (Addr × Obj)} {A B C D : Prop} (h : A ∧ B ∧ C ∧ D ∧ AllLt d l) : ∀ p ∈ l, p.1 < d := lt0 h.2.2.2.2
theorem lt5 {d : Addr} {l : List (Addr × Obj)} {A B C D E : Prop} (h : A ∧ B ∧ C ∧ D ∧ E ∧ AllLt d l) : ∀ p ∈ l, p.1 < d := lt0 h.2.2.2.2.2
theorem lt6 {d : Addr} {l : List (Addr × Obj)} {A B C D E F : Prop} (h : A ∧ B ∧ C ∧ D ∧ E ∧ F ∧ AllLt d l) : ∀ p ∈ l, p.1 < d := lt0 h.2.2.2.2.2.2
theorem sh5 (x : Int) : x.fdiv (2 ^ Int.toNat 5) = x / 32 := Int.fdiv_eq_ediv_of_nonneg _ (by decide)
end
end Mine
end
section
namespace Mine
theorem fm (a : Int) : a.fmod 4 = a % 4 ∧ a.fmod 100 = a % 100 ∧ a.fmod 400 = a % 400 ∧ a.fdiv 4 = a / 4 ∧ a.fdiv 100 = a / 100 ∧ a.fdiv 400 = a / 400 ∧ a.fmod 7 = a % 7 := ⟨Int.fmod_eq_emod_of_nonneg _ (by decide), Int.fmod_eq_emod_of_nonneg _ (by decide), Int.fmod_eq_emod_of_nonneg _ (by decide), Int.fdiv_eq_ediv_of_nonneg _ (by decide), Int.fdiv_eq_ediv_of_nonneg _ (by decide), Int.fdiv_eq_ediv_of_nonneg _ (by decide), Int.fmod_eq_emod_of_nonneg _ (by decide)⟩
def leapB (y : Int) : Bool := y % 4 == 0 && (y % 100 != 0 || y % 400 == 0)
def dbyI (y : Int) : Int := (y - 1) * 365 + (y - 1) / 4 - (y - 1) / 100 + (y - 1) / 400
def dimI (y m : Int) : Int := if m = 2 ∧ leapB y = true then 29 else [-1, 31, 28, 31, 30, 31, 30, 31, 31, 30, 31, 30, 31].getD m.toNat 0
def dbmI (y m : Int) : Int := [-1, 0, 31, 59, 90, 120, 151, 181, 212, 243, 273, 304, 334].getD m.toNat 0 + if 2 < m ∧ leapB y = true then 1 else 0
/-- the ordinal of the Monday of week 1 -/
def monI (y : Int) : Int := let f := dbyI y + 1; let k := (f + 6) % 7; if 3 < k then f - k + 7 else f - k
theorem dim1 (y : Int) : dimI y 1 = 31 := by simp [dimI]
theorem dbm1 (y : Int) : dbmI y 1 = 0 := by simp [dbmI]
theorem leap_iff (y : Int) : leapB y = true ↔ y % 4 = 0 ∧ (y % 100 ≠ 0 ∨ y % 400 = 0) := by simp [leapB]
/-- a tuple that is the date of the ordinal n -/
def IsYmd (n : Int) (o : Obj) : Prop := ∃ (y m d : Int) (ty tm td : Tok), o = { cls := .type "tuple", data := .seq #[.int y ty, .int m tm, .int d td] } ∧ 1 ≤ m ∧ m ≤ 12 ∧ 1 ≤ d ∧ d ≤ dimI y m ∧ dbyI y + dbmI y m + d = n

section
variable {n q r0 a r1 b r2 c r : Int}
theorem ord_leap (h2 : r0 = 36524 * a + r1) (h3 : r1 = 1461 * b + r2) (h4 : r2 = 365 * c + r) (b0 : 0 ≤ r0) (b1 : r0 < 146097) (b2 : 0 ≤ r1) (b3 : r1 < 36524) (b4 : 0 ≤ r2) (b5 : r2 < 1461) (b6 : 0 ≤ r) (b7 : r < 365) :
    leapB (q * 400 + 1 + (a * 100 + b * 4 + c)) = decide (c = 3 ∧ (b ≠ 24 ∨ a = 3)) := by
  rw [Bool.eq_iff_iff, leap_iff, decide_eq_true_eq]
  omega
theorem bad0 (hb : (decide (c = 3 ∧ (b ≠ 24 ∨ a = 3)) == leapB (q * 400 + 1 + (a * 100 + b * 4 + c))) = false) (h2 : r0 = 36524 * a + r1) (h3 : r1 = 1461 * b + r2) (h4 : r2 = 365 * c + r) (b0 : 0 ≤ r0) (b1 : r0 < 146097) (b2 : 0 ≤ r1) (b3 : r1 < 36524) (b4 : 0 ≤ r2) (b5 : r2 < 1461) (b6 : 0 ≤ r) (b7 : r < 365) : False := by
  rw [ord_leap h2 h3 h4 b0 b1 b2 b3 b4 b5 b6 b7, beq_self_eq_true] at hb
  cases hb
theorem ord_n (h1 : n - 1 = 146097 * q + r0) (h2 : r0 = 36524 * a + r1) (h3 : r1 = 1461 * b + r2) (h4 : r2 = 365 * c + r) (b0 : 0 ≤ r0) (b1 : r0 < 146097) (b2 : 0 ≤ r1) (b3 : r1 < 36524) (b4 : 0 ≤ r2) (b5 : r2 < 1461) (b6 : 0 ≤ r) (b7 : r < 365) (hc : c ≠ 4) (ha : a ≠ 4) :
    dbyI (q * 400 + 1 + (a * 100 + b * 4 + c)) + r + 1 = n := by
  simp only [dbyI]
  have a1 : 0 ≤ c ∧ c ≤ 3 := by omega
  have a2 : 0 ≤ a ∧ a ≤ 3 := by omega
  have a3 : 0 ≤ b ∧ b ≤ 24 := by omega
  have e1 : (q * 400 + 1 + (a * 100 + b * 4 + c) - 1) / 4 = 100 * q + 25 * a + b := by omega
  have e2 : (q * 400 + 1 + (a * 100 + b * 4 + c) - 1) / 100 = 4 * q + a := by omega
  have e3 : (q * 400 + 1 + (a * 100 + b * 4 + c) - 1) / 400 = q := by omega
  rw [e1, e2, e3]; omega
theorem ord_last (h1 : n - 1 = 146097 * q + r0) (h2 : r0 = 36524 * a + r1) (h3 : r1 = 1461 * b + r2) (h4 : r2 = 365 * c + r) (b0 : 0 ≤ r0) (b1 : r0 < 146097) (b2 : 0 ≤ r1) (b3 : r1 < 36524) (b4 : 0 ≤ r2) (b5 : r2 < 1461) (b6 : 0 ≤ r) (b7 : r < 365) (hc : c = 4 ∨ a = 4) (k2 t : Tok) (t2 : Tok) :
    r = 0 ∧ IsYmd n { cls := .type "tuple", data := .seq #[.int (q * 400 + 1 + (a * 100 + b * 4 + c) - 1) t, .int 12 t2, .int 31 k2] } := by
  refine ⟨by omega, _, _, _, _, _, _, rfl, by omega, by omega, by omega, by simp [dimI], ?_⟩
  have a1 : 0 ≤ c ∧ c ≤ 4 := by omega
  have a2 : 0 ≤ a ∧ a ≤ 4 := by omega
  have a3 : 0 ≤ b ∧ b ≤ 24 := by omega
  have hl : leapB (q * 400 + 1 + (a * 100 + b * 4 + c) - 1) = true := by rw [leap_iff]; omega
  have hm : dbmI (q * 400 + 1 + (a * 100 + b * 4 + c) - 1) 12 = 335 := by simp [dbmI, hl]
  rw [hm]
  simp only [dbyI]
  rcases hc with hc | hc
  · subst hc
    have e1 : (q * 400 + 1 + (a * 100 + b * 4 + 4) - 1 - 1) / 4 = 100 * q + 25 * a + b := by omega
    have e2 : (q * 400 + 1 + (a * 100 + b * 4 + 4) - 1 - 1) / 100 = 4 * q + a := by omega
    have e3 : (q * 400 + 1 + (a * 100 + b * 4 + 4) - 1 - 1) / 400 = q := by omega
    rw [e1, e2, e3]; omega
  · subst hc
    have z : b = 0 ∧ c = 0 ∧ r = 0 := by omega
    obtain ⟨rfl, rfl, rfl⟩ := z
    have e1 : (q * 400 + 1 + (4 * 100 + 0 * 4 + 0) - 1 - 1) / 4 = 100 * q + 99 := by omega
    have e2 : (q * 400 + 1 + (4 * 100 + 0 * 4 + 0) - 1 - 1) / 100 = 4 * q + 3 := by omega
    have e3 : (q * 400 + 1 + (4 * 100 + 0 * 4 + 0) - 1 - 1) / 400 = q := by omega
    rw [e1, e2, e3]; omega
end
set_option maxRecDepth 100000 in
theorem tabs : ∀ x : Fin 365, ∀ lp : Bool,
    let r : Int := (x.val : Nat); let k : Int := (r + 50) / 32
    let P : Int := [-1, 0, 31, 59, 90, 120, 151, 181, 212, 243, 273, 304, 334].getD k.toNat 0 + if 2 < k ∧ lp = true then 1 else 0
    let D : Int := [-1, 31, 28, 31, 30, 31, 30, 31, 31, 30, 31, 30, 31].getD (k - 1).toNat 0 + if k - 1 = 2 ∧ lp = true then 1 else 0
    let D' : Int := [-1, 31, 28, 31, 30, 31, 30, 31, 31, 30, 31, 30, 31].getD k.toNat 0 + if k = 2 ∧ lp = true then 1 else 0
    1 ≤ k ∧ k ≤ 12 ∧ (¬ r < P → r - P < D') ∧ (r < P → 2 ≤ k ∧ 0 ≤ r - (P - D) ∧ r - (P - D) < D ∧ P - D = [-1, 0, 31, 59, 90, 120, 151, 181, 212, 243, 273, 304, 334].getD (k - 1).toNat 0 + if 2 < k - 1 ∧ lp = true then 1 else 0) := by decide +kernel
section
variable {r k Y : Int} {lp : Bool}
theorem tab (hk : k = (r + 50).fdiv (2 ^ Int.toNat 5)) (h0 : 0 ≤ r) (h1 : r < 365) :
    let P : Int := [-1, 0, 31, 59, 90, 120, 151, 181, 212, 243, 273, 304, 334].getD k.toNat 0 + if 2 < k ∧ lp = true then 1 else 0
    let D : Int := [-1, 31, 28, 31, 30, 31, 30, 31, 31, 30, 31, 30, 31].getD (k - 1).toNat 0 + if k - 1 = 2 ∧ lp = true then 1 else 0
    let D' : Int := [-1, 31, 28, 31, 30, 31, 30, 31, 31, 30, 31, 30, 31].getD k.toNat 0 + if k = 2 ∧ lp = true then 1 else 0
    1 ≤ k ∧ k ≤ 12 ∧ (¬ r < P → r - P < D') ∧ (r < P → 2 ≤ k ∧ 0 ≤ r - (P - D) ∧ r - (P - D) < D ∧ P - D = [-1, 0, 31, 59, 90, 120, 151, 181, 212, 243, 273, 304, 334].getD (k - 1).toNat 0 + if 2 < k - 1 ∧ lp = true then 1 else 0) := by
  rw [sh5] at hk
  have := tabs ⟨r.toNat, by omega⟩ lp
  have e : ((r.toNat : Nat) : Int) = r := by omega
  simp only [e] at this
  subst hk
  exact this
theorem dim_alt (y m : Int) : dimI y m = [-1, 31, 28, 31, 30, 31, 30, 31, 31, 30, 31, 30, 31].getD m.toNat 0 + if m = 2 ∧ leapB y = true then 1 else 0 := by
  unfold dimI
  split
  · rename_i h; obtain ⟨rfl, _⟩ := h; rfl
  · omega
theorem ifA {c : Prop} [Decidable c] : (if decide c = true then (1 : Int) else 0) = if c then 1 else 0 := by
  by_cases h : c <;> simp [h]
/-- the month before the estimate is a month -/
theorem pre1 (h : r < [-1, 0, 31, 59, 90, 120, 151, 181, 212, 243, 273, 304, 334].getD k.toNat 0 + if decide (2 < k ∧ lp = true) = true then 1 else 0) (hk : k = (r + 50).fdiv (2 ^ Int.toNat 5)) (h0 : 0 ≤ r) (h1 : r < 365) : 1 ≤ k - 1 := by
  simp only [ifA] at h
  have := (tab (lp := lp) hk h0 h1).2.2.2 h
  omega
theorem bad1 (h : r < [-1, 0, 31, 59, 90, 120, 151, 181, 212, 243, 273, 304, 334].getD k.toNat 0 + if decide (2 < k ∧ lp = true) = true then 1 else 0)
    (hb : ¬0 ≤ r - (([-1, 0, 31, 59, 90, 120, 151, 181, 212, 243, 273, 304, 334].getD k.toNat 0 + if decide (2 < k ∧ lp = true) = true then 1 else 0) - ([-1, 31, 28, 31, 30, 31, 30, 31, 31, 30, 31, 30, 31].getD (k - 1).toNat 0 + if decide (k - 1 = 2 ∧ lp = true) = true then 1 else 0)))
    (hk : k = (r + 50).fdiv (2 ^ Int.toNat 5)) (h0 : 0 ≤ r) (h1 : r < 365) : False := by
  simp only [ifA] at h hb
  skip
  exact hb ((tab (lp := lp) hk h0 h1).2.2.2 h).2.1
theorem bad2 (h : r < [-1, 0, 31, 59, 90, 120, 151, 181, 212, 243, 273, 304, 334].getD k.toNat 0 + if decide (2 < k ∧ lp = true) = true then 1 else 0)
    (hb : ¬ r - (([-1, 0, 31, 59, 90, 120, 151, 181, 212, 243, 273, 304, 334].getD k.toNat 0 + if decide (2 < k ∧ lp = true) = true then 1 else 0) - ([-1, 31, 28, 31, 30, 31, 30, 31, 31, 30, 31, 30, 31].getD (k - 1).toNat 0 + if decide (k - 1 = 2 ∧ lp = true) = true then 1 else 0)) < dimI Y (k - 1))
    (he : (lp == leapB Y) = true) (hk : k = (r + 50).fdiv (2 ^ Int.toNat 5)) (h0 : 0 ≤ r) (h1 : r < 365) : False := by
  have e := eq_of_beq he
  simp only [ifA] at h hb
  rw [dim_alt, ← e] at hb
  exact hb ((tab (lp := lp) hk h0 h1).2.2.2 h).2.2.1
theorem bad4 (h : ¬ r < [-1, 0, 31, 59, 90, 120, 151, 181, 212, 243, 273, 304, 334].getD k.toNat 0 + if decide (2 < k ∧ lp = true) = true then 1 else 0)
    (hb : ¬ r - ([-1, 0, 31, 59, 90, 120, 151, 181, 212, 243, 273, 304, 334].getD k.toNat 0 + if decide (2 < k ∧ lp = true) = true then 1 else 0) < dimI Y k)
    (he : (lp == leapB Y) = true) (hk : k = (r + 50).fdiv (2 ^ Int.toNat 5)) (h0 : 0 ≤ r) (h1 : r < 365) : False := by
  have e := eq_of_beq he
  simp only [ifA] at h hb
  rw [dim_alt, ← e] at hb
  exact hb ((tab (lp := lp) hk h0 h1).2.2.1 h)
theorem good1 {n : Int} {t t2 t3 : Tok} (h : r < [-1, 0, 31, 59, 90, 120, 151, 181, 212, 243, 273, 304, 334].getD k.toNat 0 + if decide (2 < k ∧ lp = true) = true then 1 else 0)
    (he : (lp == leapB Y) = true) (hk : k = (r + 50).fdiv (2 ^ Int.toNat 5)) (h0 : 0 ≤ r) (h1 : r < 365) (hn : dbyI Y + r + 1 = n) :
    IsYmd n { cls := .type "tuple", data := .seq #[.int Y t, .int (k - 1) t2, .int (r - (([-1, 0, 31, 59, 90, 120, 151, 181, 212, 243, 273, 304, 334].getD k.toNat 0 + if decide (2 < k ∧ lp = true) = true then 1 else 0) - ([-1, 31, 28, 31, 30, 31, 30, 31, 31, 30, 31, 30, 31].getD (k - 1).toNat 0 + if decide (k - 1 = 2 ∧ lp = true) = true then 1 else 0)) + 1) t3] } := by
  have e := eq_of_beq he
  simp only [ifA] at h
  simp only [ifA]
  obtain ⟨a1, a2, _, a3⟩ := tab (lp := lp) hk h0 h1
  obtain ⟨a3, a4, a5, a6⟩ := a3 h
  refine ⟨_, _, _, _, _, _, rfl, by omega, by omega, by omega, ?_, ?_⟩
  · rw [dim_alt, ← e]; omega
  · rw [dbmI, ← e, ← a6]; omega
theorem good2 {n : Int} {t t2 t3 : Tok} (h : ¬ r < [-1, 0, 31, 59, 90, 120, 151, 181, 212, 243, 273, 304, 334].getD k.toNat 0 + if decide (2 < k ∧ lp = true) = true then 1 else 0)
    (he : (lp == leapB Y) = true) (hk : k = (r + 50).fdiv (2 ^ Int.toNat 5)) (h0 : 0 ≤ r) (h1 : r < 365) (hn : dbyI Y + r + 1 = n) :
    IsYmd n { cls := .type "tuple", data := .seq #[.int Y t, .int k t2, .int (r - ([-1, 0, 31, 59, 90, 120, 151, 181, 212, 243, 273, 304, 334].getD k.toNat 0 + if decide (2 < k ∧ lp = true) = true then 1 else 0) + 1) t3] } := by
  have e := eq_of_beq he
  simp only [ifA] at h
  simp only [ifA]
  obtain ⟨a1, a2, a3, _⟩ := tab (lp := lp) hk h0 h1
  have a3 := a3 h
  refine ⟨_, _, _, _, _, _, rfl, by omega, by omega, by omega, ?_, ?_⟩
  · rw [dim_alt, ← e]; omega
  · rw [dbmI, ← e]; omega
end
end Mine
end
section
namespace Mine
theorem log_small {a : Int} (h1 : -10000000000 < a) (h2 : a < 10000000000) : a.natAbs.log2 < 1920 := by
  have h : a.natAbs < 2 ^ 34 := by omega
  by_cases h0 : a.natAbs = 0
  · rw [h0]; decide
  · exact Nat.lt_of_lt_of_le (Nat.log2_lt h0 |>.mpr h) (by decide)
theorem lenI {n : Int} (h1 : -10000000000 < n) (h2 : n < 10000000000) : (PySem.Str.ofString (toString n)).length ≤ 20 := by
  have e := int_text_length_le10 (a := n) (k := 10) (by decide) (by omega)
  rw [PySem.ofString_length]
  omega
theorem lenA {x y : PySem.Str} {a b : Nat} (h1 : x.length ≤ a) (h2 : y.length ≤ b) : (x ++ y).length ≤ a + b := by
  rw [PySem.Str.length_append]; exact Nat.add_le_add h1 h2
theorem lenE : PySem.Str.empty.length ≤ 0 := Nat.le_refl 0
theorem leafI {n : Int} (h1 : -10000000000 < n) (h2 : n < 10000000000) : (PySem.Str.ofString (toString n)).length ≤ 1000 := Nat.le_trans (lenI h1 h2) (by decide)
theorem leafL {l : String} (h : (PySem.Str.ofString l).length ≤ 1000) : (PySem.Str.ofString l).length ≤ 1000 := h
theorem leafS {x : PySem.Str} {m : Nat} (h : x.length ≤ m) (hm : m ≤ 1000) : x.length ≤ 1000 := Nat.le_trans h hm
theorem fitLen {x : PySem.Str} {n : Nat} (h : x.length ≤ n) (hn : n ≤ 16000000) : x.length ≤ sizeLine := by rw [sizeLine_eq]; omega
theorem fit1 {x1 : PySem.Str} (h1 : x1.length ≤ 1000) : (PySem.Str.empty ++ x1).length ≤ sizeLine := fitLen (lenA (lenE) h1) (by decide)
theorem fit2 {x1 x2 : PySem.Str} (h1 : x1.length ≤ 1000) (h2 : x2.length ≤ 1000) : (PySem.Str.empty ++ x1 ++ x2).length ≤ sizeLine := fitLen (lenA (lenA (lenE) h1) h2) (by decide)
theorem fit3 {x1 x2 x3 : PySem.Str} (h1 : x1.length ≤ 1000) (h2 : x2.length ≤ 1000) (h3 : x3.length ≤ 1000) : (PySem.Str.empty ++ x1 ++ x2 ++ x3).length ≤ sizeLine := fitLen (lenA (lenA (lenA (lenE) h1) h2) h3) (by decide)
theorem fit4 {x1 x2 x3 x4 : PySem.Str} (h1 : x1.length ≤ 1000) (h2 : x2.length ≤ 1000) (h3 : x3.length ≤ 1000) (h4 : x4.length ≤ 1000) : (PySem.Str.empty ++ x1 ++ x2 ++ x3 ++ x4).length ≤ sizeLine := fitLen (lenA (lenA (lenA (lenA (lenE) h1) h2) h3) h4) (by decide)
theorem fit5 {x1 x2 x3 x4 x5 : PySem.Str} (h1 : x1.length ≤ 1000) (h2 : x2.length ≤ 1000) (h3 : x3.length ≤ 1000) (h4 : x4.length ≤ 1000) (h5 : x5.length ≤ 1000) : (PySem.Str.empty ++ x1 ++ x2 ++ x3 ++ x4 ++ x5).length ≤ sizeLine := fitLen (lenA (lenA (lenA (lenA (lenA (lenE) h1) h2) h3) h4) h5) (by decide)
theorem fit6 {x1 x2 x3 x4 x5 x6 : PySem.Str} (h1 : x1.length ≤ 1000) (h2 : x2.length ≤ 1000) (h3 : x3.length ≤ 1000) (h4 : x4.length ≤ 1000) (h5 : x5.length ≤ 1000) (h6 : x6.length ≤ 1000) : (PySem.Str.empty ++ x1 ++ x2 ++ x3 ++ x4 ++ x5 ++ x6).length ≤ sizeLine := fitLen (lenA (lenA (lenA (lenA (lenA (lenA (lenE) h1) h2) h3) h4) h5) h6) (by decide)
theorem fit7 {x1 x2 x3 x4 x5 x6 x7 : PySem.Str} (h1 : x1.length ≤ 1000) (h2 : x2.length ≤ 1000) (h3 : x3.length ≤ 1000) (h4 : x4.length ≤ 1000) (h5 : x5.length ≤ 1000) (h6 : x6.length ≤ 1000) (h7 : x7.length ≤ 1000) : (PySem.Str.empty ++ x1 ++ x2 ++ x3 ++ x4 ++ x5 ++ x6 ++ x7).length ≤ sizeLine := fitLen (lenA (lenA (lenA (lenA (lenA (lenA (lenA (lenE) h1) h2) h3) h4) h5) h6) h7) (by decide)

def longB (y : Int) : Bool := (dbyI y + 1) % 7 == 4 || ((dbyI y + 1) % 7 == 3 && leapB y)
def WeekOk (y w : Int) : Prop := (0 < w ∧ w < 53) ∨ (w = 53 ∧ longB y = true)
instance (y w : Int) : Decidable (WeekOk y w) := by unfold WeekOk; infer_instance
def badG (y w d : Int) : Option PySem.Str :=
  if ¬ (1 ≤ y ∧ y ≤ 9999) then some (PySem.Str.empty ++ PySem.Str.ofString "Year is out of range: " ++ PySem.Str.ofString (toString y))
  else if ¬ WeekOk y w then some (PySem.Str.empty ++ PySem.Str.ofString "Invalid week: " ++ PySem.Str.ofString (toString w))
  else if ¬ (0 < d ∧ d < 8) then some (PySem.Str.empty ++ PySem.Str.ofString "Invalid weekday: " ++ PySem.Str.ofString (toString d) ++ PySem.Str.ofString " (range is [1, 7])")
  else none
/-- a ValueError with this text, or A -/
abbrev cOr (r : Option PySem.Str) (A : Cont) : Cont := fun base h₀ L m news fr s Q E => (∀ msg, r = some msg → cBad (fun k => [.str msg k]) base h₀ L m news fr s Q E) ∧ (r = none → A base h₀ L m news fr s Q E)
section
variable {y w d : Int}
theorem wk1 (h1 : 0 < w) (h2 : w < 53) : WeekOk y w := .inl ⟨h1, h2⟩
theorem wk2 (h1 : w = 53) (h2 : (dbyI y + dbmI y 1 + 1).fmod 7 = 4) : WeekOk y w := .inr ⟨h1, by rw [dbm1] at h2; simp only [fm] at h2; simp only [longB, Bool.or_eq_true, beq_iff_eq]; left; omega⟩
theorem wk3 (h1 : w = 53) (h2 : (dbyI y + dbmI y 1 + 1).fmod 7 = 3) (h3 : leapB y = true) : WeekOk y w := .inr ⟨h1, by rw [dbm1] at h2; simp only [fm] at h2; simp only [longB, Bool.or_eq_true, Bool.and_eq_true, beq_iff_eq]; right; exact ⟨by omega, h3⟩⟩
theorem nw1 (h1 : w ≠ 53) (h2 : ¬ (0 < w ∧ w < 53)) : ¬ WeekOk y w := fun h => h.elim h2 fun q => h1 q.1
theorem nw2 (h1 : w = 53) (h2 : (dbyI y + dbmI y 1 + 1).fmod 7 ≠ 4) (h3 : (dbyI y + dbmI y 1 + 1).fmod 7 ≠ 3) : ¬ WeekOk y w := fun h => by
  rw [dbm1] at h2 h3; simp only [fm] at h2 h3
  rcases h with h | ⟨_, h⟩
  · omega
  · simp only [longB, Bool.or_eq_true, Bool.and_eq_true, beq_iff_eq] at h; omega
theorem nw3 (h1 : w = 53) (h2 : (dbyI y + dbmI y 1 + 1).fmod 7 = 3) (h3 : leapB y = false) : ¬ WeekOk y w := fun h => by
  rw [dbm1] at h2; simp only [fm] at h2
  rcases h with h | ⟨_, h⟩
  · omega
  · simp [longB, h3] at h; omega
theorem gN (h1 : 1 ≤ y) (h2 : y ≤ 9999) (h3 : WeekOk y w) (h4 : 0 < d) (h5 : d < 8) : badG y w d = none := by
  unfold badG; rw [if_neg (fun h => h ⟨h1, h2⟩), if_neg (fun h => h h3), if_neg (fun h => h ⟨h4, h5⟩)]
theorem gY (h : ¬ (1 ≤ y ∧ y ≤ 9999)) : badG y w d = some (PySem.Str.empty ++ PySem.Str.ofString "Year is out of range: " ++ PySem.Str.ofString (toString y)) := by
  unfold badG; rw [if_pos h]
theorem gW (h1 : 1 ≤ y) (h2 : y ≤ 9999) (h3 : ¬ WeekOk y w) : badG y w d = some (PySem.Str.empty ++ PySem.Str.ofString "Invalid week: " ++ PySem.Str.ofString (toString w)) := by
  unfold badG; rw [if_neg (fun h => h ⟨h1, h2⟩), if_pos h3]
theorem gD (h1 : 1 ≤ y) (h2 : y ≤ 9999) (h3 : WeekOk y w) (h4 : ¬ (0 < d ∧ d < 8)) : badG y w d = some (PySem.Str.empty ++ PySem.Str.ofString "Invalid weekday: " ++ PySem.Str.ofString (toString d) ++ PySem.Str.ofString " (range is [1, 7])") := by
  unfold badG; rw [if_neg (fun h => h ⟨h1, h2⟩), if_neg (fun h => h h3), if_pos h4]
end

end Mine
end
section
namespace Mine
/-- a list that is the date of the ordinal n -/
def IsLst (n : Int) (o : Obj) : Prop := ∃ (y m d : Int) (ty tm td : Tok) (k : Nat), o = W.listOf #[.int y ty, .int m tm, .int d td] k ∧ 1 ≤ m ∧ m ≤ 12 ∧ 1 ≤ d ∧ d ≤ dimI y m ∧ dbyI y + dbmI y m + d = n
/-- a list of these three -/
def IsLst3 (y m d : Int) (o : Obj) : Prop := ∃ (ty tm td : Tok) (k : Nat), o = W.listOf #[.int y ty, .int m tm, .int d td] k
end Mine
end
section
namespace Mine
def ylI (y : Int) : Int := 365 + if leapB y = true then 1 else 0
theorem dby_succ (y : Int) : dbyI (y + 1) = dbyI y + ylI y := by
  have h := leap_iff y
  unfold dbyI ylI
  split
  · have := h.mp ‹_›; omega
  · have : ¬ (y % 4 = 0 ∧ (y % 100 ≠ 0 ∨ y % 400 = 0)) := fun q => absurd (h.mpr q) ‹_›
    omega
def sumI (y m : Int) : Int := (List.map (fun k' => dimI y k') (rangeKs 1 (m - 1).toNat)).sum
/-- the weekday by month numbers -/
def wdI (p m d : Int) : Int := (p + p.fdiv 4 - p.fdiv 100 + p.fdiv 400 + [0, 3, 2, 5, 0, 3, 5, 1, 4, 6, 2, 4].getD (m - 1).toNat 0 + d + 6).fmod 7 + 1
/-- a day's number -/
def ordI (y m d : Int) : Int := dbyI y + dbmI y m + d
theorem dbm_tab0 : ∀ (a : Fin 13) (lp : Bool), 1 ≤ a.val →
    0 ≤ (([-1, 0, 31, 59, 90, 120, 151, 181, 212, 243, 273, 304, 334] : List Int).getD a.val 0 + if 2 < (a.val : Int) ∧ lp = true then 1 else 0) ∧
    (([-1, 0, 31, 59, 90, 120, 151, 181, 212, 243, 273, 304, 334] : List Int).getD a.val 0 + if 2 < (a.val : Int) ∧ lp = true then 1 else 0) + (if (a.val : Int) = 2 ∧ lp = true then 29 else ([-1, 31, 28, 31, 30, 31, 30, 31, 31, 30, 31, 30, 31] : List Int).getD a.val 0) ≤ 365 + (if lp = true then 1 else 0) := by decide +kernel
theorem dbm_bound {y m d : Int} (h0 : 1 ≤ m) (h1 : m ≤ 12) (h2 : 1 ≤ d) (h3 : d ≤ dimI y m) : 0 ≤ dbmI y m ∧ dbmI y m + d ≤ ylI y := by
  have t := dbm_tab0 ⟨m.toNat, by omega⟩ (leapB y) (by show 1 ≤ m.toNat; omega)
  have e1 : ((m.toNat : Nat) : Int) = m := by omega
  simp only [e1] at t
  have t' : 0 ≤ dbmI y m ∧ dbmI y m + dimI y m ≤ ylI y := t
  exact ⟨t'.1, by have := t'.2; omega⟩
/-- a list that is the name of the day with the number n: year, week, weekday -/
def IsName (n : Int) (o : Obj) : Prop := ∃ (Y W k : Int) (ty tw tk : Tok) (j : Nat), o = PySem.W.listOf #[.int Y ty, .int W tw, .int k tk] j ∧ 1 ≤ Y ∧ Y ≤ 9999 ∧ WeekOk Y W ∧ 1 ≤ k ∧ k ≤ 7 ∧ monI Y + (W - 1) * 7 + (k - 1) = n
section
variable {y m d p : Int} {ty tw tk : Tok} {j : Nat} (h1 : 1 ≤ y) (h2 : y ≤ 9999) (h3 : 1 ≤ m) (h4 : m ≤ 12) (h5 : 1 ≤ d) (h6 : d ≤ dimI y m)
include h1 h2 h3 h4 h5 h6
end
section
variable {y m d p S D : Int} {ty tw tk : Tok} {j : Nat} (h1 : 1 ≤ y) (h2 : y ≤ 9999) (h3 : 1 ≤ m) (h4 : m ≤ 12) (h5 : 1 ≤ d) (h6 : d ≤ dimI y m) (hS : S = sumI y m) (hD : D = wdI p m d)
include h1 h2 h3 h4 h5 h6 hS hD
end
end Mine
end
section
open PySem PySem.W PyProof.Rows PySem.NumText
namespace Mine
/-- a figure's sign -/
def dg (n : Nat) : Nat := 48 + n % 10
theorem dg_is (n : Nat) : 48 ≤ dg n ∧ dg n ≤ 57 := by unfold dg; omega
theorem char_back {c : Nat} (h : 48 ≤ c ∧ c ≤ 57) : (Char.ofNat c).toNat = c := by
  have e : c = 48 ∨ c = 49 ∨ c = 50 ∨ c = 51 ∨ c = 52 ∨ c = 53 ∨ c = 54 ∨ c = 55 ∨ c = 56 ∨ c = 57 := by omega
  rcases e with rfl | rfl | rfl | rfl | rfl | rfl | rfl | rfl | rfl | rfl <;> rfl
theorem map_back {cs : List Nat} (h : AllDigits cs) : (cs.map Char.ofNat).map Char.toNat = cs := by
  rw [List.map_map]
  conv => rhs; rw [← List.map_id cs]
  exact List.map_congr_left fun c hc => char_back (h c hc)
theorem padded : ∀ (cs : List Nat), AllDigits cs → cs ≠ [] → List.replicate (cs.length - (Nat.toDigits 10 (digitsVal cs)).length) 48 ++ (Nat.toDigits 10 (digitsVal cs)).map Char.toNat = cs := by
  intro cs h hne
  rw [toDigits_all cs h]
  have hs := List.takeWhile_append_dropWhile (p := fun x : Nat => x == 48) (l := cs)
  have hr : cs.takeWhile (· == 48) = List.replicate (cs.takeWhile (· == 48)).length 48 := List.eq_replicate_iff.mpr ⟨rfl, fun b hb => by
    have := List.all_eq_true.mp (List.all_takeWhile (p := fun x : Nat => x == 48) (l := cs)) b hb
    simpa using this⟩
  have hlen := congrArg List.length hs
  rw [List.length_append] at hlen
  cases hd : cs.dropWhile (· == 48) with
  | nil =>
    rw [hd] at hs hlen
    simp only [List.append_nil] at hs
    rw [hs] at hr
    show List.replicate (cs.length - 1) 48 ++ [48] = cs
    have hp : 0 < cs.length := List.length_pos_iff.mpr hne
    conv => rhs; rw [hr]
    rw [← List.replicate_succ', show cs.length - 1 + 1 = cs.length by omega]
  | cons c r =>
    rw [hd] at hs hlen
    have ha : AllDigits (c :: r) := fun x hx => h x (hs ▸ List.mem_append_right _ hx)
    show List.replicate (cs.length - ((c :: r).map Char.ofNat).length) 48 ++ ((c :: r).map Char.ofNat).map Char.toNat = cs
    rw [map_back ha, List.length_map, show cs.length - (c :: r).length = (cs.takeWhile (· == 48)).length by omega, ← hr]
    exact hs
open Builtin Builtin.Float in
theorem spec_text {spec : PySem.Str} {f : FormatSpec} {W : Nat} {a : Int} {cs : List Nat} (hp : parseFormatSpec spec.cps.toList "int" 62 = .ok f) (hgr : f.grouping = none) (hsg : f.sign = none) (hf : f.fill = 48) (hal : f.align = 61) (hw : f.width.getD 0 = W)
    (h0 : 0 ≤ a) (ha : AllDigits cs) (hl : cs.length = W) (hne : cs ≠ []) (hv : digitsVal cs = a.toNat) : intSpecTextOf spec a = ⟨cs.toArray⟩ := by
  have e : intSpecTextOf spec a = intSpecText f a := by unfold intSpecTextOf; rw [hp]
  rw [e, intSpecText_zero hgr hsg hf hal h0, hw]
  obtain ⟨n, rfl⟩ := Int.eq_ofNat_of_zero_le h0
  have hv' : digitsVal cs = n := by simpa using hv
  have p := padded cs ha hne
  rw [hv', hl] at p
  refine Str.ext' ?_
  rw [Str.cps_append]
  apply Array.toList_inj.mp
  rw [Array.toList_append, KIN.signs_num]
  exact p
def l2 (n : Nat) : List Nat := [dg (n / 10), dg n]
def l4 (n : Nat) : List Nat := [dg (n / 1000), dg (n / 100), dg (n / 10), dg n]
theorem all1 (n : Nat) : AllDigits [dg n] := by intro c hc; simp only [List.mem_cons, List.not_mem_nil, or_false] at hc; rcases hc with rfl; exact dg_is _
theorem all2 (n : Nat) : AllDigits (l2 n) := by intro c hc; simp only [l2, List.mem_cons, List.not_mem_nil, or_false] at hc; rcases hc with rfl | rfl <;> exact dg_is _
theorem all4 (n : Nat) : AllDigits (l4 n) := by intro c hc; simp only [l4, List.mem_cons, List.not_mem_nil, or_false] at hc; rcases hc with rfl | rfl | rfl | rfl <;> exact dg_is _
theorem val1 {n : Nat} (h : n < 10) : digitsVal [dg n] = n := by simp only [digitsVal, List.foldl_cons, List.foldl_nil, dg]; omega
theorem val2 {n : Nat} (h : n < 100) : digitsVal (l2 n) = n := by simp only [digitsVal, l2, List.foldl_cons, List.foldl_nil, dg]; omega
theorem val4 {n : Nat} (h : n < 10000) : digitsVal (l4 n) = n := by simp only [digitsVal, l4, List.foldl_cons, List.foldl_nil, dg]; omega
theorem fmt4 {y : Int} (h0 : 0 ≤ y) (h1 : y < 10000) : intSpecTextOf (PySem.Str.ofString "04d") y = ⟨(l4 y.toNat).toArray⟩ :=
  spec_text (W := 4) (f := { fill := 48, align := 61, width := some 4, type := some 100 }) (by rfl) rfl rfl rfl rfl rfl h0 (all4 _) rfl (by simp [l4]) (val4 (by omega))
theorem fmt2 {y : Int} (h0 : 0 ≤ y) (h1 : y < 100) : intSpecTextOf (PySem.Str.ofString "02d") y = ⟨(l2 y.toNat).toArray⟩ :=
  spec_text (W := 2) (f := { fill := 48, align := 61, width := some 2, type := some 100 }) (by rfl) rfl rfl rfl rfl rfl h0 (all2 _) rfl (by simp [l2]) (val2 (by omega))
theorem fmt1 {y : Int} (h0 : 0 ≤ y) (h1 : y < 10) : PySem.Str.ofString (toString y) = ⟨[dg y.toNat].toArray⟩ := by
  obtain ⟨n, rfl⟩ := Int.eq_ofNat_of_zero_le h0
  have hn : n < 10 := by omega
  refine Str.ext' (Array.toList_inj.mp ?_)
  rw [KIN.signs_num, Nat.toDigits_of_lt_base hn, digitChar_of _ hn]
  show [(Char.ofNat (48 + n)).toNat] = [dg ((n : Int)).toNat]
  rw [char_back (by omega), Int.toNat_natCast, dg, Nat.mod_eq_of_lt hn]
theorem read_digits {cs : List Nat} (h : AllDigits cs) (hne : cs ≠ []) (hl : cs.length ≤ 10) {n : Int} (hv : digitsVal cs = n.toNat) (h0 : 0 ≤ n) : PySem.intText? ⟨cs.toArray⟩ = some n := by
  have e := intText_digits (x := ⟨cs.toArray⟩) (by simpa using h) (by simpa using hne) (by show cs.toArray.size ≤ 4300; rw [List.size_toArray]; omega)
  rw [e]
  simp only [hv]
  congr 1
  omega
/-- a text that says year and week -/
structure WkS (x : PySem.Str) (y w9 : Int) : Prop where
  l1 : 7 ≤ x.length
  l2 : x.length ≤ 10
  len : ([7, 8, 10].any fun k => k == (x.length : Int)) = true
  year : PySem.intText? (PySem.Txt.slice x (some 0) (some 4)) = some y
  b1 : -100000 < y
  b2 : y < 100000
  w : (PySem.Txt.slice x (some (4 + (if (PySem.Txt.item x 4 == PySem.Str.ofString "-") = true then 1 else 0))) (some ((4 + (if (PySem.Txt.item x 4 == PySem.Str.ofString "-") = true then 1 else 0)) + 1)) == PySem.Str.ofString "W") = true
  week : PySem.intText? (PySem.Txt.slice x (some ((4 + (if (PySem.Txt.item x 4 == PySem.Str.ofString "-") = true then 1 else 0)) + 1)) (some ((4 + (if (PySem.Txt.item x 4 == PySem.Str.ofString "-") = true then 1 else 0)) + 1 + 2))) = some w9
  b3 : -100000 < w9
  b4 : w9 < 100000
  ends : ¬ (4 + (if (PySem.Txt.item x 4 == PySem.Str.ofString "-") = true then 1 else 0)) + 1 + 2 < (x.length : Int)
/-- a text that says year, week and weekday -/
structure WkL (x : PySem.Str) (y w9 d9 : Int) : Prop where
  l1 : 7 ≤ x.length
  l2 : x.length ≤ 10
  len : ([7, 8, 10].any fun k => k == (x.length : Int)) = true
  year : PySem.intText? (PySem.Txt.slice x (some 0) (some 4)) = some y
  b1 : -100000 < y
  b2 : y < 100000
  w : (PySem.Txt.slice x (some (4 + (if (PySem.Txt.item x 4 == PySem.Str.ofString "-") = true then 1 else 0))) (some ((4 + (if (PySem.Txt.item x 4 == PySem.Str.ofString "-") = true then 1 else 0)) + 1)) == PySem.Str.ofString "W") = true
  week : PySem.intText? (PySem.Txt.slice x (some ((4 + (if (PySem.Txt.item x 4 == PySem.Str.ofString "-") = true then 1 else 0)) + 1)) (some ((4 + (if (PySem.Txt.item x 4 == PySem.Str.ofString "-") = true then 1 else 0)) + 1 + 2))) = some w9
  b3 : -100000 < w9
  b4 : w9 < 100000
  goes : (4 + (if (PySem.Txt.item x 4 == PySem.Str.ofString "-") = true then 1 else 0)) + 1 + 2 < (x.length : Int)
  dash : (((PySem.Txt.slice x (some ((4 + (if (PySem.Txt.item x 4 == PySem.Str.ofString "-") = true then 1 else 0)) + 1 + 2)) (some ((4 + (if (PySem.Txt.item x 4 == PySem.Str.ofString "-") = true then 1 else 0)) + 1 + 2 + 1))) == PySem.Str.ofString "-") != (PySem.Txt.item x 4 == PySem.Str.ofString "-")) = false
  day : PySem.intText? (PySem.Txt.slice x (some ((4 + (if (PySem.Txt.item x 4 == PySem.Str.ofString "-") = true then 1 else 0)) + 1 + 2 + (if (PySem.Txt.item x 4 == PySem.Str.ofString "-") = true then 1 else 0))) (some ((4 + (if (PySem.Txt.item x 4 == PySem.Str.ofString "-") = true then 1 else 0)) + 1 + 2 + (if (PySem.Txt.item x 4 == PySem.Str.ofString "-") = true then 1 else 0) + 1))) = some d9
  b5 : -100000 < d9
  b6 : d9 < 100000
theorem not_dash {g : Nat} (h : g ≠ 45) : ((⟨#[g]⟩ : PySem.Str) == PySem.Str.ofString "-") = false := by
  have e : PySem.Str.ofString "-" = ⟨#[45]⟩ := by decide +kernel
  rw [e, beq_eq_false_iff_ne]
  intro q
  exact h (by simpa using q)
section
variable {a b c d e f g : Nat} {y w k : Int}
theorem wkS7 (hy : PySem.intText? ⟨#[a, b, c, d]⟩ = some y) (hw : PySem.intText? ⟨#[e, f]⟩ = some w) (b1 : 0 ≤ y) (b2 : y < 10000) (b3 : 0 ≤ w) (b4 : w < 100) : WkS ⟨#[a, b, c, d, 87, e, f]⟩ y w where
  l1 := by show (7 : Nat) ≤ 7; decide
  l2 := by show (7 : Nat) ≤ 10; decide
  len := rfl
  year := hy
  b1 := by omega
  b2 := by omega
  w := (by rw [show (if (PySem.Txt.item (⟨#[a, b, c, d, 87, e, f]⟩ : PySem.Str) 4 == PySem.Str.ofString "-") = true then (1 : Int) else 0) = 0 from rfl]; rfl)
  week := (by rw [show (if (PySem.Txt.item (⟨#[a, b, c, d, 87, e, f]⟩ : PySem.Str) 4 == PySem.Str.ofString "-") = true then (1 : Int) else 0) = 0 from rfl]; exact hw)
  b3 := by omega
  b4 := by omega
  ends := by show ¬ (7 : Int) < 7; decide
theorem wkS8 (hy : PySem.intText? ⟨#[a, b, c, d]⟩ = some y) (hw : PySem.intText? ⟨#[e, f]⟩ = some w) (b1 : 0 ≤ y) (b2 : y < 10000) (b3 : 0 ≤ w) (b4 : w < 100) : WkS ⟨#[a, b, c, d, 45, 87, e, f]⟩ y w where
  l1 := by show (7 : Nat) ≤ 8; decide
  l2 := by show (8 : Nat) ≤ 10; decide
  len := rfl
  year := hy
  b1 := by omega
  b2 := by omega
  w := (by rw [show (if (PySem.Txt.item (⟨#[a, b, c, d, 45, 87, e, f]⟩ : PySem.Str) 4 == PySem.Str.ofString "-") = true then (1 : Int) else 0) = 1 from rfl]; rfl)
  week := (by rw [show (if (PySem.Txt.item (⟨#[a, b, c, d, 45, 87, e, f]⟩ : PySem.Str) 4 == PySem.Str.ofString "-") = true then (1 : Int) else 0) = 1 from rfl]; exact hw)
  b3 := by omega
  b4 := by omega
  ends := by show ¬ (8 : Int) < 8; decide
theorem wkL8 (hy : PySem.intText? ⟨#[a, b, c, d]⟩ = some y) (hw : PySem.intText? ⟨#[e, f]⟩ = some w) (hk : PySem.intText? ⟨#[g]⟩ = some k) (hg : g ≠ 45) (b1 : 0 ≤ y) (b2 : y < 10000) (b3 : 0 ≤ w) (b4 : w < 100) (b5 : 0 ≤ k) (b6 : k < 10) : WkL ⟨#[a, b, c, d, 87, e, f, g]⟩ y w k where
  l1 := by show (7 : Nat) ≤ 8; decide
  l2 := by show (8 : Nat) ≤ 10; decide
  len := rfl
  year := hy
  b1 := by omega
  b2 := by omega
  w := (by rw [show (if (PySem.Txt.item (⟨#[a, b, c, d, 87, e, f, g]⟩ : PySem.Str) 4 == PySem.Str.ofString "-") = true then (1 : Int) else 0) = 0 from rfl]; rfl)
  week := (by rw [show (if (PySem.Txt.item (⟨#[a, b, c, d, 87, e, f, g]⟩ : PySem.Str) 4 == PySem.Str.ofString "-") = true then (1 : Int) else 0) = 0 from rfl]; exact hw)
  b3 := by omega
  b4 := by omega
  goes := by show (7 : Int) < 8; decide
  dash := (by rw [show (if (PySem.Txt.item (⟨#[a, b, c, d, 87, e, f, g]⟩ : PySem.Str) 4 == PySem.Str.ofString "-") = true then (1 : Int) else 0) = 0 from rfl]; show (((⟨#[g]⟩ : PySem.Str) == PySem.Str.ofString "-") != false) = false; rw [not_dash hg]; rfl)
  day := (by rw [show (if (PySem.Txt.item (⟨#[a, b, c, d, 87, e, f, g]⟩ : PySem.Str) 4 == PySem.Str.ofString "-") = true then (1 : Int) else 0) = 0 from rfl]; exact hk)
  b5 := by omega
  b6 := by omega
theorem wkL10 (hy : PySem.intText? ⟨#[a, b, c, d]⟩ = some y) (hw : PySem.intText? ⟨#[e, f]⟩ = some w) (hk : PySem.intText? ⟨#[g]⟩ = some k) (b1 : 0 ≤ y) (b2 : y < 10000) (b3 : 0 ≤ w) (b4 : w < 100) (b5 : 0 ≤ k) (b6 : k < 10) : WkL ⟨#[a, b, c, d, 45, 87, e, f, 45, g]⟩ y w k where
  l1 := by show (7 : Nat) ≤ 10; decide
  l2 := by show (10 : Nat) ≤ 10; decide
  len := rfl
  year := hy
  b1 := by omega
  b2 := by omega
  w := (by rw [show (if (PySem.Txt.item (⟨#[a, b, c, d, 45, 87, e, f, 45, g]⟩ : PySem.Str) 4 == PySem.Str.ofString "-") = true then (1 : Int) else 0) = 1 from rfl]; rfl)
  week := (by rw [show (if (PySem.Txt.item (⟨#[a, b, c, d, 45, 87, e, f, 45, g]⟩ : PySem.Str) 4 == PySem.Str.ofString "-") = true then (1 : Int) else 0) = 1 from rfl]; exact hw)
  b3 := by omega
  b4 := by omega
  goes := by show (8 : Int) < 10; decide
  dash := (by rw [show (if (PySem.Txt.item (⟨#[a, b, c, d, 45, 87, e, f, 45, g]⟩ : PySem.Str) 4 == PySem.Str.ofString "-") = true then (1 : Int) else 0) = 1 from rfl]; rfl)
  day := (by rw [show (if (PySem.Txt.item (⟨#[a, b, c, d, 45, 87, e, f, 45, g]⟩ : PySem.Str) 4 == PySem.Str.ofString "-") = true then (1 : Int) else 0) = 1 from rfl]; exact hk)
  b5 := by omega
  b6 := by omega
end
theorem yr_reads {y : Int} (h0 : 0 ≤ y) (h1 : y < 10000) : PySem.intText? ⟨#[dg (y.toNat / 1000), dg (y.toNat / 100), dg (y.toNat / 10), dg y.toNat]⟩ = some y :=
  read_digits (all4 y.toNat) (by simp [l4]) (by simp [l4]) (val4 (by omega)) h0
theorem wk_reads {y : Int} (h0 : 0 ≤ y) (h1 : y < 100) : PySem.intText? ⟨#[dg (y.toNat / 10), dg y.toNat]⟩ = some y :=
  read_digits (all2 y.toNat) (by simp [l2]) (by simp [l2]) (val2 (by omega)) h0
theorem dy_reads {y : Int} (h0 : 0 ≤ y) (h1 : y < 10) : PySem.intText? ⟨#[dg y.toNat]⟩ = some y :=
  read_digits (all1 y.toNat) (by simp) (by simp) (val1 (by omega)) h0
end Mine
end
section
open PySem PySem.W PyProof.Rows PySem.Spec PySem.Calls
namespace Mine
/-- what is known of the place at which a walk stands -/
structure Pl (A₀ : Around) (base : Heap) (outer : List Env) (K : Frag) (p : Program) (loose : List Str) (mean : ExcName → Option Value) (mg mb : Str → Option Value) (g : Heap) : Prop where
  below : Below A₀ base outer g
  inK : K.In g
  top : Top p loose mean mg mb g
  dicts : KtsDicts (outer.filterMap (·.frame)) g

/-- a contract of a def that catches what flies: the ground may turn -/
abbrev CtrT (prog : Program) (w : World) (K : Frag) (p : Program) (loose : List Str) (mean : ExcName → Option Value) (mg mb : Str → Option Value) (f : Addr) (d u : Nat) (vs : List Value) (pre : List (Addr × Obj) → Prop) (P : Value → List (Addr × Obj) → Prop) : Prop :=
  ∀ (dp un : Nat) (gd : Option (List Code)) (cn : Str) (cs : Scope) (a : Addr) (ccd : Value) (cl : List (Str × Addr)) (outer : List Env) (A₀ : Around) (base h₀ g₀ : Heap) (L : Addr) (m : Str → Option Value) (news : List (Addr × Obj)) (s : Shared) (Q E : Value → Shared → Prop),
    Below A₀ base outer h₀ → Fr h₀ L s.heap m → K.In h₀ → News h₀ L s.heap news → Top p loose mean mg mb h₀ → K.In base → Top p loose mean mg mb base → KtsDicts (outer.filterMap (·.frame)) h₀ → KtsTurn (outer.filterMap (·.frame)) g₀ h₀ → cs.kind = .function →
    dp + d < recursionLimit → un + u < cLine → pre news →
    (∀ (g' : Heap) (v : Value) (new : List (Addr × Obj)) (h' : Heap) (tk' : Nat), P v new → KtsTurn (outer.filterMap (·.frame)) g₀ g' → Fr g' L h' m → News g' L h' (new ++ news) → (∀ q ∈ new, ∀ p ∈ news, p.1 ≠ q.1) → Below A₀ base outer g' → K.In g' → Top p loose mean mg mb g' → KtsDicts (outer.filterMap (·.frame)) g' → Q v { s with heap := h', toks := tk' }) →
    wpAny (model prog w) (ktrTop dp un gd cn cs L a ccd cl outer) (call (.ref f) vs) Q E s

section
variable {prog : Program} {w : World} {K : Frag} {p : Program} {loose : List Str} {mean : ExcName → Option Value} {mg mb : Str → Option Value} {f : Addr} {d u : Nat} {vs : List Value}
   {dp un : Nat} {gd : Option (List Code)} {cn : Str} {cs : Scope} {a : Addr} {ccd : Value} {cl : List (Str × Addr)} {outer : List Env} {A₀ : Around} {base h₀ g₀ : Heap} {L : Addr} {m : Str → Option Value} {news : List (Addr × Obj)} {s : Shared} {Q E : Value → Shared → Prop}
end

section
variable {prog : Program} {w : World} {A₀ A : Around} {s : Shared} {base h₀ g₀ : Heap} {outer : List Env} {L : Addr} {m : Str → Option Value} {env : Env} {news : List (Addr × Obj)} {K : Frag} {p : Program} {loose : List Str} {mean : ExcName → Option Value} {mg mb : Str → Option Value}
  {R : Result → Shared → Prop} {name qual : Str} {params : Arguments} {body : List Stmt} {scope : Scope} {dV kV doc pm cdv ct oc : Value} {an od : Option Addr} {osl : Array (Option Value)} {f : Addr} {args : Args} {binds : List (Str × Value)}

end
section
variable {prog : Program} {w : World} {A₀ : Around} {E : Value → Shared → Prop} {s' : Shared} {base g g₀ G : Heap} {outer : List Env} {L a e t : Addr} {m : Str → Option Value} {name : Str} {scope : Scope} {cd : Value}
  {vs : List Value} {n : Str} {b₀ : Stmt} {suite : List Stmt} {pos np : Pos} {rest : List ExceptHandler} {Q : Flow → Shared → Prop} {news : List (Addr × Obj)} {KF : Frag}
  {p : Program} {loose : List Str} {mean : ExcName → Option Value} {mg mb : Str → Option Value}
/-- what was caught: its texts lie in the ledger, behind all that was made before -/
def Caught (vs : List Value) (o : Obj) : Prop := o.cls = .type "tuple" ∧ ∃ n, o.data = .seq vs.toArray n
end
end Mine
end
section
open PySem PySem.W PyProof.Rows PySem.Spec PySem.Calls PyProof.Rows.LCg
namespace Mine
/-- the end of a turn of a block: the ground may have turned, the ledger grown -/
def TurnEnd (Wd : Heap → Prop) (L : Addr) (m : Str → Option Value) (s₁ : Shared) (I : Addr) (oI : Obj) (C : Addr) (oC : Obj) (D : Addr) (oD : Obj) (news₀ : List (Addr × Obj)) (J : List (Addr × Obj) → Prop) (s₂ : Shared) : Prop :=
  ∃ g h' tk tl, s₂ = { s₁ with heap := h', toks := tk } ∧ Wd g ∧ Fr g L h' m ∧ News g L h' ((I, oI) :: (C, oC) :: (D, oD) :: (news₀ ++ tl)) ∧ Off3 I C D (news₀ ++ tl) ∧ J tl
section
variable {prog : Program} {w : World} {A : Around} {E : Value → Shared → Prop} {s : Shared} {L : Addr} {m : Str → Option Value} {env : Env}
def AllHas {α : Type} (Has : List (Addr × Obj) → Value → α → Prop) (tl : List (Addr × Obj)) (ys : List Value) (xs : List α) : Prop := ys.length = xs.length ∧ ∀ (i : Nat) (x : α), xs[i]? = some x → ∃ v, ys[i]? = some v ∧ Has tl v x
theorem AllHas.nil {α : Type} {Has : List (Addr × Obj) → Value → α → Prop} {tl : List (Addr × Obj)} : AllHas Has tl [] [] := ⟨rfl, fun i x e => by simp at e⟩
theorem AllHas.more {α : Type} {Has : List (Addr × Obj) → Value → α → Prop} {tl tl' : List (Addr × Obj)} {ys : List Value} {xs : List α} (mono : ∀ v x, Has tl v x → Has tl' v x) (h : AllHas Has tl ys xs) : AllHas Has tl' ys xs :=
  ⟨h.1, fun i x e => let ⟨v, e', hv⟩ := h.2 i x e; ⟨v, e', mono v x hv⟩⟩
theorem AllHas.append {α : Type} {Has : List (Addr × Obj) → Value → α → Prop} {tl : List (Addr × Obj)} {ys ys' : List Value} {xs xs' : List α} (h : AllHas Has tl ys xs) (h' : AllHas Has tl ys' xs') : AllHas Has tl (ys ++ ys') (xs ++ xs') := by
  refine ⟨by rw [List.length_append, List.length_append, h.1, h'.1], fun i x e => ?_⟩
  by_cases hi : i < xs.length
  · rw [List.getElem?_append_left hi] at e
    rw [List.getElem?_append_left (by rw [h.1]; exact hi)]
    exact h.2 i x e
  · rw [List.getElem?_append_right (Nat.not_lt.mp hi)] at e
    rw [List.getElem?_append_right (by rw [h.1]; exact Nat.not_lt.mp hi), h.1]
    exact h'.2 _ x e
theorem AllHas.one {α : Type} {Has : List (Addr × Obj) → Value → α → Prop} {tl : List (Addr × Obj)} {v : Value} {x : α} (h : Has tl v x) : AllHas Has tl [v] [x] :=
  ⟨rfl, fun i y e => by
    cases i with
    | zero => simp at e; subst e; exact ⟨v, rfl, h⟩
    | succ i => simp at e⟩
/-- what a turn yields: taken or left -/
def Yields {α : Type} (Has : List (Addr × Obj) → Value → α → Prop) (q : α → Bool) (x : α) (tl : List (Addr × Obj)) (y : Value) (tl' : List (Addr × Obj)) : Prop := q x = true ∧ Has tl' y x ∧ ∀ e ∈ tl, e ∈ tl'
def Leaves {α : Type} (q : α → Bool) (x : α) (tl tl' : List (Addr × Obj)) : Prop := q x = false ∧ ∀ e ∈ tl, e ∈ tl'

section
variable {α : Type} {Has : List (Addr × Obj) → Value → α → Prop} {q : α → Bool} {xs : List α}
end
/-- two ints in a tuple -/
abbrev tup2 (a b : Int) (t u : Tok) : Obj := { cls := .type "tuple", data := .seq #[.int a t, .int b u] }
def PairIn (tl : List (Addr × Obj)) (v : Value) (p : Int × Int) : Prop := ∃ a t u, v = .ref a ∧ (a, tup2 p.1 p.2 t u) ∈ tl
/-- a list comprehension over a ledger's list of pairs, with a test, bound to a name -/
def PairSrc (prog : Program) (w : World) (A : Around) (Wd : Heap → Prop) (L : Addr) (m : Str → Option Value) (env : Env) (c elt : Expr) (x x₂ : Str) (scope : Scope) (cl : List (Str × Addr)) (yn : Str) (Q : Flow → Shared → Prop) (xv : Value) (s₁ : Shared) : Prop :=
  ∃ (g₁ : Heap) (ax : Addr) (its : List Value) (k : Nat) (news₀ : List (Addr × Obj)) (ps : List (Int × Int)) (q : Int × Int → Bool), xv = .ref ax ∧ A.handled = none ∧ Wd g₁ ∧ Fr g₁ L s₁.heap m ∧ News g₁ L s₁.heap news₀ ∧ (ax, W.listOf its.toArray k) ∈ news₀ ∧ AllHas PairIn news₀ its ps ∧ its.length ≤ sizeLine ∧
    (∀ (p : Int × Int) (t u : Tok) I oI C oC D m₂ ys tl g h tk (E' : Value → Shared → Prop), p ∈ ps → m₂ x = some (.int p.1 t) → m₂ x₂ = some (.int p.2 u) → NsObj oC m₂ → Wd g → Fr g L h m → News g L h ((I, oI) :: (C, oC) :: (D, lst ys) :: (news₀ ++ tl)) → Off3 I C D (news₀ ++ tl) → ((@Ne Nat I C) ∧ (@Ne Nat I D) ∧ (@Ne Nat C D)) →
      wpAny (model prog w) A (isTrue c (compEnvC scope cl C env) (eval c (compEnvC scope cl C env))) (fun ok s₃ => if ok = true then
        wpAny (model prog w) A (eval elt (compEnvC scope cl C env)) (fun y s₄ => TurnEnd Wd L m { s₁ with heap := h, toks := tk } I oI C oC D (lst ys) news₀ (Yields PairIn q p tl y) s₄) E' s₃
        else TurnEnd Wd L m { s₁ with heap := h, toks := tk } I oI C oC D (lst ys) news₀ (Leaves q p tl) s₃) E' { s₁ with heap := h, toks := tk }) ∧
    ∀ D g h tk ys tl, AllHas PairIn tl ys (ps.filter q) → Wd g → Fr g L h (fun z => if z = yn then some (.ref D) else m z) → News g L h ((D, lst ys) :: (news₀ ++ tl)) → (∀ p ∈ news₀ ++ tl, p.1 ≠ D) → Q .next { s₁ with heap := h, toks := tk }
/-- a list comprehension over a range, with a test -/
def RangeSrc {α : Type} (f : Int → α) (Has : List (Addr × Obj) → Value → α → Prop) (prog : Program) (w : World) (A : Around) (Wd : Heap → Prop) (L : Addr) (m : Str → Option Value) (env : Env) (c elt : Expr) (x : Str) (scope : Scope) (cl : List (Str × Addr)) (Q : Value → Shared → Prop) (xv : Value) (s₁ : Shared) : Prop :=
  ∃ (g₁ : Heap) (r : Addr) (a b : Int) (t u v : Tok) (n : Nat) (news₀ : List (Addr × Obj)) (q : α → Bool), xv = .ref r ∧ A.handled = none ∧ Wd g₁ ∧ Fr g₁ L s₁.heap m ∧ News g₁ L s₁.heap news₀ ∧ IsRange s₁.heap r a b 1 t u v ∧ Builtin.Range.small a b 1 = true ∧ Builtin.Range.rangeSize a b 1 = ((n : Nat) : Int) ∧ n ≤ sizeLine ∧
    (∀ tl tl' v x, (∀ e ∈ tl, e ∈ tl') → Has tl v x → Has tl' v x) ∧
    (∀ (k : Int) (t : Tok) I oI C oC D m₂ ys tl g h tk (E' : Value → Shared → Prop), a ≤ k → k < a + (n : Int) → m₂ x = some (.int k t) → NsObj oC m₂ → Wd g → Fr g L h m → News g L h ((I, oI) :: (C, oC) :: (D, lst ys) :: (news₀ ++ tl)) → Off3 I C D (news₀ ++ tl) → ((@Ne Nat I C) ∧ (@Ne Nat I D) ∧ (@Ne Nat C D)) →
      wpAny (model prog w) A (isTrue c (compEnvC scope cl C env) (eval c (compEnvC scope cl C env))) (fun ok s₃ => if ok = true then
        wpAny (model prog w) A (eval elt (compEnvC scope cl C env)) (fun y s₄ => TurnEnd Wd L m { s₁ with heap := h, toks := tk } I oI C oC D (lst ys) news₀ (Yields Has q (f k) tl y) s₄) E' s₃
        else TurnEnd Wd L m { s₁ with heap := h, toks := tk } I oI C oC D (lst ys) news₀ (Leaves q (f k) tl) s₃) E' { s₁ with heap := h, toks := tk }) ∧
    ∀ D g h tk ys tl, AllHas Has tl ys (((rangeKs a n).map f).filter q) → Wd g → Fr g L h m → News g L h ((D, lst ys) :: (news₀ ++ tl)) → (∀ p ∈ news₀ ++ tl, p.1 ≠ D) → Q (.ref D) { s₁ with heap := h, toks := tk }
/-- a while whose turns may turn the ground -/
def WhileEnd (Wd : Heap → Prop) (L : Addr) (s : Shared) (J : Nat → (Str → Option Value) → List (Addr × Obj) → Prop) (n : Nat) (f : Flow) (s₃ : Shared) : Prop :=
  f = .next ∧ ∃ g h' tk m₂ news₂ n', s₃ = { s with heap := h', toks := tk } ∧ Wd g ∧ Fr g L h' m₂ ∧ News g L h' news₂ ∧ n' < n ∧ J n' m₂ news₂
section
variable {h₀ : Heap} {elt : Expr} {x : Str} {scope : Scope} {cl : List (Str × Addr)} {Fin : List Value → List (Addr × Obj) → Prop} {news : List (Addr × Obj)}
def TupNext (news : List (Addr × Obj)) (r : Int × Int) (tl : List (Addr × Obj)) (y : Value) (news' : List (Addr × Obj)) : Prop := ∃ tl', news' = news ++ tl' ∧ Yields PairIn (fun _ => true) r tl y tl'
end
/-- the place of a walk, its ground turned from g₀ -/
def WdOf (A₀ : Around) (base : Heap) (outer : List Env) (K : Frag) (p : Program) (loose : List Str) (mean : ExcName → Option Value) (mg mb : Str → Option Value) (g₀ g : Heap) : Prop :=
  Below A₀ base outer g ∧ K.In g ∧ Top p loose mean mg mb g ∧ KtsDicts (outer.filterMap (·.frame)) g ∧ KtsTurn (outer.filterMap (·.frame)) g₀ g
def rowI (y : Int) : List (Int × Int) := [(y - 1, 52), (y - 1, 53)] ++ (rangeKs 1 53).map (fun k => (y, k)) ++ [(y + 1, 1)]
end
end Mine
end
section
namespace Mine
theorem mon_succ (y : Int) : monI (y + 1) = monI y + 7 * (if WeekOk y 53 then 53 else 52) := by
  have h := dby_succ y
  unfold ylI at h
  have hw : WeekOk y 53 ↔ longB y = true := by
    unfold WeekOk
    constructor
    · rintro (⟨_, h⟩ | ⟨_, h⟩)
      · exact absurd h (by decide)
      · exact h
    · exact fun h => .inr ⟨rfl, h⟩
  have hl : longB y = true ↔ (dbyI y + 1) % 7 = 4 ∨ ((dbyI y + 1) % 7 = 3 ∧ leapB y = true) := by
    unfold longB; simp only [Bool.or_eq_true, Bool.and_eq_true, beq_iff_eq]
  unfold monI
  rw [h]
  cases hb : leapB y with
  | true =>
    simp only [hb, if_true, and_true] at h hl ⊢
    by_cases hc : WeekOk y 53
    · rw [if_pos hc]
      have := hl.mp (hw.mp hc)
      split <;> split <;> omega
    · rw [if_neg hc]
      have : ¬ ((dbyI y + 1) % 7 = 4 ∨ (dbyI y + 1) % 7 = 3) := fun q => hc (hw.mpr (hl.mpr q))
      split <;> split <;> omega
  | false =>
    simp only [hb, Bool.false_eq_true, if_false, and_false, or_false] at h hl ⊢
    by_cases hc : WeekOk y 53
    · rw [if_pos hc]
      have := hl.mp (hw.mp hc)
      split <;> split <;> omega
    · rw [if_neg hc]
      have : ¬ ((dbyI y + 1) % 7 = 4) := fun q => hc (hw.mpr (hl.mpr q))
      split <;> split <;> omega
/-- the weeks p lie one behind the other from the day s -/
def Chain (s : Int) (l : List (Int × Int)) : Prop := ∀ (i : Nat) (p : Int × Int), l[i]? = some p → 1 ≤ p.1 ∧ p.1 ≤ 9999 ∧ 1 ≤ p.2 ∧ p.2 ≤ 53 ∧ WeekOk p.1 p.2 ∧ monI p.1 + (p.2 - 1) * 7 = s + 7 * (i : Int)
def qa (p : Int × Int) : Bool := decide (0 < p.1 ∧ p.1 < 10000)
def qb (p : Int × Int) : Bool := decide (p.2 < 53 ∨ WeekOk p.1 53)
def weeksI (y : Int) : List (Int × Int) := ((rowI y).filter qa).filter qb
def yearWeeks (y : Int) : List (Int × Int) := (((rangeKs 1 53).map fun k => (y, k)).filter qa).filter qb
theorem mon_bounds (y : Int) : dbyI y - 2 ≤ monI y ∧ monI y ≤ dbyI y + 4 := by
  unfold monI; simp only; split <;> omega
end Mine
end
section
open PySem PySem.W PyProof.Rows PySem.Spec PySem.Calls PyProof.Rows.LCg
namespace Mine
theorem Fr.congr {g h : Heap} {L : Addr} {m m' : Str → Option Value} (e : ∀ z, m z = m' z) (F : Fr g L h m) : Fr g L h m' := by
  have : m = m' := funext e
  subst this; exact F
def IsCell (o : Obj) : Prop := ∃ v, o.data = .cell v
def notAt (a b : Addr) (l : List (Addr × Obj)) : List (Addr × Obj) := l.filter fun p => decide (p.1 ≠ a ∧ p.1 ≠ b)
section
variable {prog : Program} {w : World} {A : Around} {E : Value → Shared → Prop} {s : Shared} {L : Addr} {m : Str → Option Value} {env : Env}
/-- the frame's names between two turns of the halving -/
abbrev mJ (lo hi : Int) (t1 t2 : Tok) (u : Option Value) (m₀ : Str → Option Value) : Str → Option Value := fun z => if z = "low" then some (.int lo t1) else if z = "high" then some (.int hi t2) else if z = "middle" then u else m₀ z
def HalfEnd (Wd : Heap → Prop) (L : Addr) (s : Shared) (m₀ : Str → Option Value) (cY cW : Addr) (rest : List (Addr × Obj)) (s₀ n : Int) (len : Nat) (lo hi : Int) (f : Flow) (s₃ : Shared) : Prop :=
  f = .next ∧ ∃ g h' tk m₂ lo' hi' t1 t2 u oY oW, s₃ = { s with heap := h', toks := tk } ∧ Wd g ∧ Fr g L h' m₂ ∧ (∀ z, m₂ z = mJ lo' hi' t1 t2 u m₀ z) ∧ News g L h' ((cY, oY) :: (cW, oW) :: rest) ∧ IsCell oY ∧ IsCell oW ∧
    0 ≤ lo' ∧ lo' < hi' ∧ hi' ≤ (len : Int) ∧ s₀ + 7 * lo' ≤ n ∧ (hi' = (len : Int) ∨ n < s₀ + 7 * hi') ∧ hi' - lo' < hi - lo
/-- three ints in a list -/
def TripIn (tl : List (Addr × Obj)) (v : Value) (p : Int × Int × Int) : Prop := ∃ a t u r n, v = .ref a ∧ (a, PySem.W.listOf #[.int p.1 t, .int p.2.1 u, .int p.2.2 r] n) ∈ tl
def qk (n : Int) (t : Int × Int × Int) : Bool := decide (monI t.1 + ((t.2.1 - 1) * 7 + (t.2.2 - 1)) = n)
end
section
variable {L : Addr} {Wd : Heap → Prop} {s : Shared} {m₀ : Str → Option Value} {cY cW : Addr} {rest all : List (Addr × Obj)} {s₀ n : Int} {len : Nat} {lo hi mid : Int} {g h' : Heap} {tk : Nat} {t t1 t2 : Tok} {v : Value} {u : Option Value} {oY oW : Obj}
end
/-- a contract as CtrT, that says nothing of where the new things lie -/
abbrev CtrU (prog : Program) (w : World) (K : Frag) (p : Program) (loose : List Str) (mean : ExcName → Option Value) (mg mb : Str → Option Value) (f : Addr) (d u : Nat) (vs : List Value) (pre : List (Addr × Obj) → Prop) (P : Value → List (Addr × Obj) → Prop) : Prop :=
  ∀ (dp un : Nat) (gd : Option (List Code)) (cn : Str) (cs : Scope) (a : Addr) (ccd : Value) (cl : List (Str × Addr)) (outer : List Env) (A₀ : Around) (base h₀ g₀ : Heap) (L : Addr) (m : Str → Option Value) (news : List (Addr × Obj)) (s : Shared) (Q E : Value → Shared → Prop),
    Below A₀ base outer h₀ → Fr h₀ L s.heap m → K.In h₀ → News h₀ L s.heap news → Top p loose mean mg mb h₀ → K.In base → Top p loose mean mg mb base → KtsDicts (outer.filterMap (·.frame)) h₀ → KtsTurn (outer.filterMap (·.frame)) g₀ h₀ → cs.kind = .function →
    dp + d < recursionLimit → un + u < cLine → pre news →
    (∀ (g' : Heap) (v : Value) (new : List (Addr × Obj)) (h' : Heap) (tk' : Nat), P v new → KtsTurn (outer.filterMap (·.frame)) g₀ g' → Fr g' L h' m → News g' L h' (new ++ news) → Below A₀ base outer g' → K.In g' → Top p loose mean mg mb g' → KtsDicts (outer.filterMap (·.frame)) g' → Q v { s with heap := h', toks := tk' }) →
    wpAny (model prog w) (ktrTop dp un gd cn cs L a ccd cl outer) (call (.ref f) vs) Q E s
section
variable {prog : Program} {w : World} {K : Frag} {p : Program} {loose : List Str} {mean : ExcName → Option Value} {mg mb : Str → Option Value} {f : Addr} {d u : Nat} {vs : List Value}
   {dp un : Nat} {gd : Option (List Code)} {cn : Str} {cs : Scope} {a : Addr} {ccd : Value} {cl : List (Str × Addr)} {outer : List Env} {A₀ : Around} {base h₀ g₀ : Heap} {L : Addr} {m : Str → Option Value} {news : List (Addr × Obj)} {s : Shared} {Q E : Value → Shared → Prop}
end
/-- a list of one list: the name of the day n -/
def IsFound (n : Int) (v : Value) (new : List (Addr × Obj)) : Prop := ∃ (l a : Addr) (j : Nat) (o : Obj), v = .ref l ∧ new = [(l, PySem.W.listOf #[.ref a] j), (a, o)] ∧ IsName n o
end Mine
end
section
open PySem PySem.W PyProof.Rows PySem.Spec PySem.Calls PySem.MeetsSeq PySem.MeetsSeq3
open PySem.AutoSeq1 (wpAny_loadPart')
namespace Mine
def leLex : List Int → List Int → Bool
  | x :: xs, y :: ys => if x = y then leLex xs ys else decide (x ≤ y)
  | _, _ => true
section
variable {prog : Program} {w : World} {A : Around} {E : Value → Shared → Prop} {s : Shared} {h₀ : Heap} {L a b : Addr} {news : List (Addr × Obj)}
end
theorem ints3 {a b c : Int} {t u v : Tok} : IntsAre [.int a t, .int b u, .int c v] [a, b, c] := .cons _ _ (.cons _ _ (.cons _ _ .nil))
/-- the order of dates is the order of their numbers -/
theorem dby_mono {y y' : Int} (h : y ≤ y') : dbyI y ≤ dbyI y' := by unfold dbyI; omega
section
variable {y m d y' m' d' : Int} (a1 : 1 ≤ m) (a2 : m ≤ 12) (a3 : 1 ≤ d) (a4 : d ≤ dimI y m) (b1 : 1 ≤ m') (b2 : m' ≤ 12) (b3 : 1 ≤ d') (b4 : d' ≤ dimI y' m')
include a1 a2 a3 a4 b1 b2 b3 b4
end
end Mine
end
section
open PySem PySem.W PyProof.Rows PySem.Spec PySem.Calls
namespace Mine
section
variable {prog : Program} {w : World} {A : Around} {E : Value → Shared → Prop} {s : Shared} {env : Env} {h₀ : Heap} {x : Str} {body : List Stmt} {Q : Flow → Shared → Prop}
/-- a turn's end: the ledger stands -/
def LoopPost (h₀ : Heap) (L : Addr) (need : List (Addr × Obj)) (s : Shared) (Q : Flow → Shared → Prop) (f : Flow) (s₂ : Shared) : Prop := match f with
  | .ret v => Q (.ret v) s₂
  | .brk => Q .next s₂
  | _ => ∃ h' tk m' news', s₂ = { s with heap := h', toks := tk } ∧ Fr h₀ L h' m' ∧ News h₀ L h' news' ∧ ∀ p ∈ need, p ∈ news'
end
section
variable {g g' h : Heap} {L : Addr} {m : Str → Option Value} {news : List (Addr × Obj)}
theorem turn_keep (T : KtsTurn [] g g') : ∀ b o, g.get? b = some o → g'.get? b = some o := fun b o e => T.other b o e (fun q => nomatch q)
theorem unturnF (T : KtsTurn [] g g') (F : Fr g' L h m) : Fr g L h m := ⟨F.ns, fun b o e => F.keep b o (turn_keep T b o e), by rw [← T.size]; exact F.above⟩
end
end Mine
end
section
namespace Mine
theorem mon_mod (y : Int) : monI y % 7 = 1 := by unfold monI; dsimp only; split <;> omega
theorem dby_gap {y y' : Int} (h : y < y') : dbyI y + 365 ≤ dbyI y' := by unfold dbyI; omega
theorem mon_mono {y y' : Int} (h : y < y') : monI (y + 1) ≤ monI y' := by
  rcases Int.lt_or_le (y + 1) y' with q | q
  · have a := mon_bounds (y + 1)
    have b := mon_bounds y'
    have c := dby_gap q
    omega
  · have : y + 1 = y' := by omega
    rw [this]; exact Int.le_refl _
theorem week_end {y w : Int} (h : WeekOk y w) : 1 ≤ w ∧ monI y + w * 7 ≤ monI (y + 1) := by
  have e := mon_succ y
  rcases h with ⟨h1, h2⟩ | ⟨h1, h2⟩
  · refine ⟨by omega, ?_⟩
    split at e <;> omega
  · have : WeekOk y 53 := .inr ⟨rfl, h2⟩
    rw [if_pos this] at e
    exact ⟨by omega, by omega⟩
end Mine
end
section
open PySem PySem.W PyProof.Rows PySem.Spec PySem.Calls PySem.SeqAt
namespace Mine
section
variable {prog : Program} {w : World} {A : Around} {E : Value → Shared → Prop} {s : Shared} {h₀ : Heap} {L a b : Addr} {news : List (Addr × Obj)}
theorem eq_type (n : String) : EqAt A s (.type n) (.type n) true := by
  intro prog w E Q h
  unfold eqBool
  refine wpAny_holding ?_
  refine wpAny_ite_split (fun hab => ?_) (fun hab => ?_)
  · exact wpAny_bind (wpAny_rule (wpAny_pure h))
  · exact absurd (beq_self_eq_true _) hab
theorem types_ne {n : String} {m : Nat} {Q : Value → Shared → Prop} (N : News h₀ L s.heap news) (ha : (a, LCg.lst [.type n, .type n, .type n]) ∈ news) (hb : (b, W.listOf #[.type n, .type n, .type n] m) ∈ news) (hu : A.units < cLine)
    (h : Q (.bool false) s) : wpAny (model prog w) A (compareOp .NotEq (.ref a) (.ref b)) Q E s := by
  refine cmp_ofNotEq ?_
  refine RcNeAt.lists (items := #[.type n, .type n, .type n]) (items2 := #[.type n, .type n, .type n]) (e := fun _ => true) ⟨_, (N _ ha).1, rfl, _, rfl⟩ ⟨_, (N _ hb).1, rfl, _, rfl⟩ rfl hu (fun j h1 h2 => ?_) prog w E Q h
  have : j = 0 ∨ j = 1 ∨ j = 2 := by simp at h1; omega
  rcases this with rfl | rfl | rfl <;> exact eq_type n
end
end Mine
end
section
open PySem PySem.W PyProof.Rows PySem.Calls
namespace Mine
theorem entry_opidx : entryFor table "_operator.index" = some Builtin.«_operator.index» := entryFor_of_tree (by kernel_rfl)
theorem kind_opidx : builtinKind "_operator.index" = none := by decide +kernel
theorem plain_opidx : plainId "_operator.index" = true := by decide +kernel
theorem args_opidx (a : Value) : argsOk "_operator.index" ⟨[a], []⟩ := by unfold argsOk; kernel_rfl
theorem gives_opidx (i : Int) (t : Tok) : Gives (Builtin.«_operator.index» ⟨[.int i t], []⟩) (.val (.int i t)) := .of_eq rfl
section
variable {prog : Program} {w : World} {A : Around} {E : Value → Shared → Prop} {s : Shared} {h₀ : Heap} {L : Addr} {m : Str → Option Value} {news : List (Addr × Obj)} {Q : Value → Shared → Prop}
theorem opidx_int {i : Int} {t : Tok} (h : Q (.int i t) s) : wpAny (model prog w) A (call (.builtin "_operator.index") [.int i t]) Q E s :=
  call_function_meets kind_opidx plain_opidx entry_opidx (args_opidx _) (gives_opidx i t).meets h
/-- the number of a range's ints -/
theorem len_rangeN {r : Addr} {a b c : Int} {t u v : Tok} (hr : IsRange s.heap r a b c t u v) (h0 : 0 ≤ Builtin.Range.rangeSize a b c) (h1 : Builtin.Range.rangeSize a b c < 2 ^ 63)
    (h : Q (.int (Builtin.Range.rangeSize a b c) (s.toks + 1)) { s with toks := s.toks + 1 + 1 }) : wpAny (model prog w) A (call (.builtin "len") [.ref r]) Q E s :=
  call_len_range (n := (Builtin.Range.rangeSize a b c).toNat) hr (by omega) (by omega) (by rw [Int.toNat_of_nonneg h0]; exact h)
/-- how many of c, 2c, .. lie below y -/
theorem range_cnt {y c : Int} (hc : 0 < c) (hy : 0 ≤ y) : Builtin.Range.rangeSize c y c = if y = 0 then 0 else (y - 1) / c := by
  unfold Builtin.Range.rangeSize
  rw [if_pos (by omega)]
  split
  · rw [if_neg (by omega)]
    rw [show y - c - 1 = (y - 1) + (-1) * c by omega, Int.add_mul_ediv_right _ _ (by omega)]; omega
  · split
    · rfl
    · exact (Int.ediv_eq_zero_of_lt (by omega) (by omega)).symm
theorem cnt_lo {y c : Int} (hc : 0 < c) (hy : 0 ≤ y) : 0 ≤ Builtin.Range.rangeSize c y c := by
  rw [range_cnt hc hy]; split
  · exact Int.le_refl _
  · exact Int.ediv_nonneg (by omega) (by omega)
theorem cnt_hi {y c : Int} (hc : 0 < c) (hy : 0 ≤ y) (hy' : y ≤ 100000) : Builtin.Range.rangeSize c y c < 2 ^ 63 := by
  rw [range_cnt hc hy]; split
  · decide
  · have := Int.ediv_le_self c (a := y - 1) (by omega); omega
theorem ahead_is {y : Int} (hy : 1 ≤ y) : 365 * (y - 1) + (Builtin.Range.rangeSize 4 y 4 - Builtin.Range.rangeSize 100 y 100 + Builtin.Range.rangeSize 400 y 400) = dbyI y := by
  rw [range_cnt (by decide) (by omega), range_cnt (by decide) (by omega), range_cnt (by decide) (by omega), if_neg (by omega), if_neg (by omega), if_neg (by omega)]
  unfold dbyI; omega
end
end Mine
end
section
namespace Mine
/-- a text comes back -/
abbrev cStrP (P : PySem.Str → Prop) : Cont := fun _ h₀ L m news _ s Q _ => ∀ (x : PySem.Str) (t : Tok) (h' : Heap) (tk' : Nat), P x → Fr h₀ L h' m → News h₀ L h' news → Q (.str x t) { s with heap := h', toks := tk' }
/-- a ValueError flies -/
abbrev cBadP (P : List Value → Prop) : Cont := fun base h₀ L m news fr s _ E => ∀ (e t : Addr) (vs : List Value) (h' G : Heap) (tk' : Nat), P vs → RaisedS base G fr e (.type "ValueError") t vs news h' → Fr h₀ L G m → G.UpToSlots h' → E (.ref e) { s with heap := h', toks := tk' }
/-- a value, and the new objects that bear it -/
abbrev cVal (P : Value → List (Addr × Obj) → Prop) : Cont := fun _ h₀ L m news _ s Q _ => ∀ (v : Value) (new : List (Addr × Obj)) (h' : Heap) (tk' : Nat), P v new → (∀ q ∈ new, ∀ p ∈ news, p.1 < q.1) → Fr h₀ L h' m → News h₀ L h' (news ++ new) → Q v { s with heap := h', toks := tk' }
section
variable {base h₀ h' G : Heap} {L : Addr} {m : Str → Option Value} {news news' : List (Addr × Obj)} {fr : List Env} {s : Shared} {Q E : Value → Shared → Prop} {t : Tok} {tk' : Nat}
theorem endSP {P : PySem.Str → Prop} {x : PySem.Str} (hret : cStrP P base h₀ L m news fr s Q E) (e : P x) (F : Fr h₀ L h' m) (N : News h₀ L h' news') (hs : ∀ p ∈ news, p ∈ news') : Q (.str x t) { s with heap := h', toks := tk' } := hret x t h' tk' e F (cb_drop N hs)
theorem endXP {P : List Value → Prop} {vs : List Value} {e t : Addr} (hret : cBadP P base h₀ L m news fr s Q E) (ev : P vs) (R : RaisedS base G fr e (.type "ValueError") t vs news' h') (F : Fr h₀ L G m) (U : G.UpToSlots h') (hs : ∀ p ∈ news, p ∈ news') : E (.ref e) { s with heap := h', toks := tk' } :=
  hret e t vs h' G tk' ev (RaisedS.drop R hs) F U
theorem endVal1 {P : Value → List (Addr × Obj) → Prop} {v : Value} {D : Addr} {o : Obj} {rest : List (Addr × Obj)} (hret : cVal P base h₀ L m news fr s Q E) (N : News h₀ L h' ((D, o) :: rest)) (e : P v [(D, o)]) (F : Fr h₀ L h' m) (hs : ∀ p ∈ news, p ∈ (D, o) :: rest) (hl : ∀ p ∈ news, p.1 < D) : Q v { s with heap := h', toks := tk' } :=
  hret v [(D, o)] h' tk' e (fun q hq p hp => by rw [List.mem_singleton.mp hq]; exact hl p hp) F fun p hp => N p (by rcases List.mem_append.mp hp with hp | hp; exact hs p hp; rw [List.mem_singleton.mp hp]; exact .head _)
theorem endVal {P : Value → List (Addr × Obj) → Prop} {v : Value} (hret : cVal P base h₀ L m news fr s Q E) (e : P v []) (F : Fr h₀ L h' m) (N : News h₀ L h' news') (hs : ∀ p ∈ news, p ∈ news') : Q v { s with heap := h', toks := tk' } := hret v [] h' tk' e (fun q hq => nomatch hq) F (cb_drop N (by simpa using hs))
theorem ltX {d : Addr} {l x : List (Addr × Obj)} (h : AllLt d (l ++ x)) : ∀ p ∈ l, p.1 < d := fun p hp => lt0 h p (List.mem_append_left _ hp)
theorem fr_sub {new all news : List (Addr × Obj)} (h : ∀ q ∈ new, ∀ p ∈ all, p.1 < q.1) (hs : ∀ p ∈ news, p ∈ all) : ∀ q ∈ new, ∀ p ∈ news, p.1 < q.1 := fun q hq p hp => h q hq p (hs p hp)
end
/-- one sign, no figure -/
def IsMark (x : PySem.Str) : Prop := ∃ c, x = ⟨#[c]⟩ ∧ ¬ (48 ≤ c ∧ c ≤ 57)
theorem mark_dw {r : Int} (h0 : 0 ≤ r) (h1 : r < 2) : IsMark (PySem.Txt.item (PySem.Str.ofString "-W") r) := by
  have e : r = 0 ∨ r = 1 := by omega
  rcases e with rfl | rfl
  · exact ⟨45, by decide +kernel, by decide⟩
  · exact ⟨87, by decide +kernel, by decide⟩
theorem mark_a {q : Int} : IsMark ⟨#[(q.fmod 1112054 + 10 + 2048).toNat]⟩ := ⟨_, rfl, by have := fmod_lo q (n := 1112054) (by decide); omega⟩
theorem mark_b {q : Int} (h : 48 ≤ q.fmod 1112054) : IsMark ⟨#[(q.fmod 1112054 + 10).toNat]⟩ := ⟨_, rfl, by omega⟩
theorem mark_c {q : Int} (h : ¬ 48 ≤ q.fmod 1112054) : IsMark ⟨#[(q.fmod 1112054).toNat]⟩ := ⟨_, rfl, by omega⟩
/-- the first fault of a date, its words and the field -/
def badC (y m d : Int) : Option (PySem.Str × Int) :=
  if ¬ (1 ≤ y ∧ y ≤ 9999) then some (PySem.Str.ofString "year must be in 1..9999", y)
  else if ¬ (1 ≤ m ∧ m ≤ 12) then some (PySem.Str.ofString "month must be in 1..12", m)
  else if ¬ (1 ≤ d ∧ d ≤ dimI y m) then some (PySem.Str.ofString "day must be in 1.." ++ PySem.Str.ofString (toString (dimI y m)), d)
  else none
section
variable {y m d : Int}
theorem bc_y (h : ¬ (1 ≤ y ∧ y ≤ 9999)) : badC y m d = some (PySem.Str.ofString "year must be in 1..9999", y) := by unfold badC; rw [if_pos h]
theorem bc_m (h1 : 1 ≤ y) (h2 : y ≤ 9999) (h : ¬ (1 ≤ m ∧ m ≤ 12)) : badC y m d = some (PySem.Str.ofString "month must be in 1..12", m) := by unfold badC; rw [if_neg (not_not_intro ⟨h1, h2⟩), if_pos h]
theorem bc_d (h1 : 1 ≤ y) (h2 : y ≤ 9999) (h3 : 1 ≤ m) (h4 : m ≤ 12) (h : ¬ (1 ≤ d ∧ d ≤ dimI y m)) : badC y m d = some (PySem.Str.ofString "day must be in 1.." ++ PySem.Str.ofString (toString (dimI y m)), d) := by
  unfold badC; rw [if_neg (not_not_intro ⟨h1, h2⟩), if_neg (not_not_intro ⟨h3, h4⟩), if_pos h]
theorem bc_ok (h1 : 1 ≤ y) (h2 : y ≤ 9999) (h3 : 1 ≤ m) (h4 : m ≤ 12) (h5 : 1 ≤ d) (h6 : d ≤ dimI y m) : badC y m d = none := by
  unfold badC; rw [if_neg (not_not_intro ⟨h1, h2⟩), if_neg (not_not_intro ⟨h3, h4⟩), if_neg (not_not_intro ⟨h5, h6⟩)]
end
abbrev Faults (r : PySem.Str × Int) (vs : List Value) : Prop := ∃ k k2, vs = [.str r.1 k, .int r.2 k2]
abbrev cOrP (r : Option (PySem.Str × Int)) (A : Cont) : Cont := fun base h₀ L m news fr s Q E => (∀ p, r = some p → cBadP (Faults p) base h₀ L m news fr s Q E) ∧ (r = none → A base h₀ L m news fr s Q E)
end Mine
end
section
namespace Mine
theorem dim_tab : ∀ (a : Fin 13) (lp : Bool), 1 ≤ a.val → 28 ≤ (if (a.val : Int) = 2 ∧ lp = true then 29 else ([-1, 31, 28, 31, 30, 31, 30, 31, 31, 30, 31, 30, 31] : List Int).getD a.val 0) ∧ (if (a.val : Int) = 2 ∧ lp = true then 29 else ([-1, 31, 28, 31, 30, 31, 30, 31, 31, 30, 31, 30, 31] : List Int).getD a.val 0) ≤ 31 := by decide +kernel
theorem dim_bnd (y : Int) {m : Int} (h1 : 1 ≤ m) (h2 : m ≤ 12) : 28 ≤ dimI y m ∧ dimI y m ≤ 31 := by
  have t := dim_tab ⟨m.toNat, by omega⟩ (leapB y) (by show 1 ≤ m.toNat; omega)
  have e1 : ((m.toNat : Nat) : Int) = m := by omega
  simp only [e1] at t
  exact t
theorem with_dim {y m9 : Int} {base h₀ : Heap} {L : Addr} {m : Str → Option Value} {news : List (Addr × Obj)} {fr : List Env} {s : Shared} {Q E : Value → Shared → Prop} (h1 : 1 ≤ m9) (h2 : m9 ≤ 12) (h : 28 ≤ dimI y m9 → dimI y m9 ≤ 31 → cInt (dimI y m9) base h₀ L m news fr s Q E) : cInt (dimI y m9) base h₀ L m news fr s Q E :=
  h (dim_bnd y h1 h2).1 (dim_bnd y h1 h2).2
theorem feb_is (y : Int) : dbyI (y + 1) - dbyI y - 337 = 28 + (if leapB y = true then 1 else 0) := by
  have h := dby_succ y
  unfold ylI at h
  generalize (if leapB y = true then (1 : Int) else 0) = z at h ⊢
  omega
theorem lens_tab : ∀ (a : Fin 13) (lp : Bool), 1 ≤ a.val → ([31, 28 + (if lp = true then 1 else 0), 31, 30, 31, 30, 31, 31, 30, 31, 30, 31] : List Int).getD (a.val - 1) 0 = (if (a.val : Int) = 2 ∧ lp = true then 29 else ([-1, 31, 28, 31, 30, 31, 30, 31, 31, 30, 31, 30, 31] : List Int).getD a.val 0) ∧ (List.take (a.val - 1) ([31, 28 + (if lp = true then 1 else 0), 31, 30, 31, 30, 31, 31, 30, 31, 30, 31] : List Int)).sum = ([-1, 0, 31, 59, 90, 120, 151, 181, 212, 243, 273, 304, 334] : List Int).getD a.val 0 + (if 2 < (a.val : Int) ∧ lp = true then 1 else 0) := by decide +kernel
theorem lens_is {y m : Int} (h1 : 1 ≤ m) (h2 : m ≤ 12) : [31, dbyI (y + 1) - dbyI y - 337, 31, 30, 31, 30, 31, 31, 30, 31, 30, 31].getD (m - 1).toNat 0 = dimI y m := by
  have t := lens_tab ⟨m.toNat, by omega⟩ (leapB y) (by show 1 ≤ m.toNat; omega)
  have e1 : ((m.toNat : Nat) : Int) = m := by omega
  have e2 : (m - 1).toNat = m.toNat - 1 := by omega
  simp only [e1] at t
  rw [feb_is, e2]
  exact t.1
theorem lens_sum {y m : Int} (h1 : 1 ≤ m) (h2 : m ≤ 12) : (List.take (m - 1).toNat [31, dbyI (y + 1) - dbyI y - 337, 31, 30, 31, 30, 31, 31, 30, 31, 30, 31]).sum = dbmI y m := by
  have t := lens_tab ⟨m.toNat, by omega⟩ (leapB y) (by show 1 ≤ m.toNat; omega)
  have e1 : ((m.toNat : Nat) : Int) = m := by omega
  have e2 : (m - 1).toNat = m.toNat - 1 := by omega
  simp only [e1] at t
  rw [feb_is, e2]
  exact t.2
/-- what the law counts -/
inductive Due where
  | num (n : Int)
  | one (msg : PySem.Str)
  | two (msg : PySem.Str) (n : Int)
abbrev tupOf (items : Array Value) : Obj := { cls := .type "tuple", data := .seq items }
def DueIn (tl : List (Addr × Obj)) (v : Value) : Due → Prop
  | .num n => ∃ t, v = .int n t
  | .one msg => ∃ a k, v = .ref a ∧ (a, tupOf #[.str msg k]) ∈ tl
  | .two msg n => ∃ a k k2, v = .ref a ∧ (a, tupOf #[.str msg k, .int n k2]) ∈ tl
theorem DueIn.mono {tl tl' : List (Addr × Obj)} {v : Value} {d : Due} (hs : ∀ e ∈ tl, e ∈ tl') (h : DueIn tl v d) : DueIn tl' v d := by
  cases d with
  | num n => exact h
  | one msg => obtain ⟨a, k, e, hm⟩ := h; exact ⟨a, k, e, hs _ hm⟩
  | two msg n => obtain ⟨a, k, k2, e, hm⟩ := h; exact ⟨a, k, k2, e, hs _ hm⟩
def IsDue (d : Due) (v : Value) (new : List (Addr × Obj)) : Prop := DueIn new v d
abbrev yearMsg : PySem.Str := PySem.Str.ofString "year must be in 1..9999"
abbrev dayMsg (k : Int) : PySem.Str := PySem.Str.ofString "day must be in 1.." ++ PySem.Str.ofString (toString k)
def dueM (y m d : Int) : Due :=
  if y = 0 then .two yearMsg 0
  else if ¬ (1 ≤ m ∧ m ≤ 12) then .two (PySem.Str.ofString "month must be in 1..12") m
  else if ¬ (1 ≤ d ∧ d ≤ dimI y m) then .two (dayMsg (dimI y m)) d
  else .num (dbyI y + dbmI y m + d)
def dueW (y w k : Int) : Due :=
  if y = 0 then .one (PySem.Str.ofString "Year is out of range: 0")
  else if ¬ WeekOk y w then .one (PySem.Str.ofString "Invalid week: " ++ PySem.Str.ofString (toString w))
  else if ¬ (1 ≤ k ∧ k ≤ 7) then .one (PySem.Str.ofString "Invalid weekday: " ++ PySem.Str.ofString (toString k) ++ PySem.Str.ofString " (range is [1, 7])")
  else if dbyI 10000 < monI y + (w - 1) * 7 + (k - 1) then .two yearMsg 10000
  else .num (monI y + (w - 1) * 7 + (k - 1))
section
variable {y m d : Int} {D : Addr} {t u : Tok}
theorem dm_year (h : y = 0) : IsDue (dueM y m d) (.ref D) [(D, tupOf #[.str (PySem.Str.ofString "year must be in 1..9999") t, .int 0 u])] := by
  unfold IsDue dueM; rw [if_pos h]; exact ⟨D, t, u, rfl, .head _⟩
theorem dm_month (h : y ≠ 0) (h' : ¬ (1 ≤ m ∧ m ≤ 12)) : IsDue (dueM y m d) (.ref D) [(D, tupOf #[.str (PySem.Str.ofString "month must be in 1..12") t, .int m u])] := by
  unfold IsDue dueM; rw [if_neg h, if_pos h']; exact ⟨D, t, u, rfl, .head _⟩
theorem dm_day (h : y ≠ 0) (h1 : 1 ≤ m) (h2 : m ≤ 12) (h' : ¬ (1 ≤ d ∧ d ≤ dimI y m)) : IsDue (dueM y m d) (.ref D) [(D, tupOf #[.str (dayMsg (dimI y m)) t, .int d u])] := by
  unfold IsDue dueM; rw [if_neg h, if_neg (not_not_intro ⟨h1, h2⟩), if_pos h']; exact ⟨D, t, u, rfl, .head _⟩
theorem dm_num {n : Int} (h : y ≠ 0) (h1 : 1 ≤ m) (h2 : m ≤ 12) (h3 : 1 ≤ d) (h4 : d ≤ [31, dbyI (y + 1) - dbyI y - 337, 31, 30, 31, 30, 31, 31, 30, 31, 30, 31].getD (m - 1).toNat 0)
    (e : n = dbyI y + (List.take (m - 1).toNat [31, dbyI (y + 1) - dbyI y - 337, 31, 30, 31, 30, 31, 31, 30, 31, 30, 31]).sum + d) : IsDue (dueM y m d) (.int n t) [] := by
  rw [lens_is h1 h2] at h4
  rw [lens_sum h1 h2] at e
  unfold IsDue dueM; rw [if_neg h, if_neg (not_not_intro ⟨h1, h2⟩), if_neg (not_not_intro ⟨h3, h4⟩)]; exact ⟨t, by rw [e]⟩
end
section
variable {prog : Program} {w : World} {A : Around} {E : Value → Shared → Prop} {s : Shared} {Q : Value → Shared → Prop}
theorem fmt_lens {y m : Int} {t : Tok} (h1 : 1 ≤ m) (h2 : m ≤ 12) (h : 28 ≤ dimI y m → dimI y m ≤ 31 → Q (.str (PySem.Str.ofString (toString (dimI y m))) (s.toks + 1)) { s with toks := s.toks + 1 + 1 }) :
    wpAny (model prog w) A (formatField (.int ([31, dbyI (y + 1) - dbyI y - 337, 31, 30, 31, 30, 31, 31, 30, 31, 30, 31].getD (m - 1).toNat 0) t) PySem.Str.empty) Q E s := by
  rw [lens_is h1 h2]
  have hb := dim_bnd y h1 h2
  exact wpAny_formatField_int (log_small (by omega) (by omega)) (h hb.1 hb.2)
end
theorem week_iff {y w : Int} : WeekOk y w ↔ dbyI y < monI y + (w - 1) * 7 + 3 ∧ monI y + (w - 1) * 7 + 3 ≤ dbyI (y + 1) := by
  have ms := mon_succ y
  have m1 := mon_bounds y
  have m2 := mon_bounds (y + 1)
  by_cases h : WeekOk y 53
  · rw [if_pos h] at ms
    have hl : longB y = true := by rcases h with h | h; omega; exact h.2
    unfold WeekOk; simp only [hl, and_true]; omega
  · rw [if_neg h] at ms
    have hl : ¬ longB y = true := fun q => h (.inr ⟨rfl, q⟩)
    have hl' : longB y = false := by simpa using hl
    unfold WeekOk; simp only [hl', Bool.false_eq_true, and_false, or_false]; omega
abbrev thI (y w : Int) : Int := dbyI y + 1 + (3 - dbyI y).fmod 7 + 7 * (w - 1)
theorem th_mon (y w : Int) : thI y w = monI y + (w - 1) * 7 + 3 := by
  show dbyI y + 1 + (3 - dbyI y).fmod 7 + 7 * (w - 1) = _
  have m1 := mon_bounds y
  have m2 := mon_mod y
  rw [Int.fmod_eq_emod_of_nonneg _ (by decide)]
  omega
section
variable {y w k : Int} {D : Addr} {t u : Tok}
theorem dw_year (h : y = 0) : IsDue (dueW y w k) (.ref D) [(D, tupOf #[.str (PySem.Str.ofString "Year is out of range: 0") t])] := by
  unfold IsDue dueW; rw [if_pos h]; exact ⟨D, t, rfl, .head _⟩
theorem dw_week (h : y ≠ 0) (h' : ¬ (dbyI y < thI y w ∧ thI y w ≤ dbyI (y + 1))) : IsDue (dueW y w k) (.ref D) [(D, tupOf #[.str (PySem.Str.ofString "Invalid week: " ++ PySem.Str.ofString (toString w)) t])] := by
  rw [th_mon, ← week_iff] at h'
  unfold IsDue dueW; rw [if_neg h, if_pos h']; exact ⟨D, t, rfl, .head _⟩
theorem dw_weekA (h : y ≠ 0) (h' : ¬ dbyI y < thI y w) : IsDue (dueW y w k) (.ref D) [(D, tupOf #[.str (PySem.Str.ofString "Invalid week: " ++ PySem.Str.ofString (toString w)) t])] := dw_week h fun hq => h' hq.1
theorem dw_weekB (h : y ≠ 0) (h' : ¬ thI y w ≤ dbyI (y + 1)) : IsDue (dueW y w k) (.ref D) [(D, tupOf #[.str (PySem.Str.ofString "Invalid week: " ++ PySem.Str.ofString (toString w)) t])] := dw_week h fun hq => h' hq.2
theorem dw_day (h : y ≠ 0) (h1 : dbyI y < thI y w) (h2 : thI y w ≤ dbyI (y + 1)) (h' : ¬ (1 ≤ k ∧ k ≤ 7)) : IsDue (dueW y w k) (.ref D) [(D, tupOf #[.str (PySem.Str.ofString "Invalid weekday: " ++ PySem.Str.ofString (toString k) ++ PySem.Str.ofString " (range is [1, 7])") t])] := by
  rw [th_mon] at h1 h2
  unfold IsDue dueW; rw [if_neg h, if_neg (not_not_intro (week_iff.mpr ⟨h1, h2⟩)), if_pos h']; exact ⟨D, t, rfl, .head _⟩
theorem dw_far (h : y ≠ 0) (h1 : dbyI y < thI y w) (h2 : thI y w ≤ dbyI (y + 1)) (h3 : 1 ≤ k) (h4 : k ≤ 7) (h5 : dbyI 10000 < thI y w + k - 4) : IsDue (dueW y w k) (.ref D) [(D, tupOf #[.str (PySem.Str.ofString "year must be in 1..9999") t, .int 10000 u])] := by
  rw [th_mon] at h1 h2 h5
  unfold IsDue dueW; rw [if_neg h, if_neg (not_not_intro (week_iff.mpr ⟨h1, h2⟩)), if_neg (not_not_intro ⟨h3, h4⟩), if_pos (by omega)]; exact ⟨D, t, u, rfl, .head _⟩
theorem dw_num {n : Int} (h : y ≠ 0) (h1 : dbyI y < thI y w) (h2 : thI y w ≤ dbyI (y + 1)) (h3 : 1 ≤ k) (h4 : k ≤ 7) (h5 : ¬ dbyI 10000 < thI y w + k - 4) (e : n = thI y w + k - 4) : IsDue (dueW y w k) (.int n t) [] := by
  rw [th_mon] at h1 h2 h5 e
  unfold IsDue dueW; rw [if_neg h, if_neg (not_not_intro (week_iff.mpr ⟨h1, h2⟩)), if_neg (not_not_intro ⟨h3, h4⟩), if_neg (by omega)]; exact ⟨t, by rw [e]; congr 1; omega⟩
end
end Mine
end
section
namespace Mine
/-- an entry of the calendar: the form of its text, and its fields -/
inductive Ent where
  | md (y m d : Int)
  | mc (y m d : Int)
  | wd (y w : Int)
  | wdk (y w k : Int)
  | wc (y w : Int)
  | wck (y w k : Int)
  | ms (y m k : Int)
  | ws (y w : Int)
  | mx (y m : Int)
abbrev c4 (y : Int) : List Nat := [dg (y.toNat / 1000), dg (y.toNat / 100), dg (y.toNat / 10), dg y.toNat]
abbrev c2 (y : Int) : List Nat := [dg (y.toNat / 10), dg y.toNat]
abbrev c1 (y : Int) : List Nat := [dg y.toNat]
def Ent.txt : Ent → List Nat
  | .md y m d => c4 y ++ 45 :: (c2 m ++ 45 :: c2 d)
  | .mc y m d => c4 y ++ (c2 m ++ c2 d)
  | .wd y w => c4 y ++ 45 :: 87 :: c2 w
  | .wdk y w k => c4 y ++ 45 :: 87 :: (c2 w ++ 45 :: c1 k)
  | .wc y w => c4 y ++ 87 :: c2 w
  | .wck y w k => c4 y ++ 87 :: (c2 w ++ c1 k)
  | .ms y m k => c4 y ++ (c2 m ++ c1 k)
  | .ws y w => c4 y ++ 45 :: 87 :: c1 w
  | .mx y m => c4 y ++ 45 :: c2 m
def Ent.parts : Ent → List Int
  | .md y m d => [y, m, d]
  | .mc y m d => [y, m, d]
  | .ms y m k => [y, m, k]
  | _ => []
abbrev dashMsg : PySem.Str := PySem.Str.ofString "Inconsistent use of dash separator"
def Ent.due : Ent → Due
  | .md y m d => dueM y m d
  | .mc y m d => dueM y m d
  | .wd y w => dueW y w 1
  | .wdk y w k => dueW y w k
  | .wc y w => dueW y w 1
  | .wck y w k => dueW y w k
  | .ms y m k => dueM y m k
  | .ws y w => dueW y w 1
  | .mx _ _ => .one dashMsg
abbrev In (a n : Int) : Prop := 0 ≤ a ∧ a < n
abbrev Ent.Ok : Ent → Prop
  | .md y m d => In y 10000 ∧ In m 100 ∧ In d 100
  | .mc y m d => In y 10000 ∧ In m 100 ∧ In d 100
  | .wd y w => In y 10000 ∧ In w 100
  | .wdk y w k => In y 10000 ∧ In w 100 ∧ In k 10
  | .wc y w => In y 10000 ∧ In w 100
  | .wck y w k => In y 10000 ∧ In w 100 ∧ In k 10
  | .ms y m k => In y 10000 ∧ In m 100 ∧ In k 10
  | .ws y w => In y 10000 ∧ In w 10
  | .mx y m => In y 10000 ∧ In m 100
abbrev Ent.last : Ent → Bool
  | .ms .. => true
  | .ws .. => true
  | .mx .. => true
  | _ => false
/-- an entry as the law bears it -/
def EntIn (tl : List (Addr × Obj)) (v : Value) (e : Ent) : Prop :=
  e.Ok ∧ ∃ a b t n vs dv, v = .ref a ∧ (a, tupOf #[.str ⟨e.txt.toArray⟩ t, .ref b, dv]) ∈ tl ∧ (b, W.listOf vs.toArray n) ∈ tl ∧ IntsAre vs e.parts ∧ DueIn tl dv e.due
theorem EntIn.mono (tl tl' : List (Addr × Obj)) (v : Value) (e : Ent) (hs : ∀ q ∈ tl, q ∈ tl') (h : EntIn tl v e) : EntIn tl' v e := by
  obtain ⟨ok, a, b, t, n, vs, dv, e1, h1, h2, h3, h4⟩ := h
  exact ⟨ok, a, b, t, n, vs, dv, e1, hs _ h1, hs _ h2, h3, h4.mono hs⟩
def LastOk (ways : Int) (last : Bool) : Prop := 6 < ways → last = true
theorem LastOk.yes {ways r : Int} {last : Bool} (h : LastOk ways last) (h2 : r < ways) (h1 : 6 ≤ r) : last = true := h (by omega)
def IsEnt (last : Bool) (v : Value) (new : List (Addr × Obj)) : Prop := ∃ e : Ent, EntIn new v e ∧ (e.last = true → last = true)
section
variable {base h₀ h' : Heap} {L : Addr} {m : Str → Option Value} {news all : List (Addr × Obj)} {fr : List Env} {s : Shared} {Q E : Value → Shared → Prop} {tk' : Nat}
theorem endEnt {last : Bool} {d9 : Due} {v9 : Value} {new9 : List (Addr × Obj)} {D l : Addr} {x : PySem.Str} {t : Tok} {vs : List Value} {n : Nat} {e : Ent} (hret : cVal (IsEnt last) base h₀ L m news fr s Q E) (F : Fr h₀ L h' m) (N : News h₀ L h' all)
    (P9 : IsDue d9 v9 new9) (mT : (D, tupOf #[.str x t, .ref l, v9]) ∈ all) (hx : x = ⟨e.txt.toArray⟩) (mL : (l, W.listOf vs.toArray n) ∈ all) (hp : IntsAre vs e.parts) (hd : d9 = e.due) (ok : e.Ok) (hl : e.last = true → last = true) (h9 : ∀ p ∈ new9, p ∈ all) (hs : ∀ p ∈ news, p ∈ all) (lD : ∀ p ∈ news, p.1 < D) (ll : ∀ p ∈ news, p.1 < l) (l9 : ∀ q ∈ new9, ∀ p ∈ news, p.1 < q.1) :
    Q (.ref D) { s with heap := h', toks := tk' } := by
  refine hret (.ref D) ((D, tupOf #[.str x t, .ref l, v9]) :: (l, W.listOf vs.toArray n) :: new9) h' tk' ⟨e, ⟨ok, D, l, t, n, vs, v9, rfl, by rw [hx]; exact .head _, .tail _ (.head _), hp, ?_⟩, hl⟩ (fun q hq => ?_) F fun p hp => N p ?_
  · subst hd; exact DueIn.mono (fun q hq => .tail _ (.tail _ hq)) P9
  · rcases List.mem_cons.mp hq with rfl | hq
    · exact lD
    · rcases List.mem_cons.mp hq with rfl | hq
      · exact ll
      · exact l9 q hq
  · rcases List.mem_append.mp hp with hp | hp
    · exact hs p hp
    · rcases List.mem_cons.mp hp with rfl | hp
      · exact mT
      · rcases List.mem_cons.mp hp with rfl | hp
        · exact mL
        · exact h9 p hp
end
theorem due_one {D : Addr} {msg : PySem.Str} {k : Tok} : IsDue (.one msg) (.ref D) [(D, tupOf #[.str msg k])] := ⟨D, k, rfl, .head _⟩
theorem tE (x : PySem.Str) : PySem.Str.empty ++ x = x := by
  refine Str.ext' (Array.toList_inj.mp ?_)
  rw [Str.cps_append, Array.toList_append]; rfl
theorem tx_md {y m d : Int} (hy : In y 10000) (hm : In m 100) (hd : In d 100) : PySem.Str.empty ++ intSpecTextOf (PySem.Str.ofString "04d") y ++ PySem.Str.ofString "-" ++ intSpecTextOf (PySem.Str.ofString "02d") m ++ PySem.Str.ofString "-" ++ intSpecTextOf (PySem.Str.ofString "02d") d = ⟨(Ent.md y m d).txt.toArray⟩ := by
  rw [fmt4 hy.1 hy.2, fmt2 hm.1 hm.2, fmt2 hd.1 hd.2]
  refine Str.ext' (Array.toList_inj.mp ?_)
  simp only [Str.cps_append, Array.toList_append]
  rfl
theorem tx_mc {y m d : Int} (hy : In y 10000) (hm : In m 100) (hd : In d 100) : PySem.Str.empty ++ intSpecTextOf (PySem.Str.ofString "04d") y ++ intSpecTextOf (PySem.Str.ofString "02d") m ++ intSpecTextOf (PySem.Str.ofString "02d") d = ⟨(Ent.mc y m d).txt.toArray⟩ := by
  rw [fmt4 hy.1 hy.2, fmt2 hm.1 hm.2, fmt2 hd.1 hd.2]
  refine Str.ext' (Array.toList_inj.mp ?_)
  simp only [Str.cps_append, Array.toList_append]
  rfl
theorem tx_wd {y w : Int} (hy : In y 10000) (hw : In w 100) : PySem.Str.empty ++ intSpecTextOf (PySem.Str.ofString "04d") y ++ PySem.Str.ofString "-W" ++ intSpecTextOf (PySem.Str.ofString "02d") w = ⟨(Ent.wd y w).txt.toArray⟩ := by
  rw [fmt4 hy.1 hy.2, fmt2 hw.1 hw.2]
  refine Str.ext' (Array.toList_inj.mp ?_)
  simp only [Str.cps_append, Array.toList_append]
  rfl
theorem tx_wdk {y w k : Int} (hy : In y 10000) (hw : In w 100) (hk : In k 10) : PySem.Str.empty ++ intSpecTextOf (PySem.Str.ofString "04d") y ++ PySem.Str.ofString "-W" ++ intSpecTextOf (PySem.Str.ofString "02d") w ++ PySem.Str.ofString "-" ++ PySem.Str.ofString (toString k) = ⟨(Ent.wdk y w k).txt.toArray⟩ := by
  rw [fmt4 hy.1 hy.2, fmt2 hw.1 hw.2, fmt1 hk.1 hk.2]
  refine Str.ext' (Array.toList_inj.mp ?_)
  simp only [Str.cps_append, Array.toList_append]
  rfl
theorem tx_wc {y w : Int} (hy : In y 10000) (hw : In w 100) : PySem.Str.empty ++ intSpecTextOf (PySem.Str.ofString "04d") y ++ PySem.Str.ofString "W" ++ intSpecTextOf (PySem.Str.ofString "02d") w = ⟨(Ent.wc y w).txt.toArray⟩ := by
  rw [fmt4 hy.1 hy.2, fmt2 hw.1 hw.2]
  refine Str.ext' (Array.toList_inj.mp ?_)
  simp only [Str.cps_append, Array.toList_append]
  rfl
theorem tx_wck {y w k : Int} (hy : In y 10000) (hw : In w 100) (hk : In k 10) : PySem.Str.empty ++ intSpecTextOf (PySem.Str.ofString "04d") y ++ PySem.Str.ofString "W" ++ intSpecTextOf (PySem.Str.ofString "02d") w ++ PySem.Str.ofString (toString k) = ⟨(Ent.wck y w k).txt.toArray⟩ := by
  rw [fmt4 hy.1 hy.2, fmt2 hw.1 hw.2, fmt1 hk.1 hk.2]
  refine Str.ext' (Array.toList_inj.mp ?_)
  simp only [Str.cps_append, Array.toList_append]
  rfl
theorem tx_ms {y m k : Int} (hy : In y 10000) (hm : In m 100) (hk : In k 10) : PySem.Str.empty ++ intSpecTextOf (PySem.Str.ofString "04d") y ++ intSpecTextOf (PySem.Str.ofString "02d") m ++ PySem.Str.ofString (toString k) = ⟨(Ent.ms y m k).txt.toArray⟩ := by
  rw [fmt4 hy.1 hy.2, fmt2 hm.1 hm.2, fmt1 hk.1 hk.2]
  refine Str.ext' (Array.toList_inj.mp ?_)
  simp only [Str.cps_append, Array.toList_append]
  rfl
theorem tx_ws {y w : Int} (hy : In y 10000) (hw : In w 10) : PySem.Str.empty ++ intSpecTextOf (PySem.Str.ofString "04d") y ++ PySem.Str.ofString "-W" ++ PySem.Str.ofString (toString w) = ⟨(Ent.ws y w).txt.toArray⟩ := by
  rw [fmt4 hy.1 hy.2, fmt1 hw.1 hw.2]
  refine Str.ext' (Array.toList_inj.mp ?_)
  simp only [Str.cps_append, Array.toList_append]
  rfl
theorem tx_mx {y m : Int} (hy : In y 10000) (hm : In m 100) : PySem.Str.empty ++ intSpecTextOf (PySem.Str.ofString "04d") y ++ PySem.Str.ofString "-" ++ intSpecTextOf (PySem.Str.ofString "02d") m = ⟨(Ent.mx y m).txt.toArray⟩ := by
  rw [fmt4 hy.1 hy.2, fmt2 hm.1 hm.2]
  refine Str.ext' (Array.toList_inj.mp ?_)
  simp only [Str.cps_append, Array.toList_append]
  rfl
section
variable {base h₀ h' : Heap} {L : Addr} {m₀ : Str → Option Value} {news all : List (Addr × Obj)} {fr : List Env} {s : Shared} {Q E : Value → Shared → Prop} {tk' : Nat}
theorem endEnt_md {y m d : Int} {v9 : Value} {new9 : List (Addr × Obj)} {D l : Addr} {t ty tm td : Tok} {n : Nat} {last : Bool} (hret : cVal (IsEnt last) base h₀ L m₀ news fr s Q E) (F : Fr h₀ L h' m₀) (N : News h₀ L h' all)
    (P9 : IsDue (dueM y m d) v9 new9) (mT : (D, tupOf #[.str (PySem.Str.empty ++ intSpecTextOf (PySem.Str.ofString "04d") y ++ PySem.Str.ofString "-" ++ intSpecTextOf (PySem.Str.ofString "02d") m ++ PySem.Str.ofString "-" ++ intSpecTextOf (PySem.Str.ofString "02d") d) t, .ref l, v9]) ∈ all) (mL : (l, W.listOf #[.int y ty, .int m tm, .int d td] n) ∈ all) (hy : In y 10000) (hm : In m 100) (hd : In d 100) (h9 : ∀ p ∈ new9, p ∈ all) (hs : ∀ p ∈ news, p ∈ all) (lD : ∀ p ∈ news, p.1 < D) (ll : ∀ p ∈ news, p.1 < l) (l9 : ∀ q ∈ new9, ∀ p ∈ news, p.1 < q.1) :
    Q (.ref D) { s with heap := h', toks := tk' } :=
  endEnt (e := .md y m d) (vs := [.int y ty, .int m tm, .int d td]) hret F N P9 mT (tx_md hy hm hd) mL (ints3) rfl (⟨hy, hm, hd⟩) (fun h => nomatch h) h9 hs lD ll l9
theorem endEnt_mc {y m d : Int} {v9 : Value} {new9 : List (Addr × Obj)} {D l : Addr} {t ty tm td : Tok} {n : Nat} {last : Bool} (hret : cVal (IsEnt last) base h₀ L m₀ news fr s Q E) (F : Fr h₀ L h' m₀) (N : News h₀ L h' all)
    (P9 : IsDue (dueM y m d) v9 new9) (mT : (D, tupOf #[.str (PySem.Str.empty ++ intSpecTextOf (PySem.Str.ofString "04d") y ++ intSpecTextOf (PySem.Str.ofString "02d") m ++ intSpecTextOf (PySem.Str.ofString "02d") d) t, .ref l, v9]) ∈ all) (mL : (l, W.listOf #[.int y ty, .int m tm, .int d td] n) ∈ all) (hy : In y 10000) (hm : In m 100) (hd : In d 100) (h9 : ∀ p ∈ new9, p ∈ all) (hs : ∀ p ∈ news, p ∈ all) (lD : ∀ p ∈ news, p.1 < D) (ll : ∀ p ∈ news, p.1 < l) (l9 : ∀ q ∈ new9, ∀ p ∈ news, p.1 < q.1) :
    Q (.ref D) { s with heap := h', toks := tk' } :=
  endEnt (e := .mc y m d) (vs := [.int y ty, .int m tm, .int d td]) hret F N P9 mT (tx_mc hy hm hd) mL (ints3) rfl (⟨hy, hm, hd⟩) (fun h => nomatch h) h9 hs lD ll l9
theorem endEnt_wd {y w : Int} {v9 : Value} {new9 : List (Addr × Obj)} {D l : Addr} {t : Tok} {n : Nat} {last : Bool} (hret : cVal (IsEnt last) base h₀ L m₀ news fr s Q E) (F : Fr h₀ L h' m₀) (N : News h₀ L h' all)
    (P9 : IsDue (dueW y w 1) v9 new9) (mT : (D, tupOf #[.str (PySem.Str.empty ++ intSpecTextOf (PySem.Str.ofString "04d") y ++ PySem.Str.ofString "-W" ++ intSpecTextOf (PySem.Str.ofString "02d") w) t, .ref l, v9]) ∈ all) (mL : (l, W.listOf #[] n) ∈ all) (hy : In y 10000) (hw : In w 100) (h9 : ∀ p ∈ new9, p ∈ all) (hs : ∀ p ∈ news, p ∈ all) (lD : ∀ p ∈ news, p.1 < D) (ll : ∀ p ∈ news, p.1 < l) (l9 : ∀ q ∈ new9, ∀ p ∈ news, p.1 < q.1) :
    Q (.ref D) { s with heap := h', toks := tk' } :=
  endEnt (e := .wd y w) (vs := []) hret F N P9 mT (tx_wd hy hw) mL (.nil) rfl (⟨hy, hw⟩) (fun h => nomatch h) h9 hs lD ll l9
theorem endEnt_wdk {y w k : Int} {v9 : Value} {new9 : List (Addr × Obj)} {D l : Addr} {t : Tok} {n : Nat} {last : Bool} (hret : cVal (IsEnt last) base h₀ L m₀ news fr s Q E) (F : Fr h₀ L h' m₀) (N : News h₀ L h' all)
    (P9 : IsDue (dueW y w k) v9 new9) (mT : (D, tupOf #[.str (PySem.Str.empty ++ intSpecTextOf (PySem.Str.ofString "04d") y ++ PySem.Str.ofString "-W" ++ intSpecTextOf (PySem.Str.ofString "02d") w ++ PySem.Str.ofString "-" ++ PySem.Str.ofString (toString k)) t, .ref l, v9]) ∈ all) (mL : (l, W.listOf #[] n) ∈ all) (hy : In y 10000) (hw : In w 100) (hk : In k 10) (h9 : ∀ p ∈ new9, p ∈ all) (hs : ∀ p ∈ news, p ∈ all) (lD : ∀ p ∈ news, p.1 < D) (ll : ∀ p ∈ news, p.1 < l) (l9 : ∀ q ∈ new9, ∀ p ∈ news, p.1 < q.1) :
    Q (.ref D) { s with heap := h', toks := tk' } :=
  endEnt (e := .wdk y w k) (vs := []) hret F N P9 mT (tx_wdk hy hw hk) mL (.nil) rfl (⟨hy, hw, hk⟩) (fun h => nomatch h) h9 hs lD ll l9
theorem endEnt_wc {y w : Int} {v9 : Value} {new9 : List (Addr × Obj)} {D l : Addr} {t : Tok} {n : Nat} {last : Bool} (hret : cVal (IsEnt last) base h₀ L m₀ news fr s Q E) (F : Fr h₀ L h' m₀) (N : News h₀ L h' all)
    (P9 : IsDue (dueW y w 1) v9 new9) (mT : (D, tupOf #[.str (PySem.Str.empty ++ intSpecTextOf (PySem.Str.ofString "04d") y ++ PySem.Str.ofString "W" ++ intSpecTextOf (PySem.Str.ofString "02d") w) t, .ref l, v9]) ∈ all) (mL : (l, W.listOf #[] n) ∈ all) (hy : In y 10000) (hw : In w 100) (h9 : ∀ p ∈ new9, p ∈ all) (hs : ∀ p ∈ news, p ∈ all) (lD : ∀ p ∈ news, p.1 < D) (ll : ∀ p ∈ news, p.1 < l) (l9 : ∀ q ∈ new9, ∀ p ∈ news, p.1 < q.1) :
    Q (.ref D) { s with heap := h', toks := tk' } :=
  endEnt (e := .wc y w) (vs := []) hret F N P9 mT (tx_wc hy hw) mL (.nil) rfl (⟨hy, hw⟩) (fun h => nomatch h) h9 hs lD ll l9
theorem endEnt_wck {y w k : Int} {v9 : Value} {new9 : List (Addr × Obj)} {D l : Addr} {t : Tok} {n : Nat} {last : Bool} (hret : cVal (IsEnt last) base h₀ L m₀ news fr s Q E) (F : Fr h₀ L h' m₀) (N : News h₀ L h' all)
    (P9 : IsDue (dueW y w k) v9 new9) (mT : (D, tupOf #[.str (PySem.Str.empty ++ intSpecTextOf (PySem.Str.ofString "04d") y ++ PySem.Str.ofString "W" ++ intSpecTextOf (PySem.Str.ofString "02d") w ++ PySem.Str.ofString (toString k)) t, .ref l, v9]) ∈ all) (mL : (l, W.listOf #[] n) ∈ all) (hy : In y 10000) (hw : In w 100) (hk : In k 10) (h9 : ∀ p ∈ new9, p ∈ all) (hs : ∀ p ∈ news, p ∈ all) (lD : ∀ p ∈ news, p.1 < D) (ll : ∀ p ∈ news, p.1 < l) (l9 : ∀ q ∈ new9, ∀ p ∈ news, p.1 < q.1) :
    Q (.ref D) { s with heap := h', toks := tk' } :=
  endEnt (e := .wck y w k) (vs := []) hret F N P9 mT (tx_wck hy hw hk) mL (.nil) rfl (⟨hy, hw, hk⟩) (fun h => nomatch h) h9 hs lD ll l9
theorem endEnt_ms {y m k : Int} {v9 : Value} {new9 : List (Addr × Obj)} {D l : Addr} {t ty tm tk : Tok} {n : Nat} {last : Bool} (hla : last = true) (hret : cVal (IsEnt last) base h₀ L m₀ news fr s Q E) (F : Fr h₀ L h' m₀) (N : News h₀ L h' all)
    (P9 : IsDue (dueM y m k) v9 new9) (mT : (D, tupOf #[.str (PySem.Str.empty ++ intSpecTextOf (PySem.Str.ofString "04d") y ++ intSpecTextOf (PySem.Str.ofString "02d") m ++ PySem.Str.ofString (toString k)) t, .ref l, v9]) ∈ all) (mL : (l, W.listOf #[.int y ty, .int m tm, .int k tk] n) ∈ all) (hy : In y 10000) (hm : In m 100) (hk : In k 10) (h9 : ∀ p ∈ new9, p ∈ all) (hs : ∀ p ∈ news, p ∈ all) (lD : ∀ p ∈ news, p.1 < D) (ll : ∀ p ∈ news, p.1 < l) (l9 : ∀ q ∈ new9, ∀ p ∈ news, p.1 < q.1) :
    Q (.ref D) { s with heap := h', toks := tk' } :=
  endEnt (e := .ms y m k) (vs := [.int y ty, .int m tm, .int k tk]) hret F N P9 mT (tx_ms hy hm hk) mL (ints3) rfl (⟨hy, hm, hk⟩) (fun _ => hla) h9 hs lD ll l9
theorem endEnt_ws {y w w' : Int} {v9 : Value} {new9 : List (Addr × Obj)} {D l : Addr} {t : Tok} {n : Nat} {last : Bool} (hla : last = true) (hret : cVal (IsEnt last) base h₀ L m₀ news fr s Q E) (F : Fr h₀ L h' m₀) (N : News h₀ L h' all)
    (P9 : IsDue (dueW y w' 1) v9 new9) (mT : (D, tupOf #[.str (PySem.Str.empty ++ intSpecTextOf (PySem.Str.ofString "04d") y ++ PySem.Str.ofString "-W" ++ PySem.Str.ofString (toString w)) t, .ref l, v9]) ∈ all) (mL : (l, W.listOf #[] n) ∈ all) (hy : In y 10000) (hw : In w 10) (hww : w = w') (h9 : ∀ p ∈ new9, p ∈ all) (hs : ∀ p ∈ news, p ∈ all) (lD : ∀ p ∈ news, p.1 < D) (ll : ∀ p ∈ news, p.1 < l) (l9 : ∀ q ∈ new9, ∀ p ∈ news, p.1 < q.1) :
    Q (.ref D) { s with heap := h', toks := tk' } := by
  subst hww
  exact endEnt (e := .ws y w) (vs := []) hret F N P9 mT (tx_ws hy hw) mL (.nil) rfl (⟨hy, hw⟩) (fun _ => hla) h9 hs lD ll l9
theorem endEnt_mx {y m : Int} {D2 : Addr} {t2 : Tok} {D l : Addr} {t : Tok} {n : Nat} {last : Bool} (hla : last = true) (hret : cVal (IsEnt last) base h₀ L m₀ news fr s Q E) (F : Fr h₀ L h' m₀) (N : News h₀ L h' all)
    (P9 : (D2, tupOf #[.str dashMsg t2]) ∈ all) (mT : (D, tupOf #[.str (PySem.Str.empty ++ intSpecTextOf (PySem.Str.ofString "04d") y ++ PySem.Str.ofString "-" ++ intSpecTextOf (PySem.Str.ofString "02d") m) t, .ref l, .ref D2]) ∈ all) (mL : (l, W.listOf #[] n) ∈ all) (hy : In y 10000) (hm : In m 100) (hs : ∀ p ∈ news, p ∈ all) (lD : ∀ p ∈ news, p.1 < D) (ll : ∀ p ∈ news, p.1 < l) (lE : ∀ p ∈ news, p.1 < D2) :
    Q (.ref D) { s with heap := h', toks := tk' } :=
  endEnt (e := .mx y m) (vs := []) hret F N due_one mT (tx_mx hy hm) mL (.nil) rfl (⟨hy, hm⟩) (fun _ => hla) (fun p hp => by rw [List.mem_singleton.mp hp]; exact P9) hs lD ll (fun q hq => by rw [List.mem_singleton.mp hq]; exact lE)
end
section
variable {prog : Program} {w : World} {A : Around} {E : Value → Shared → Prop} {s : Shared} {Q : Value → Shared → Prop}
/-- a remainder, by its bounds alone -/
theorem mod_gen {a b : Int} {t u : Tok} (hb : 0 < b) (h : ∀ r, r = a.fmod b → 0 ≤ r → r < b → Q (.int r s.toks) { s with toks := s.toks + 1 }) : wpAny (model prog w) A (binaryOp .Mod (.int a t) (.int b u)) Q E s :=
  mod_int (by omega) (h _ rfl (Int.fmod_nonneg_of_pos _ hb) (Int.fmod_lt_of_pos _ hb))
theorem imod_gen {a b : Int} {t u : Tok} (hb : 0 < b) (h : ∀ r, r = a.fmod b → 0 ≤ r → r < b → Q (.int r s.toks) { s with toks := s.toks + 1 }) : wpAny (model prog w) A (inplaceOp .Mod (.int a t) (.int b u)) Q E s :=
  imod_int (by omega) (h _ rfl (Int.fmod_nonneg_of_pos _ hb) (Int.fmod_lt_of_pos _ hb))
end
end Mine
end
section
namespace Mine
/-- entries and marks, one text -/
def glue : List Ent → List Nat → List Nat
  | [], _ => []
  | e :: _, [] => e.txt
  | e :: es, c :: cs => e.txt ++ c :: glue es cs
def Mark (c : Nat) : Prop := ¬ (48 ≤ c ∧ c ≤ 57)
theorem glue_more : ∀ (cs : List Nat) (es : List Ent) (c : Nat) (e : Ent), es[cs.length + 1]? = some e → glue es (cs ++ [c]) = glue es cs ++ c :: e.txt
  | [], es, c, e, h => by
    match es, h with
    | e₀ :: e₁ :: es, h =>
      have : e₁ = e := by simpa using h
      subst this
      simp [glue]
  | c₀ :: cs, es, c, e, h => by
    match es, h with
    | e₀ :: es, h =>
      have h' : es[cs.length + 1]? = some e := by simpa using h
      simp [glue, glue_more cs es c e h', List.append_assoc]
theorem txt_len (e : Ent) : 7 ≤ e.txt.length ∧ e.txt.length ≤ 10 := by cases e <;> simp [Ent.txt]
def Fig (d : Nat) : Prop := 48 ≤ d ∧ d ≤ 57
theorem txt_head (e : Ent) : ∃ d d' r, e.txt = d :: d' :: r ∧ Fig d ∧ Fig d' ∧ 5 ≤ r.length := by
  cases e <;> exact ⟨_, _, _, rfl, dg_is _, dg_is _, by simp⟩
theorem glue_len : ∀ (es : List Ent) (cs : List Nat), (glue es cs).length ≤ 11 * es.length
  | [], _ => by simp [glue]
  | e :: es, [] => by have := txt_len e; simp [glue]; omega
  | e :: es, c :: cs => by have := txt_len e; have := glue_len es cs; simp [glue]; omega
theorem glue_head (e : Ent) (es : List Ent) (cs : List Nat) : ∃ d d' r, glue (e :: es) cs = d :: d' :: r ∧ Fig d ∧ Fig d' ∧ 5 ≤ r.length := by
  obtain ⟨d, d', r, h, h1, h2, h3⟩ := txt_head e
  cases cs with
  | nil => exact ⟨d, d', r, h, h1, h2, h3⟩
  | cons c cs => exact ⟨d, d', r ++ c :: glue es cs, by simp [glue, h], h1, h2, by simp; omega⟩
/-- what stands behind an entry: nothing, or a mark and the entries that are left -/
def TailOk (tail rest : List Nat) : Prop := (tail = [] ∧ rest = []) ∨ ∃ c d d' r, tail = c :: rest ∧ Mark c ∧ rest = d :: d' :: r ∧ Fig d ∧ Fig d' ∧ 5 ≤ r.length
/-- the text that is left at the i-th turn -/
def leftAt (es : List Ent) (cs : List Nat) (i : Nat) : List Nat := glue (es.drop i) (cs.drop i)
theorem left_turn {es : List Ent} {cs : List Nat} {i : Nat} {e : Ent} (hl : es.length = cs.length + 1) (hm : ∀ c ∈ cs, Mark c) (he : es[i]? = some e) :
    ∃ tail, leftAt es cs i = e.txt ++ tail ∧ TailOk tail (leftAt es cs (i + 1)) ∧ (i + 1 = es.length → tail = []) := by
  obtain ⟨hi, hei⟩ := List.getElem?_eq_some_iff.mp he
  unfold leftAt
  rw [List.drop_eq_getElem_cons hi, hei]
  rcases Nat.lt_or_ge i cs.length with hc | hc
  · rw [List.drop_eq_getElem_cons hc]
    refine ⟨cs[i] :: glue (es.drop (i + 1)) (cs.drop (i + 1)), rfl, .inr ?_, fun q => by omega⟩
    have h2 : i + 1 < es.length := by omega
    rw [List.drop_eq_getElem_cons h2]
    obtain ⟨d, d', r, h, h1, h2, h3⟩ := glue_head es[i + 1] (es.drop (i + 1 + 1)) (cs.drop (i + 1))
    exact ⟨_, d, d', r, rfl, hm _ (List.getElem_mem hc), h, h1, h2, h3⟩
  · rw [List.drop_of_length_le hc, List.drop_of_length_le (show cs.length ≤ i + 1 by omega)]
    refine ⟨[], by simp [glue], .inl ⟨rfl, ?_⟩, fun _ => rfl⟩
    rw [List.drop_of_length_le (show es.length ≤ i + 1 by omega)]; rfl
theorem left_len (es : List Ent) (cs : List Nat) (i : Nat) (h : es.length ≤ 12) : (leftAt es cs i).length ≤ 132 := by
  have := glue_len (es.drop i) (cs.drop i)
  unfold leftAt
  have := List.length_drop (i := i) (l := es)
  omega
theorem str_len (l : List Nat) : (⟨l.toArray⟩ : PySem.Str).length = l.length := List.size_toArray
/-- the sign at a place -/
theorem item_at {l : List Nat} {i : Int} {k c : Nat} (h0 : 0 ≤ i) (hi : i.toNat = k) (h : l[k]? = some c) : PySem.Txt.item ⟨l.toArray⟩ i = ⟨#[c]⟩ := by
  obtain ⟨hk, hc⟩ := List.getElem?_eq_some_iff.mp h
  unfold PySem.Txt.item PySem.Txt.charAt seqIndex?
  rw [str_len]
  have h1 : ¬ i < 0 := by omega
  have h2 : (decide (0 ≤ i) && decide (i < (l.length : Int))) = true := by simp; omega
  simp only [h1, if_false, h2, if_true, Option.bind_some, hi]
  simp [h]
theorem cut_head (p q : List Nat) {j : Int} (hj : j = (p.length : Int)) : PySem.Txt.slice ⟨(p ++ q).toArray⟩ none (some j) = ⟨p.toArray⟩ := by
  have := eq_of_beq (slice_closes_to (x := ⟨(p ++ q).toArray⟩) (j := j) (by subst hj; simp; omega))
  rw [this]
  subst hj
  simp
theorem cut_tail (p q rest : List Nat) {j : Int} (hj : j = (p.length : Int) + 1) (hq : TailOk q rest) : PySem.Txt.slice ⟨(p ++ q).toArray⟩ (some j) none = ⟨rest.toArray⟩ := by
  rcases hq with ⟨rfl, rfl⟩ | ⟨c, d, d', r, rfl, _, _, _⟩
  · rw [List.append_nil]
    subst hj
    unfold PySem.Txt.slice
    have : (Builtin.Str.strSliceIndices (some ((p.length : Int) + 1)) none 1 (⟨p.toArray⟩ : PySem.Str).length) = [] := by
      rw [str_len]
      have h1 : ¬ ((p.length : Int) + 1 < 0) := by omega
      simp only [Builtin.Str.strSliceIndices, sliceRange, h1, if_false, show ((1 : Int) > 0) = True from by simp, if_true]
      rw [if_neg (by omega)]
      rfl
    rw [this]
    have hne : (⟨p.toArray⟩ : PySem.Str).length = p.length := str_len p
    split
    · rename_i hc
      simp [hne] at hc
      have : p = [] := List.eq_nil_of_length_eq_zero hc.symm
      rw [this]
    · rfl
  · subst hj
    rw [slice_from_eq (b := ((p ++ c :: rest).length : Int)) (by omega) (by rw [str_len]; simp; omega) (by rw [str_len])]
    simp
    exact List.take_of_length_le (by omega)
end Mine
end
section
namespace Mine
def digB (x : PySem.Str) : Bool := !(Builtin.Str.occurrences (Str.ofString "0123456789") x 0 (Str.ofString "0123456789").length 1).isEmpty
theorem digB_one (c : Nat) : digB ⟨#[c]⟩ = decide (48 ≤ c ∧ c ≤ 57) := by
  unfold digB
  rw [PySem.StrLaws.found_one]
  have e : (Str.ofString "0123456789").cps.toList = [48, 49, 50, 51, 52, 53, 54, 55, 56, 57] := by decide +kernel
  rw [e]
  by_cases h : 48 ≤ c ∧ c ≤ 57
  · rw [decide_eq_true h, decide_eq_true_eq]; simp only [List.mem_cons, List.not_mem_nil, or_false]; omega
  · rw [decide_eq_false h, decide_eq_false_iff_not]; simp only [List.mem_cons, List.not_mem_nil, or_false]; omega
theorem lit_dash : PySem.Str.ofString "-" = ⟨#[45]⟩ := by decide +kernel
theorem lit_w : PySem.Str.ofString "W" = ⟨#[87]⟩ := by decide +kernel
theorem one_eq (a b : Nat) : ((⟨#[a]⟩ : PySem.Str) == ⟨#[b]⟩) = decide (a = b) := by
  by_cases h : a = b
  · subst h; rw [decide_eq_true rfl]; exact beq_self_eq_true _
  · rw [decide_eq_false h, beq_eq_false_iff_ne]; intro q; exact h (by simpa using q)
section
variable {l : List Nat} {i : Int} {k c : Nat} (h0 : 0 ≤ i) (hi : i.toNat = k) (h : l[k]? = some c)
include h0 hi h
theorem is_dash (hc : c = 45) : (PySem.Txt.item ⟨l.toArray⟩ i == PySem.Str.ofString "-") = true := by rw [item_at h0 hi h, lit_dash, one_eq, decide_eq_true hc]
theorem no_dash (hc : c ≠ 45) : (PySem.Txt.item ⟨l.toArray⟩ i == PySem.Str.ofString "-") = false := by rw [item_at h0 hi h, lit_dash, one_eq, decide_eq_false hc]
theorem is_w (hc : c = 87) : (PySem.Txt.item ⟨l.toArray⟩ i == PySem.Str.ofString "W") = true := by rw [item_at h0 hi h, lit_w, one_eq, decide_eq_true hc]
theorem no_w (hc : c ≠ 87) : (PySem.Txt.item ⟨l.toArray⟩ i == PySem.Str.ofString "W") = false := by rw [item_at h0 hi h, lit_w, one_eq, decide_eq_false hc]
theorem is_fig (hc : Fig c) : digB (PySem.Txt.item ⟨l.toArray⟩ i) = true := by rw [item_at h0 hi h, digB_one, decide_eq_true (show 48 ≤ c ∧ c ≤ 57 from hc)]
theorem no_fig (hc : Mark c) : digB (PySem.Txt.item ⟨l.toArray⟩ i) = false := by rw [item_at h0 hi h, digB_one, decide_eq_false (show ¬ (48 ≤ c ∧ c ≤ 57) from hc)]
end
theorem dg_n45 (n : Nat) : dg n ≠ 45 := by have := dg_is n; omega
theorem dg_n87 (n : Nat) : dg n ≠ 87 := by have := dg_is n; omega
theorem len_of (p tail : List Nat) : (⟨(p ++ tail).toArray⟩ : PySem.Str).length = p.length + tail.length := by rw [str_len, List.length_append]
/-- the words of the fault with which the reader ends, if it ends with one -/
def Ent.bad : Ent → Option PySem.Str
  | .wd y w => badG y w 1
  | .wdk y w k => badG y w k
  | .wc y w => badG y w 1
  | .wck y w k => badG y w k
  | .ws y w => badG y w 1
  | .mx _ _ => some dashMsg
  | _ => none
def dueOf (y m d : Int) : Due := match badC y m d with
  | some p => .two p.1 p.2
  | none => .num (dbyI y + dbmI y m + d)
/-- the date that the reader gives -/
def IsDt (e : Ent) (o : Obj) : Prop := ∃ (y m d : Int) (ty tm td : Tok) (k : Nat), o = W.listOf #[.int y ty, .int m tm, .int d td] k ∧ (-100000 < y ∧ y < 100000) ∧ (-100000 < m ∧ m < 100000) ∧ (-100000 < d ∧ d < 100000) ∧ (e.parts = [] ∨ e.parts = [y, m, d]) ∧ e.due = dueOf y m d
theorem month_due {y m d : Int} (hy : In y 10000) : dueM y m d = dueOf y m d := by
  unfold dueM dueOf badC
  by_cases h : y = 0
  · rw [if_pos h, if_pos (by omega)]; subst h; rfl
  · rw [if_neg h, if_neg (show ¬ ¬ (1 ≤ y ∧ y ≤ 9999) from not_not_intro ⟨by have := hy.1; omega, by have := hy.2; omega⟩)]
    by_cases h2 : 1 ≤ m ∧ m ≤ 12
    · rw [if_neg (not_not_intro h2), if_neg (not_not_intro h2)]
      by_cases h3 : 1 ≤ d ∧ d ≤ dimI y m
      · rw [if_neg (not_not_intro h3), if_neg (not_not_intro h3)]
      · rw [if_pos h3, if_pos h3]
    · rw [if_pos h2, if_pos h2]
theorem dby_lt {a b : Int} (h : dbyI a < dbyI b) : a < b := by
  rcases Int.lt_or_le a b with q | q
  · exact q
  · have := dby_mono q; omega
theorem week_due {y w k yy mm dd : Int} (hy : In y 10000) (h : badG y w k = none) (i1 : 1 ≤ mm) (i2 : mm ≤ 12) (i3 : 1 ≤ dd) (i4 : dd ≤ dimI yy mm) (i5 : dbyI yy + dbmI yy mm + dd = monI y + ((w - 1) * 7 + (k - 1))) :
    dueW y w k = dueOf yy mm dd ∧ 0 ≤ yy ∧ yy ≤ 10000 := by
  have hy1 : 1 ≤ y := by
    rcases Int.lt_or_le y 1 with q | q
    · rw [gY (by omega)] at h; cases h
    · exact q
  have hy2 : y ≤ 9999 := by have := hy.2; omega
  have hw : WeekOk y w := by
    by_cases q : WeekOk y w
    · exact q
    · rw [gW hy1 hy2 q] at h; cases h
  have hk : 0 < k ∧ k < 8 := by
    by_cases q : 0 < k ∧ k < 8
    · exact q
    · rw [gD hy1 hy2 hw q] at h; cases h
  have hb := dbm_bound (y := yy) i1 i2 i3 i4
  have hs := dby_succ yy
  have hwk := week_iff.mp hw
  have hm1 : dbyI (y + 1) ≤ dbyI 10000 := dby_mono (by omega)
  have hm0 : dbyI 1 ≤ dbyI y := dby_mono hy1
  have hmon := mon_bounds y
  have hmon1 : monI 1 = 1 := by decide
  have hge : monI 1 ≤ monI y := by
    rcases Int.lt_or_le 1 y with q | q
    · have a := mon_mono q
      have b := mon_succ 1
      split at b <;> omega
    · have : y = 1 := by omega
      rw [this]; exact Int.le_refl _
  have h1 : 1 ≤ w := (week_end hw).1
  have hlt : 0 ≤ yy := by
    have : dbyI 0 < dbyI (yy + 1) := by
      have e0 : dbyI 0 < 0 := by decide
      omega
    have := dby_lt this; omega
  have hyy1 : 1 ≤ yy := by
    rcases Int.lt_or_le yy 1 with q | q
    · have : yy = 0 := by omega
      subst this
      have e1 : dbyI (0 + 1) = 0 := by decide
      omega
    · exact q
  have hgt : yy ≤ 10000 := by
    have e2 : dbyI 10001 = dbyI 10000 + 366 := by decide
    have : dbyI yy < dbyI 10001 := by omega
    have := dby_lt this; omega
  refine ⟨?_, hlt, hgt⟩
  unfold dueW
  rw [if_neg (show ¬ y = 0 by omega), if_neg (not_not_intro hw), if_neg (show ¬ ¬ (1 ≤ k ∧ k ≤ 7) from not_not_intro ⟨by omega, by omega⟩)]
  unfold dueOf
  by_cases hf : dbyI 10000 < monI y + (w - 1) * 7 + (k - 1)
  · rw [if_pos hf]
    have : yy = 10000 := by
      rcases Int.lt_or_le yy 10000 with q | q
      · have := dby_mono (show yy + 1 ≤ 10000 by omega); omega
      · omega
    rw [bc_y (by omega), this]
  · rw [if_neg hf]
    have : yy ≤ 9999 := by
      rcases Int.lt_or_le 9999 yy with q | q
      · have := dby_mono (show 10000 ≤ yy by omega); omega
      · exact q
    rw [bc_ok hyy1 this i1 i2 i3 i4]
    congr 1; omega
theorem week_bad {y w k : Int} {msg : PySem.Str} (hy : In y 10000) (h : badG y w k = some msg) : dueW y w k = .one msg := by
  unfold dueW
  by_cases h0 : y = 0
  · subst h0
    rw [gY (by omega)] at h
    rw [if_pos rfl, ← Option.some.inj h]
    congr 1
  · have hy1 : 1 ≤ y := by have := hy.1; omega
    have hy2 : y ≤ 9999 := by have := hy.2; omega
    rw [if_neg h0]
    by_cases hw : WeekOk y w
    · rw [if_neg (not_not_intro hw)]
      by_cases hk : 0 < k ∧ k < 8
      · rw [gN hy1 hy2 hw hk.1 hk.2] at h; cases h
      · rw [gD hy1 hy2 hw hk] at h
        rw [if_pos (by omega), ← Option.some.inj h, tE]
    · rw [gW hy1 hy2 hw] at h
      rw [if_pos hw, ← Option.some.inj h, tE]
theorem Ent.bad_due {e : Ent} {msg : PySem.Str} (ok : e.Ok) (h : e.bad = some msg) : e.due = .one msg := by
  cases e with
  | wd y w => exact week_bad ok.1 h
  | wdk y w k => exact week_bad ok.1 h
  | wc y w => exact week_bad ok.1 h
  | wck y w k => exact week_bad ok.1 h
  | ws y w => exact week_bad ok.1 h
  | mx y m => rw [← Option.some.inj h]; rfl
  | md y m d => cases h
  | mc y m d => cases h
  | ms y m d => cases h
end Mine
end
section
open PySem PySem.W PyProof.Rows PySem.Spec PySem.Calls
namespace Mine
section
variable {prog : Program} {w : World} {A : Around} {E : Value → Shared → Prop} {s : Shared} {env : Env} {h₀ : Heap} {body : List Stmt} {Q : Flow → Shared → Prop}
/-- the end of a turn that turns the text a alone, and k -/
def GrowPost (h₀ : Heap) (L : Addr) (a k : Str) (m₀ : Str → Option Value) (P : PySem.Str → Prop) (need : List (Addr × Obj)) (s : Shared) (Q : Flow → Shared → Prop) (f : Flow) (s₂ : Shared) : Prop := match f with
  | .ret v => Q (.ret v) s₂
  | .brk => Q .next s₂
  | _ => ∃ h' tk m' news' T t, s₂ = { s with heap := h', toks := tk } ∧ Fr h₀ L h' m' ∧ News h₀ L h' news' ∧ (∀ p ∈ need, p ∈ news') ∧ m' a = some (.str T t) ∧ (∀ z, z ≠ a → z ≠ k → m' z = m₀ z) ∧ P T
theorem GrowPost.next {L : Addr} {a k : Str} {m₀ m' : Str → Option Value} {P : PySem.Str → Prop} {need news' : List (Addr × Obj)} {s : Shared} {Q : Flow → Shared → Prop} {h' : Heap} {tk : Nat} {T : PySem.Str} {t : Tok} (F : Fr h₀ L h' m') (N : News h₀ L h' news') (hs : ∀ p ∈ need, p ∈ news') (ha : m' a = some (.str T t)) (hm : ∀ z, z ≠ a → z ≠ k → m' z = m₀ z) (hP : P T) : GrowPost h₀ L a k m₀ P need s Q .next { s with heap := h', toks := tk } :=
  ⟨h', tk, m', news', T, t, rfl, F, N, hs, ha, hm, hP⟩
theorem grow_map {a k : Str} {m₀ m₁ : Str → Option Value} {v : Value} {T : PySem.Str} {t : Tok} (ha : m₁ a = some (.str T t)) (hm : ∀ z, z ≠ a → z ≠ k → m₁ z = m₀ z) (z : Str) : (if z = k then some v else m₁ z) = if z = k then some v else if z = a then some (.str T t) else m₀ z := by
  by_cases h1 : z = k
  · simp [h1]
  · simp only [if_neg h1]
    by_cases h2 : z = a
    · rw [if_pos h2, h2, ha]
    · rw [if_neg h2, hm z h2 h1]
theorem grow_end {a k : Str} {m₀ m₁ : Str → Option Value} {T : PySem.Str} {t : Tok} (ha : m₁ a = some (.str T t)) (hm : ∀ z, z ≠ a → z ≠ k → m₁ z = m₀ z) (z : Str) : m₁ z = if z = a then some (.str T t) else if z = k then m₁ k else m₀ z := by
  by_cases h2 : z = a
  · rw [if_pos h2, h2, ha]
  · rw [if_neg h2]
    by_cases h1 : z = k
    · rw [if_pos h1, h1]
    · rw [if_neg h1, hm z h2 h1]
/-- a loop over a range that grows a text -/
theorem loop_grow {r : Addr} {a₀ b₀ : Int} {t₀ u₀ v₀ : Tok} {n : Nat} {a k : Str} {m₀ : Str → Option Value} {news : List (Addr × Obj)} {T₀ : PySem.Str} {x₀ : Tok} (P : Nat → PySem.Str → Prop) (hh : A.handled = none) (hr : IsRange s.heap r a₀ b₀ 1 t₀ u₀ v₀) (hsmall : Builtin.Range.small a₀ b₀ 1 = true) (hsz : Builtin.Range.rangeSize a₀ b₀ 1 = (n : Int))
    (F : Fr h₀ env.locals s.heap m₀) (N : News h₀ env.locals s.heap news) (hl : m₀ a = some (.str T₀ x₀)) (hP : P 0 T₀)
    (turn : ∀ (i : Nat) (T : PySem.Str) (t x : Tok) (h : Heap) (tk : Nat) (own : List (Addr × Obj)), i < n → P i T → Fr h₀ env.locals h (fun y => if y = k then some (.int (a₀ + (i : Int)) t) else if y = a then some (.str T x) else m₀ y) → News h₀ env.locals h (news ++ own) →
      wpAny (model prog w) A (execs body env) (GrowPost h₀ env.locals a k m₀ (P (i + 1)) (news ++ own) { s with heap := h, toks := tk } Q) E { s with heap := h, toks := tk })
    (done : ∀ (T : PySem.Str) (x : Tok) (u : Option Value) (h : Heap) (tk : Nat), P n T → Fr h₀ env.locals h (fun y => if y = a then some (.str T x) else if y = k then u else m₀ y) → News h₀ env.locals h news → Q .next { s with heap := h, toks := tk }) :
    wpAny (model prog w) A (pyIter (.ref r)) (fun it s₂ => LoopAtV prog w A h₀ env k body Q E it s₂) E s := by
  refine wpAny_pyIter_range hr hsmall ?_
  have W : Walks prog w A s.heap.objs.size [s.heap.objs.size] [s.heap.objs.size] n (fun i v => i < n ∧ ∃ t, v = .int (a₀ + i * 1) t)
      (fun i h => IsRangeIter h s.heap.objs.size (a₀ + (i : Nat) * 1) ((n : Int) - (i : Nat)) 1) := (Walks.range hh _ a₀ 1 n).bound
  refine kdr_loop (m₀ := m₀) (news := news) (fun i m nx => nx = news ∧ (∃ T t, m a = some (.str T t) ∧ P i T) ∧ ∀ z, z ≠ a → z ≠ k → m z = m₀ z) W (fun _ h => h) (fun _ h => h) ?_ ?_ ?_ ?_ (by show IsRangeIter _ _ _ _ _; rw [hsz]; simpa using Heap.get?_push_size _ rfl) (F.push _) (fun p hp => ⟨Heap.get?_push_of_some _ (N p hp).1, (N p hp).2⟩) ⟨rfl, ⟨T₀, x₀, hl, hP⟩, fun _ _ _ => rfl⟩ ?_ ?_
  · intro i h hi b hb
    rw [List.mem_singleton.mp hb]
    exact ⟨_, hi⟩
  · intro hm
    exact absurd F.ns.lt ((List.mem_singleton.mp hm) ▸ Nat.lt_irrefl _)
  · intro b hb
    rw [List.mem_singleton.mp hb]
    exact next_is_new F
  · intro p hp hI
    exact absurd (Heap.lt_size (N p hp).1) ((List.mem_singleton.mp hI) ▸ Nat.lt_irrefl _)
  · rintro i v m₁ nx h tk own hi ⟨_, t, rfl⟩ hoff ⟨rfl, ⟨T, x, ha, hPi⟩, hm⟩ F₁ N₁
    have e1 : a₀ + (i : Int) * 1 = a₀ + (i : Int) := by omega
    rw [e1] at F₁
    refine wpAny_mono (turn i T t x h tk own hi hPi (Mine.Fr.congr (grow_map ha hm) F₁) N₁) (fun f s₂ p => ?_) fun _ _ e => e
    have up : (∃ h' tk' m' news' T t, s₂ = { s with heap := h', toks := tk' } ∧ Fr h₀ env.locals h' m' ∧ News h₀ env.locals h' news' ∧ (∀ p ∈ nx ++ own, p ∈ news') ∧ m' a = some (.str T t) ∧ (∀ z, z ≠ a → z ≠ k → m' z = m₀ z) ∧ P (i + 1) T) →
        InvEndG h₀ env.locals (fun m nx' => nx' = nx ∧ (∃ T t, m a = some (.str T t) ∧ P (i + 1) T) ∧ ∀ z, z ≠ a → z ≠ k → m z = m₀ z) own { s with heap := h, toks := tk } s₂ := by
      rintro ⟨h', tk', m', news', T', t', e, F', N', hs, ha', hm', hP'⟩
      exact ⟨h', tk', m', news', nx, e, F', N', fun p hp => hs p (List.mem_append_left _ hp), fun p hp => hs p (List.mem_append_right _ hp), hoff, rfl, ⟨T', t', ha', hP'⟩, hm'⟩
    cases f with
    | ret v => exact p
    | brk => exact p
    | next => exact up p
    | cont => exact up p
  · rintro m₁ nx h tk ⟨rfl, ⟨T, x, ha, hPi⟩, hm⟩ F₁ N₁
    exact done T x (m₁ k) h tk hPi (Mine.Fr.congr (grow_end ha hm) F₁) N₁
/-- the end of a turn that leaves a text in a -/
def EatPost (h₀ : Heap) (L : Addr) (a : Str) (P : PySem.Str → Prop) (need : List (Addr × Obj)) (s : Shared) (f : Flow) (s₂ : Shared) : Prop := match f with
  | .next => ∃ h' tk m' news' T t, s₂ = { s with heap := h', toks := tk } ∧ Fr h₀ L h' m' ∧ News h₀ L h' news' ∧ (∀ p ∈ need, p ∈ news') ∧ m' a = some (.str T t) ∧ P T
  | _ => False
theorem EatPost.next {L : Addr} {a : Str} {m' : Str → Option Value} {P : PySem.Str → Prop} {need news' : List (Addr × Obj)} {s : Shared} {h' : Heap} {tk : Nat} {T : PySem.Str} {t : Tok} (F : Fr h₀ L h' m') (N : News h₀ L h' news') (hs : ∀ p ∈ need, p ∈ news') (ha : m' a = some (.str T t)) (hP : P T) : EatPost h₀ L a P need s .next { s with heap := h', toks := tk } :=
  ⟨h', tk, m', news', T, t, rfl, F, N, hs, ha, hP⟩
/-- a loop over a made list that eats a text -/
theorem loop_eat {target : Expr} {l : Addr} {vs : List Value} {nn : Nat} {a : Str} {m₀ : Str → Option Value} {news : List (Addr × Obj)} {T₀ : PySem.Str} {x₀ : Tok} (P : Nat → PySem.Str → Prop) (hh : A.handled = none) (F : Fr h₀ env.locals s.heap m₀) (N : News h₀ env.locals s.heap news) (hm : (l, W.listOf vs.toArray nn) ∈ news) (hl : m₀ a = some (.str T₀ x₀)) (hP : P 0 T₀)
    (turn : ∀ (i : Nat) (v : Value) (T : PySem.Str) (x : Tok) (m₁ : Str → Option Value) (s₁ : Shared) (h : Heap) (tk : Nat) (own : List (Addr × Obj)), vs[i]? = some v → P i T → Fr h₀ env.locals h (fun y => if y = a then some (.str T x) else m₁ y) → News h₀ env.locals h (news ++ own) →
      wpAny (model prog w) A (assign target env v) (fun _ s₃ => wpAny (model prog w) A (execs body env) (EatPost h₀ env.locals a (P (i + 1)) (news ++ own) { s₁ with heap := h, toks := tk }) E s₃) E { s₁ with heap := h, toks := tk })
    (done : ∀ (m₁ : Str → Option Value) (h : Heap) (tk : Nat), Fr h₀ env.locals h m₁ → News h₀ env.locals h news → Q .next { s with heap := h, toks := tk }) :
    wpAny (model prog w) A (pyIter (.ref l)) (fun it s₂ => LoopAtT prog w A h₀ env target body Q E it s₂) E s := by
  have hol : s.heap.get? l = some (W.listOf vs.toArray nn) := (N _ hm).1
  have hls : s.heap.IsList l vs.toArray := ⟨_, hol, rfl, nn, rfl⟩
  have hne : l ≠ s.heap.objs.size := Nat.ne_of_lt (Heap.lt_size hol)
  refine wpAny_pyIter_list hls ?_
  have W := Walks.list (prog := prog) (w := w) hh s.heap.objs.size l hne vs.toArray
  have hlen : vs.toArray.size = vs.length := by simp
  rw [hlen] at W
  refine ⟨_, _, _, vs.length, _, _, m₀, news, (fun i m nx => nx = news ∧ ∃ T t, m a = some (.str T t) ∧ P i T), rfl, W, ?_, ?_, ?_, ⟨⟨_, Heap.get?_push_size _ rfl, rfl, rfl⟩, hls.at fun o e => Heap.get?_push_of_some _ e⟩, F.push _, (fun p hp => ⟨Heap.get?_push_of_some _ (N p hp).1, (N p hp).2⟩), fun i s' v Q' st q => letGo_listiter st.1 q, ⟨rfl, T₀, x₀, hl, hP⟩, ?_, ?_⟩
  · intro hm'
    rcases List.mem_cons.mp hm' with e | hm'
    · exact absurd F.ns.lt (e ▸ Nat.lt_irrefl _)
    · exact (N _ hm).2.1 ((List.mem_singleton.mp hm').symm)
  · intro b hb
    rw [List.mem_singleton.mp hb]
    exact next_is_new F
  · intro p hp hI
    exact absurd (Heap.lt_size (N p hp).1) ((List.mem_singleton.mp hI) ▸ Nat.lt_irrefl _)
  · rintro i v m₁ news₁ s₁ own hin hPv ⟨rfl, T, x, ha, hPi⟩ hoff hown hget hmem hst' F₁ N₁
    have hv : vs[i]? = some v := by simpa using hPv
    have N₂ : News h₀ env.locals s₁.heap (news₁ ++ own) := fun p hp => N₁ p ((List.mem_append.mp hp).elim (fun h => List.mem_append.mpr (.inr h)) fun h => List.mem_append.mpr (.inl h))
    have F₂ : Fr h₀ env.locals s₁.heap (fun y => if y = a then some (.str T x) else m₁ y) := Mine.Fr.congr (fun z => by
      by_cases e : z = a
      · rw [if_pos e, e, ha]
      · rw [if_neg e]) F₁
    refine wpAny_mono (turn i v T x m₁ s₁ s₁.heap s₁.toks own hv hPi F₂ N₂) (fun _ s₃ h₃ => wpAny_mono h₃ (fun f s₂ p => ?_) fun _ _ e => e) fun _ _ e => e
    cases f with
    | next =>
      obtain ⟨h', tk', m', news', T', t', e, F', N', hs, ha', hP'⟩ := p
      exact ⟨rfl, h', tk', m', news₁, e, F', fun p hp => N' p (hs p (List.mem_append.mpr (List.mem_append.mp hp).symm)), hoff, rfl, T', t', ha', hP'⟩
    | ret v => exact p.elim
    | brk => exact p.elim
    | cont => exact p.elim
  · rintro h' tk m' news' F' N' _ ⟨rfl, T, x, ha, hPi⟩
    exact done m' h' tk F' N'
end
end Mine
end
section
open PySem PySem.W PyProof.Rows PySem.Spec PySem.Calls PyProof.Rows.LCg
namespace Mine
section
variable {prog : Program} {w : World} {A : Around} {E : Value → Shared → Prop} {s : Shared} {env : Env} {h₀ : Heap} {L : Addr} {m : Str → Option Value} {news : List (Addr × Obj)}
/-- the numbers that are taken: a made list, one to twelve long -/
def JN (h₀ : Heap) (L : Addr) (m : Str → Option Value) (news : List (Addr × Obj)) (s : Shared) (v : Value) (s₂ : Shared) : Prop :=
  ∃ (D : Addr) (ws : List Value) (ns : List Int) (h : Heap) (tk : Nat), v = .ref D ∧ s₂ = { s with heap := h, toks := tk } ∧ IntsAre ws ns ∧ 1 ≤ ns.length ∧ ns.length ≤ 12 ∧ Fr h₀ L h m ∧ News h₀ L h ((D, W.listOf ws.toArray 0) :: news) ∧ ∀ p ∈ news, p.1 < D
theorem JN.intro {D : Addr} {ws : List Value} {ns : List Int} {h : Heap} {tk : Nat} {all : List (Addr × Obj)} (hi : IntsAre ws ns) (h1 : 1 ≤ ns.length) (h2 : ns.length ≤ 12) (F : Fr h₀ L h m) (N : News h₀ L h all) (hs : ∀ p ∈ (D, W.listOf ws.toArray 0) :: news, p ∈ all) (hl : ∀ p ∈ news, p.1 < D) : JN h₀ L m news s (.ref D) { s with heap := h, toks := tk } :=
  ⟨D, ws, ns, h, tk, rfl, rfl, hi, h1, h2, F, cb_drop N hs, hl⟩
theorem joinN {M : Model} {c : Sem Value} {Q : Value → Shared → Prop} (_F : Fr h₀ L s.heap m) (_N : News h₀ L s.heap news)
    (hc : JMark → wpAny M A c (fun v s₂ => JN h₀ L m news s v s₂) E s)
    (hk : ∀ (D : Addr) (ws : List Value) (ns : List Int) (h : Heap) (tk : Nat), IntsAre ws ns → 1 ≤ ns.length → ns.length ≤ 12 → Fr h₀ L h m → News h₀ L h ((D, W.listOf ws.toArray 0) :: news) → (∀ p ∈ news, p.1 < D) → Q (.ref D) { s with heap := h, toks := tk }) : wpAny M A c Q E s := by
  refine wpAny_mono (hc True.intro) (fun v s₂ hq => ?_) fun _ _ h => h
  obtain ⟨D, ws, ns, h, tk, rfl, rfl, hi, h1, h2, F, N, hl⟩ := hq
  exact hk D ws ns h tk hi h1 h2 F N hl
/-- entries, one a number -/
def EntNext (last : Bool) (news tl : List (Addr × Obj)) (y : Value) (news' : List (Addr × Obj)) : Prop := ∃ tl' e, news' = news ++ tl' ∧ (∀ p ∈ tl, p ∈ tl') ∧ EntIn tl' y e ∧ (e.last = true → last = true)
def LastOnly (n : Nat) (es : List Ent) : Prop := ∀ (i : Nat) (e : Ent), es[i]? = some e → e.last = true → i + 1 = n
theorem ent_rest {elt : Expr} {x : Str} {scope : Scope} {cl : List (Str × Addr)} {Fin : List Value → List (Addr × Obj) → Prop} {n : Nat}
    (turn : ∀ k t I oI C oC D m₂ ys tl h tk (E' : Value → Shared → Prop), 0 ≤ k → k < (n : Int) → NsObj oC m₂ → m₂ x = some (.int k t) → Fr h₀ L h m → News h₀ L h ((I, oI) :: (C, oC) :: (D, lst ys) :: (news ++ tl)) → Off3 I C D (news ++ tl) → ((@Ne Nat I C) ∧ (@Ne Nat I D) ∧ (@Ne Nat C D)) →
      wpAny (model prog w) A (eval elt (compEnvC scope cl C env)) (CompEnd h₀ L m { s with heap := h, toks := tk } I oI C oC D (lst ys) (fun _ => True) (EntNext (decide (k = (n : Int) - 1)) news tl)) E' { s with heap := h, toks := tk })
    (fin : ∀ ys tl es, AllHas EntIn tl ys es → es.length = n → LastOnly n es → Fin ys (news ++ tl)) : CompRest prog w A h₀ L m env elt x scope cl s (fun _ => True) (fun i v => ∃ t, v = .int (0 + (i : Int)) t) Fin n 0 [] news := by
  have key : ∀ (j i : Nat) (ys : List Value) (tl : List (Addr × Obj)) (es : List Ent), i + j = n → es.length = i → AllHas EntIn tl ys es → LastOnly n es → CompRest prog w A h₀ L m env elt x scope cl s (fun _ => True) (fun i v => ∃ t, v = .int (0 + (i : Int)) t) Fin j i ys (news ++ tl) := by
    intro j
    induction j with
    | zero =>
      intro i ys tl es hi he hy hl
      exact CompRest.zero (fin ys tl es hy (by omega) hl)
    | succ j ih =>
      intro i ys tl es hi he hy hl
      refine CompRest.succ ?_
      rintro v I oI C oC D m₂ h tk E' ⟨t, rfl⟩ hC hx F N off ne
      refine wpAny_mono (turn _ t I oI C oC D m₂ ys tl h tk E' (by omega) (by omega) hC hx F N off ne) (fun y s₂ hq => ?_) fun _ _ e => e
      obtain ⟨h', tk', nw, e, F', N', off', hS, tl', en, rfl, hsub, hen, hlast⟩ := hq
      refine ⟨h', tk', _, e, F', N', off', hS, ih (i + 1) _ tl' (es ++ [en]) (by omega) (by simp [he]) (AllHas.append (hy.more fun v x hv => EntIn.mono _ _ v x hsub hv) (AllHas.one hen)) ?_⟩
      intro q e' hq' hl'
      rcases Nat.lt_or_ge q es.length with hlt | hge
      · rw [List.getElem?_append_left hlt] at hq'; exact hl q e' hq' hl'
      · rw [List.getElem?_append_right hge] at hq'
        have hz : q - es.length = 0 := by
          rcases Nat.eq_zero_or_pos (q - es.length) with hz | hz
          · exact hz
          · rw [List.getElem?_eq_none (by simp; omega)] at hq'; cases hq'
        rw [hz] at hq'
        have : e' = en := by simpa using hq'.symm
        subst this
        have := of_decide_eq_true (hlast hl')
        omega
  have := key n 0 [] [] [] (by omega) rfl AllHas.nil (fun i e he => by simp at he)
  rwa [List.append_nil] at this
theorem ent_end {I C D : Addr} {oI oC : Obj} {ys : List Value} {tl new : List (Addr × Obj)} {v : Value} {last last' : Bool} {h' : Heap} {tk : Nat} (P : IsEnt last v new) (F : Fr h₀ L h' m) (N : News h₀ L h' ((I, oI) :: (C, oC) :: (D, lst ys) :: (news ++ tl) ++ new)) (off : Off3 I C D (news ++ tl)) (fr : ∀ q ∈ new, ∀ p ∈ (I, oI) :: (C, oC) :: (D, lst ys) :: (news ++ tl), p.1 < q.1) (hl : last = true → last' = true) :
    CompEnd h₀ L m s I oI C oC D (lst ys) (fun _ => True) (EntNext last' news tl) v { s with heap := h', toks := tk } := by
  obtain ⟨e, he, hle⟩ := P
  refine CompEnd.intro F N (news ++ (tl ++ new)) (fun z hz => ?_) (Off3.of fun z hz => ?_) trivial ⟨tl ++ new, e, rfl, fun p hp => List.mem_append_left _ hp, EntIn.mono _ _ v e (fun q hq => List.mem_append_right _ hq) he, fun q => hl (hle q)⟩
  · rw [← List.append_assoc] at hz
    exact hz
  · rw [← List.append_assoc] at hz
    rcases List.mem_append.mp hz with hz | hz
    · exact off.mem z hz
    · exact ⟨Nat.ne_of_gt (fr z hz _ (.head _)), Nat.ne_of_gt (fr z hz _ (.tail _ (.head _))), Nat.ne_of_gt (fr z hz _ (.tail _ (.tail _ (.head _))))⟩
end
end Mine
namespace Mine
theorem take_pos {ns : List Int} (h : decide (ns = []) = false) : 1 ≤ (List.take (12) ns).length := by
  have h' : ns ≠ [] := of_decide_eq_false h
  have : 0 < ns.length := List.length_pos_iff.mpr h'
  simp only [List.length_take]; omega
theorem take_le {ns : List Int} : (List.take (12) ns).length ≤ 12 := by simp only [List.length_take]; omega
theorem one_lt {a D : Addr} {o : Obj} (h : @LT.lt Nat _ a D) : ∀ p ∈ [(a, o)], p.1 < D := fun p hp => by rw [List.mem_singleton.mp hp]; exact h
theorem cnt_range {a n : Nat} (h : a ≤ n) : Builtin.Range.rangeSize (a : Int) (n : Int) 1 = ((n - a : Nat) : Int) := by
  unfold Builtin.Range.rangeSize
  rw [if_pos (by decide)]
  split
  · rw [Int.ediv_one]; omega
  · omega
theorem cnt_range0 {n : Nat} : Builtin.Range.rangeSize 0 (n : Int) 1 = ((n : Nat) : Int) := cnt_range (Nat.zero_le n)
theorem cnt_range1 {n : Nat} (h : 1 ≤ n) : Builtin.Range.rangeSize 1 (n : Int) 1 = ((n - 1 : Nat) : Int) := cnt_range h
theorem cnt_size {n : Nat} (h : n ≤ 12) : n ≤ sizeLine := by rw [sizeLine_eq]; omega
theorem cnt_small {a n : Nat} (h : n ≤ 12) (ha : a ≤ 1) : Builtin.Range.small (a : Int) (n : Int) 1 = true := small_one (by omega) (by omega) (by omega) (by omega)
theorem cnt_small0 {n : Nat} (h : n ≤ 12) : Builtin.Range.small 0 (n : Int) 1 = true := cnt_small (a := 0) h (by decide)
theorem cnt_small1 {n : Nat} (h : n ≤ 12) : Builtin.Range.small 1 (n : Int) 1 = true := cnt_small (a := 1) h (by decide)
end Mine
namespace Mine
section
variable {prog : Program} {w : World} {A : Around} {E : Value → Shared → Prop} {s : Shared} {h₀ : Heap} {L : Addr} {all tl : List (Addr × Obj)} {Q : Value → Shared → Prop}
/-- an entry's parts -/
structure EntAt (tl : List (Addr × Obj)) (e : Ent) (a b : Addr) (t : Tok) (n : Nat) (vs : List Value) (dv : Value) : Prop where
  ok : e.Ok
  tup : (a, tupOf #[.str ⟨e.txt.toArray⟩ t, .ref b, dv]) ∈ tl
  lst : (b, W.listOf vs.toArray n) ∈ tl
  vals : IntsAre vs e.parts
  due : DueIn tl dv e.due
theorem ent_item {value slice : PySem.Expr} {D : Addr} {ys : List Value} {es : List Ent} {k : Int} {u : Tok} (N : News h₀ L s.heap all) (hm : (D, LCg.lst ys) ∈ all) (hA : AllHas EntIn tl ys es) (h0 : 0 ≤ k) (h1 : k < (es.length : Int)) (h2 : es.length ≤ 12)
    (h : ∀ e a b t n vs dv, es[k.toNat]? = some e → EntAt tl e a b t n vs dv → Q (.ref a) s)
    (hs : subscripted slice false (.ref D) (.int k u) = operate [.ref D, .int k u] (getItem (.ref D) (.int k u)) := by with_unfolding_all rfl) :
    wpAny (model prog w) A (subscriptTail value slice (.ref D) (.int k u)) Q E s := by
  have hk : k.toNat < es.length := by omega
  have he : es[k.toNat]? = some es[k.toNat] := List.getElem?_eq_getElem hk
  obtain ⟨v, hv, ok, a, b, t, n, vs, dv, rfl, q1, q2, q3, q4⟩ := hA.2 k.toNat _ he
  have hL : s.heap.IsList D ys.toArray := ⟨_, (N _ hm).1, rfl, _, rfl⟩
  exact tail_any hL.typeIs slot_list_getitem.lookup (wpAny_getItem_list hL h0 (by omega) (by simpa using hv) (h _ a b t n vs dv he ⟨ok, q1, q2, q3, q4⟩)) hs
theorem tup_item0 {value slice : PySem.Expr} {a : Addr} {v₀ v₁ v₂ : Value} {u : Tok} (N : News h₀ L s.heap all) (hm : (a, tupOf #[v₀, v₁, v₂]) ∈ tl) (hsub : ∀ p ∈ tl, p ∈ all) (h : Q v₀ s)
    (hs : subscripted slice false (.ref a) (.int 0 u) = operate [.ref a, .int 0 u] (getItem (.ref a) (.int 0 u)) := by with_unfolding_all rfl) :
    wpAny (model prog w) A (subscriptTail value slice (.ref a) (.int 0 u)) Q E s :=
  have hT : s.heap.IsTuple a #[v₀, v₁, v₂] := ⟨_, (N _ (hsub _ hm)).1, rfl, _, rfl⟩
  tail_any hT.typeIs F.slot_tuple_getitem.lookup (getItem_tuple hT (by decide) (by decide) rfl (x := v₀) rfl h) hs
end
end Mine
end
section
open PySem PySem.W PyProof.Rows PySem.Spec PySem.Calls
namespace Mine
section
variable {prog : Program} {w : World} {A₀ : Around} {E : Value → Shared → Prop} {s' : Shared} {base g G : Heap} {L a e t : Addr} {m : Str → Option Value} {name : Str} {scope : Scope} {cd : Value}
  {vs : List Value} {n : Str} {b₀ : Stmt} {suite : List Stmt} {pos np : Pos} {rest : List ExceptHandler} {Q : Flow → Shared → Prop} {news : List (Addr × Obj)} {KF : Frag}
  {p : Program} {loose : List Str} {mean : ExcName → Option Value} {mg mb : Str → Option Value}
/-- a ValueError caught in the outermost frame, one that has cells -/
theorem caughtC (R : RaisedS base G [envOfC name scope L a cd] e (.type "ValueError") t vs news s'.heap) (F : Fr g L G m) (K : Below A₀ base [] g) (hsm : G.UpToSlots s'.heap) (XB : KF.In base) (TB : Top p loose mean mg mb base)
    (ex : nsIn KF mainGlobals "ValueError" = some none)
    (k : ∀ h' ot tk, Fr g L h' (fun y => if y = n then some (.ref e) else m y) → ∀ news₂, News g L h' news₂ → Got news₂ e t (.type "ValueError") vs → Caught vs ot → News g L h' ((t, ot) :: news) →
      wpAny (model prog w) ((A₀.deeper (envOfC name scope L a cd)).mark (some (.ref e))) (execs (b₀ :: suite) (envOfC name scope L a cd))
        (fun f s₄ => wpAny (model prog w) (A₀.deeper (envOfC name scope L a cd)) (do bindName (envOfC name scope L a cd) n .none; unbindBehindTheSuite (envOfC name scope L a cd) n pos) (fun _ s₅ => Q f s₅) E s₄)
        (AsSuiteRaised (model prog w) ((A₀.deeper (envOfC name scope L a cd)).mark (some (.ref e))) (envOfC name scope L a cd) n pos (notedBy (model prog w) ((A₀.deeper (envOfC name scope L a cd)).mark (some (.ref e))) (envOfC name scope L a cd) (cameBackBy (model prog w) (A₀.deeper (envOfC name scope L a cd)) (envOfC name scope L a cd) E)))
        { s' with heap := h', toks := tk })
    (hk : scope.kind = .function := by rfl) (hlo : (envOfC name scope L a cd).kindOf n = some .local := by rfl) (hx : (envOfC name scope L a cd).kindOf "ValueError" = some .globalImplicit := by rfl) :
    wpAny (model prog w) (A₀.deeper (envOfC name scope L a cd)) (noteFrame (.ref e) (envOfC name scope L a cd))
      (fun _ s₂ => wpAny (model prog w) (A₀.deeper (envOfC name scope L a cd)) (setFlight (.ref e) none) (fun _ s₃ =>
        wpAny (model prog w) (A₀.deeper (envOfC name scope L a cd)) (handleBy (.ref e) (envOfC name scope L a cd) (.ExceptHandler (some (.Name "ValueError" np)) (some n) (b₀ :: suite) pos :: rest)) Q E s₃) E s₂) E s' := by
  obtain ⟨⟨B, _, hBG, hl, hfl, hnew⟩, htup⟩ := R
  have frame (h₅ : Heap) (st : B.StaysIn h₅) (sm : G.UpToSlots h₅) : Fr g L h₅ m := by
    obtain ⟨g', T, F', _⟩ := kts_ground (name := name) (scope := scope) (a := a) (cd := cd) (outer := []) K F hBG st sm
    exact unturnF T F'
  have grow (b : Addr) (hb : B.get? b = none) : g.get? b = none :=
    kts_fresh (name := name) (scope := scope) (a := a) (cd := cd) (outer := []) F hBG hb fun _ _ hm => nomatch hm
  have hL : B.get? L = none := by
    obtain ⟨_, ⟨L', _, hf, hn', _⟩, _⟩ := hfl.2.2.1
    cases hf
    exact hn'
  refine wpAny_looks_onW (L := L) (Around.frames_deeper K.stack) rfl hfl fun h₄ held₄ sm₄ => wpAny_landsW held₄ fun h₅ fl₅ sm₅ => ?_
  have F₅ := frame h₅ fl₅.1 (hsm.trans (sm₄.trans sm₅))
  obtain ⟨ob, hob, hobc⟩ := fl₅.there
  have Xg : KF.In g := XB.keeps K.stays
  refine wpAny_handleBy_builtin_as (X := "ValueError") (T := "ValueError") (b := true) PySem.F.isExc_ValueError PySem.F.notTuple_ValueError (by kts_sub) (nameX_B (cn := name) (cs := scope) (a := a) (ccd := cd) F₅ Xg (topRead_of (TB.keeps K.stays)) ex PyProof.Rows.Boot.«ValueError» (by decide) ⟨rfl, ⟨ob, hob, hobc⟩, ?_⟩ hk hx (by decide))
  refine lands_againW fl₅ fun h₆ fl₆ sm₆ => ?_
  have up := (sm₄.trans sm₅)
  have F₆ := frame h₆ fl₆.1 (hsm.trans (up.trans sm₆))
  obtain ⟨oe, ws, e1, e2, e3, e4⟩ := fl₆.first
  obtain ⟨ot, nt, t1, t2, t3⟩ := (htup.of_slots up).of_slots sm₆
  have Ne := News.more F₆ (News.more F₆ News.nil t1 (fun es n q => by rw [t3] at q; cases q) (grow t hnew)) e1 (fun es n q => by rw [e3] at q; cases q) (grow e fl₆.2.1)
  have Nl : News g L h₆ news := fun q hq => ⟨fl₆.1 _ _ (hl q hq).1, (fun z => by have := (hl q hq).1; rw [z, hL] at this; cases this), kts_none F.keep (hl q hq).2.1⟩
  refine storeX_L (cn := name) (cs := scope) (a := a) (ccd := cd) (news := _ ++ news) F₆ (fun q hq => (List.mem_append.mp hq).elim (Ne q) (Nl q)) (fun h₇ F₇ N₇ => ?_) hk hlo
  refine k h₇ ot _ F₇ _ (fun q hq => N₇ q (List.mem_append_left _ hq)) ⟨oe, ot, ws, nt, .head _, .tail _ (.head _), e2, e3, e4, t2, t3⟩ ⟨t2, nt, t3⟩ fun q hq => ?_
  rcases List.mem_cons.mp hq with rfl | hq
  · exact N₇ _ (List.mem_append_left _ (.tail _ (.head _)))
  · exact N₇ q (List.mem_append_right _ hq)
end
theorem name_goesC {M : Model} {A : Around} {E : Value → Shared → Prop} {s : Shared} {name : Str} {scope : Scope} {L a : Addr} {cd : Value} {h₀ : Heap} {m : Str → Option Value} {news : List (Addr × Obj)} {n : Str} {pos : Pos} {Q : Unit → Shared → Prop} (F : Fr h₀ L s.heap m) (N : News h₀ L s.heap news)
    (h : ∀ h' v, Fr h₀ L h' (fun x => if x = n then v else m x) → News h₀ L h' news → Q () { s with heap := h', toks := s.toks + 1 })
    (hk : scope.kind = .function := by rfl) (hl : (envOfC name scope L a cd).kindOf n = some .local := by rfl) :
    wpAny M A (do bindName (envOfC name scope L a cd) n .none; unbindBehindTheSuite (envOfC name scope L a cd) n pos) Q E s :=
  wpAny_nameGoes_keeps hl F.ns (by show (scope.kind == .class || (scope.kind == .module && L != mainGlobals)) = false; rw [hk]; rfl) fun h' v hn hs => h h' v (F.set hn hs) (N.set hs)
end Mine
end
section
open PySem PySem.W PyProof.Rows PySem.Spec PySem.Calls PyProof.Rows.LCg
namespace Mine
/-- the text as it has grown -/
def GrowP (es : List Ent) (i : Nat) (T : PySem.Str) : Prop := ∃ cs : List Nat, cs.length = i ∧ (∀ c ∈ cs, Mark c) ∧ T = ⟨(glue es cs).toArray⟩
theorem grow0 {es : List Ent} {e : Ent} (h : es[(0 : Int).toNat]? = some e) : GrowP es 0 ⟨e.txt.toArray⟩ := by
  match es, h with
  | e₀ :: es, h =>
    have : e₀ = e := by simpa using h
    subst this
    exact ⟨[], rfl, (by simp), rfl⟩
theorem growS {es : List Ent} {i : Nat} {e : Ent} {T x : PySem.Str} (h : GrowP es i T) (he : es[((1 : Int) + (i : Int)).toNat]? = some e) (hx : IsMark x) : GrowP es (i + 1) (T ++ (x ++ ⟨e.txt.toArray⟩)) := by
  obtain ⟨cs, hl, hm, rfl⟩ := h
  obtain ⟨c, rfl, hc⟩ := hx
  refine ⟨cs ++ [c], by simp [hl], fun d hd => ?_, ?_⟩
  · rcases List.mem_append.mp hd with hd | hd
    · exact hm d hd
    · rw [List.mem_singleton.mp hd]; exact hc
  · have e1 : ((1 : Int) + (i : Int)).toNat = cs.length + 1 := by omega
    rw [e1] at he
    rw [glue_more cs es c e he]
    refine Str.ext' (Array.toList_inj.mp ?_)
    simp only [Str.cps_append, Array.toList_append]
    simp
/-- what is left at a turn -/
def EatP (es : List Ent) (cs : List Nat) (i : Nat) (T : PySem.Str) : Prop := T = ⟨(leftAt es cs i).toArray⟩
theorem eat0 {es : List Ent} {cs : List Nat} : EatP es cs 0 ⟨(glue es cs).toArray⟩ := rfl
theorem eat_turn {tl : List (Addr × Obj)} {ys : List Value} {es : List Ent} {cs : List Nat} {n i : Nat} {v : Value} {T : PySem.Str} (hA : AllHas EntIn tl ys es) (hL : LastOnly n es) (hn : es.length = n) (h12 : n ≤ 12) (h1 : 1 ≤ n) (hc : cs.length = n - 1) (hm : ∀ c ∈ cs, Mark c) (hv : ys[i]? = some v) (hP : EatP es cs i T) :
    ∃ e a b t k vs dv tail rest, v = .ref a ∧ T = ⟨(e.txt ++ tail).toArray⟩ ∧ TailOk tail rest ∧ (e.last = true → tail = []) ∧ tail.length ≤ 900 ∧ EntAt tl e a b t k vs dv ∧ EatP es cs (i + 1) ⟨rest.toArray⟩ := by
  have hlt : i < es.length := by
    have := (List.getElem?_eq_some_iff.mp hv).1
    have := hA.1
    omega
  have he : es[i]? = some es[i] := List.getElem?_eq_getElem hlt
  obtain ⟨v', hv', ok, a, b, t, k, vs, dv, e1, q1, q2, q3, q4⟩ := hA.2 i _ he
  obtain rfl : v' = v := Option.some.inj (hv'.symm.trans hv)
  obtain ⟨tail, h1', h2', h3'⟩ := left_turn (i := i) (e := es[i]) (by omega : es.length = cs.length + 1) hm he
  refine ⟨es[i], a, b, t, k, vs, dv, tail, leftAt es cs (i + 1), e1, ?_, h2', fun q => h3' (by have := hL i _ he q; omega), ?_, ⟨ok, q1, q2, q3, q4⟩, rfl⟩
  · unfold EatP at hP; rw [hP, h1']
  · have := left_len es cs i (by omega)
    rw [h1', List.length_append] at this; omega
theorem news_front {h₀ h : Heap} {L : Addr} {all : List (Addr × Obj)} {p : Addr × Obj} (N : News h₀ L h all) (m : p ∈ all) : News h₀ L h (p :: all) := fun q hq => (List.mem_cons.mp hq).elim (fun e => e ▸ N p m) (N q)
theorem mark_len {x : PySem.Str} (h : IsMark x) : x.length = 1 := by obtain ⟨c, rfl, _⟩ := h; rfl
theorem mark_size {x : PySem.Str} {e : Ent} (h : IsMark x) : x.length + (⟨e.txt.toArray⟩ : PySem.Str).length ≤ sizeLine := by
  rw [mark_len h, str_len, sizeLine_eq]; have := txt_len e; omega
theorem grow_size {es : List Ent} {i : Nat} {T x : PySem.Str} {e : Ent} (hP : GrowP es i T) (hn : es.length ≤ 12) (h : IsMark x) : T.length + (x ++ ⟨e.txt.toArray⟩ : PySem.Str).length ≤ sizeLine := by
  obtain ⟨cs, _, _, rfl⟩ := hP
  have e1 : (x ++ ⟨e.txt.toArray⟩ : PySem.Str).length = x.length + (⟨e.txt.toArray⟩ : PySem.Str).length := Array.size_append
  rw [e1, mark_len h, str_len, str_len, sizeLine_eq]
  have := txt_len e; have := glue_len es cs; omega
theorem news_pull {h₀ h : Heap} {L : Addr} {all tl : List (Addr × Obj)} {p : Addr × Obj} (N : News h₀ L h all) (m : p ∈ tl) (hs : ∀ q ∈ tl, q ∈ all) : News h₀ L h (p :: all) := news_front N (hs p m)
end Mine
end
section
open PySem PySem.W PyProof.Rows PySem.Spec PySem.Calls PySem.SeqAt
namespace Mine
/-- the tuple of what is due, in an opaque ledger -/
def DueAt (tl : List (Addr × Obj)) (a : Addr) (o : Obj) : Prop := (a, o) ∈ tl
theorem bc_none {y m d : Int} (h : badC y m d = none) : 1 ≤ y ∧ y ≤ 9999 ∧ 1 ≤ m ∧ m ≤ 12 ∧ 1 ≤ d ∧ d ≤ dimI y m := by
  unfold badC at h
  by_cases h1 : 1 ≤ y ∧ y ≤ 9999
  · rw [if_neg (not_not_intro h1)] at h
    by_cases h2 : 1 ≤ m ∧ m ≤ 12
    · rw [if_neg (not_not_intro h2)] at h
      by_cases h3 : 1 ≤ d ∧ d ≤ dimI y m
      · exact ⟨h1.1, h1.2, h2.1, h2.2, h3.1, h3.2⟩
      · rw [if_pos h3] at h; cases h
    · rw [if_pos h2] at h; cases h
  · rw [if_pos h1] at h; cases h
section
variable {tl : List (Addr × Obj)} {e : Ent} {a b : Addr} {t : Tok} {n : Nat} {vs : List Value} {dv : Value} (H : EntAt tl e a b t n vs dv)
include H
theorem due_bad {msg : PySem.Str} (hm : e.bad = some msg) : ∃ a7 k7, dv = .ref a7 ∧ DueAt tl a7 (tupOf #[.str msg k7]) := by
  have h := H.due
  rw [Ent.bad_due H.ok hm] at h
  exact h
theorem due_two {y m d : Int} {p : PySem.Str × Int} (hd : e.due = dueOf y m d) (hp : badC y m d = some p) : ∃ a7 k7 k8, dv = .ref a7 ∧ DueAt tl a7 (tupOf #[.str p.1 k7, .int p.2 k8]) := by
  have h := H.due
  rw [hd] at h
  unfold dueOf at h
  rw [hp] at h
  exact h
theorem due_num {y m d : Int} (hd : e.due = dueOf y m d) (hp : badC y m d = none) : ∃ t7, dv = .int (dbyI y + dbmI y m + d) t7 := by
  have h := H.due
  rw [hd] at h
  unfold dueOf at h
  rw [hp] at h
  exact h
end
theorem ent_small (e : Ent) : (⟨e.txt.toArray⟩ : PySem.Str).length ≤ 1000 := by rw [str_len]; have := txt_len e; omega
theorem ent_small2 {e : Ent} {tail : List Nat} (h : tail.length ≤ 900) : (⟨(e.txt ++ tail).toArray⟩ : PySem.Str).length ≤ 1000 := by rw [len_of]; have := txt_len e; omega
theorem eat_cut {es : List Ent} {cs : List Nat} {i : Nat} {e : Ent} {tail rest : List Nat} (ht : TailOk tail rest) (hP : EatP es cs i ⟨rest.toArray⟩) : EatP es cs i (PySem.Txt.slice ⟨(e.txt ++ tail).toArray⟩ (some ((((⟨e.txt.toArray⟩ : PySem.Str).length : Nat) : Int) + 1)) none) := by
  rw [cut_tail e.txt tail rest (by rw [str_len]) ht]; exact hP
section
variable {prog : Program} {w : World} {A : Around} {E : Value → Shared → Prop} {s : Shared} {h₀ : Heap} {L : Addr} {news tl : List (Addr × Obj)} {Q : Value → Shared → Prop}
theorem parts_ne {e : Ent} {a b c : Addr} {t : Tok} {n k : Nat} {vs : List Value} {dv : Value} (H : EntAt tl e a b t n vs dv) (N : News h₀ L s.heap news) (hs : ∀ p ∈ tl, p ∈ news) (hb : (c, W.listOf #[] k) ∈ news) (hu : A.units < cLine)
    (h0 : e.parts = [] → Q (.bool false) s) (h1 : e.parts ≠ [] → Q (.bool true) s) : wpAny (model prog w) A (compareOp .NotEq (.ref b) (.ref c)) Q E s := by
  refine cmp_ofNotEq ?_
  have hl : s.heap.IsList b vs.toArray := ⟨_, (N _ (hs _ H.lst)).1, rfl, _, rfl⟩
  have hc : s.heap.IsList c #[] := ⟨_, (N _ hb).1, rfl, _, rfl⟩
  have hlen := H.vals.length
  by_cases hp : e.parts = []
  · have : vs = [] := List.eq_nil_of_length_eq_zero (by rw [hlen, hp]; rfl)
    subst this
    exact RcNeAt.lists (e := fun _ => true) hl hc rfl hu (fun j h1 _ => absurd h1 (Nat.not_lt_zero _)) prog w E Q (h0 hp)
  · refine RcNeAt.lists_lengths hl hc ?_ hu prog w E Q (h1 hp)
    have : vs.length ≠ 0 := fun q => hp (List.eq_nil_of_length_eq_zero (by rw [← hlen, q]))
    simpa using this
theorem day_same {e : Ent} {a b c : Addr} {t ty tm td : Tok} {n k : Nat} {vs : List Value} {dv : Value} {y m d : Int} (H : EntAt tl e a b t n vs dv) (N : News h₀ L s.heap news) (hs : ∀ p ∈ tl, p ∈ news) (hb : (c, W.listOf #[.int y ty, .int m tm, .int d td] k) ∈ news) (hu : A.units < cLine)
    (hp : e.parts = [] ∨ e.parts = [y, m, d]) (hne : e.parts ≠ []) (h : Q (.bool false) s) : wpAny (model prog w) A (compareOp .NotEq (.ref c) (.ref b)) Q E s := by
  refine cmp_ofNotEq ?_
  have hv := H.vals
  rw [hp.resolve_left hne] at hv
  have hl : s.heap.IsList b vs.toArray := ⟨_, (N _ (hs _ H.lst)).1, rfl, _, rfl⟩
  have hc : s.heap.IsList c #[.int y ty, .int m tm, .int d td] := ⟨_, (N _ hb).1, rfl, _, rfl⟩
  cases hv with
  | cons y' t1 r1 =>
    cases r1 with
    | cons m' t2 r2 =>
      cases r2 with
      | cons d' t3 r3 =>
        cases r3
        refine RcNeAt.lists (e := fun _ => true) hc hl rfl hu (fun j h1 h2 => ?_) prog w E Q h
        have : j = 0 ∨ j = 1 ∨ j = 2 := by simp at h1; omega
        rcases this with rfl | rfl | rfl
        · have := EqAt.int_int (A := A.in1) (s := s) y ty y t1; simpa using this
        · have := EqAt.int_int (A := A.in1) (s := s) m tm m t2; simpa using this
        · have := EqAt.int_int (A := A.in1) (s := s) d td d t3; simpa using this
theorem tup1_ne {t a : Addr} {msg : PySem.Str} {k k7 : Tok} {dd : Option Addr} {sl : Array (Option Value)} {n : Nat} (N : News h₀ L s.heap news) (ha : (t, ({ cls := .type "tuple", dict := dd, data := .seq #[.str msg k] n, slots := sl } : Obj)) ∈ news) (hb : (a, tupOf #[.str msg k7]) ∈ news) (hu : A.units < cLine)
    (h : Q (.bool false) s) : wpAny (model prog w) A (compareOp .NotEq (.ref t) (.ref a)) Q E s := by
  refine cmp_ofNotEq ?_
  have hl : s.heap.IsTuple t #[.str msg k] := ⟨_, (N _ ha).1, rfl, _, rfl⟩
  have hc : s.heap.IsTuple a #[.str msg k7] := ⟨_, (N _ hb).1, rfl, _, rfl⟩
  refine RcNeAt.tuples (e := fun _ => true) hl hc hu (fun j h1 h2 => ?_) prog w E Q h
  have : j = 0 := by simp at h1; omega
  subst this
  have := EqAt.str_str (A := A.in1) (s := s) msg k msg k7; simpa using this
theorem tup2_ne {t a : Addr} {msg : PySem.Str} {z : Int} {k k2 k7 k8 : Tok} {dd : Option Addr} {sl : Array (Option Value)} {n : Nat} (N : News h₀ L s.heap news) (ha : (t, ({ cls := .type "tuple", dict := dd, data := .seq #[.str msg k, .int z k2] n, slots := sl } : Obj)) ∈ news) (hb : (a, tupOf #[.str msg k7, .int z k8]) ∈ news) (hu : A.units < cLine)
    (h : Q (.bool false) s) : wpAny (model prog w) A (compareOp .NotEq (.ref t) (.ref a)) Q E s := by
  refine cmp_ofNotEq ?_
  have hl : s.heap.IsTuple t #[.str msg k, .int z k2] := ⟨_, (N _ ha).1, rfl, _, rfl⟩
  have hc : s.heap.IsTuple a #[.str msg k7, .int z k8] := ⟨_, (N _ hb).1, rfl, _, rfl⟩
  refine RcNeAt.tuples (e := fun _ => true) hl hc hu (fun j h1 h2 => ?_) prog w E Q h
  have : j = 0 ∨ j = 1 := by simp at h1; omega
  rcases this with rfl | rfl
  · have := EqAt.str_str (A := A.in1) (s := s) msg k msg k7; simpa using this
  · have := EqAt.int_int (A := A.in1) (s := s) z k2 z k8; simpa using this
end
end Mine
end
section
open PySem PySem.W PyProof.Rows PySem.Builtin PySem.TypeEq
namespace Mine
theorem slot_type_ne : Slot "type" (cmpInfo .NotEq).2.1 "object.__ne__" :=
  .of (owner := "object") (n := "__ne__") (by rw [typeLookup_type, builtinLookup_eq_fast]; kernel_rfl) (by decide +kernel) (by decide +kernel) (by decide +kernel)
    (by first | exact .inl (by decide +kernel) | exact .inr (by decide +kernel)) (by rw [isSubtype_type]; kernel_rfl)
theorem slot_type_eq' : Slot "type" "__eq__" "object.__eq__" := slot_type_eq
theorem ne_types {X : String} (hX : ∀ s' : Shared, s'.TypeIs (.type X) "type") : Meets (Builtin.«object.__ne__» ⟨[.type X, .type X], []⟩) (fun _ R s => R (.ok (.ret (.bool false))) s) :=
  .of_wp fun prog w A R s h => by
    obtain ⟨hp, g, d, tk, os⟩ := s
    unfold Builtin.«object.__ne__»
    repeat (first
      | with_reducible refine wpAny_cRoomFor_byValue rfl ?_
      | (refine wpAny_bind (m := callSpecialIfBound? (.type X) (Str.ofString "__eq__") [.type X])
          (wpAny_callSpecialIfBound?_slot (hX _) slot_type_eq' (call_gives slot_type_eq' (hX _) F.entry_object_eq (F.args_object_eq_2 _ _) (object_eq_same rfl (by simp)) ?_)))
      | wp_step)
    show wpAny (model prog w) A.in1 (do let b ← truthy (.bool true); ret (Value.bool !b)) _ _ _
    refine wpAny_bind (m := truthy (.bool _)) (wpAny_truthy_bool ?_)
    exact wpAny_pure (a := Fin.done (Flow.ret (Value.bool false))) ⟨_, rfl, h⟩
theorem type_ne {prog : Program} {w : World} {A : Around} {E : Value → Shared → Prop} {s : Shared} {Q : Value → Shared → Prop} {X : String} (hX : ∀ s' : Shared, s'.TypeIs (.type X) "type") (h : Q (.bool false) s) : wpAny (model prog w) A (compareOp .NotEq (.type X) (.type X)) Q E s := by
  show wpAny _ A (richCompare .NotEq _ _) Q E s
  exact richCompare_meets (hX s) (hX s) slot_type_ne F.cmpEntry_ne (F.cmpArgs_ne _ _) (ne_types hX) ⟨(fun q => nomatch q), h⟩
section
variable {prog : Program} {w : World} {A : Around} {E : Value → Shared → Prop} {s : Shared} {Q : Value → Shared → Prop}
theorem m_int : ∀ s' : Shared, s'.TypeIs (.type "int") "type" := fun s' => PySem.TypeEq.meta_int s'
theorem m_tuple : ∀ s' : Shared, s'.TypeIs (.type "tuple") "type" := fun s' => PySem.TypeEq.meta_tuple s'
theorem type_ne_int (h : Q (.bool false) s) : wpAny (model prog w) A (compareOp .NotEq (.type "int") (.type "int")) Q E s := type_ne (X := "int") m_int h
theorem type_ne_tuple (h : Q (.bool false) s) : wpAny (model prog w) A (compareOp .NotEq (.type "tuple") (.type "tuple")) Q E s := type_ne (X := "tuple") m_tuple h
end
end Mine
end
section
namespace Mine
noncomputable abbrev lo : List Str := looseW Mine.viewK [Str.ofString "_DAYS_IN_MONTH", Str.ofString "_DAYS_BEFORE_MONTH", Str.ofString "_DI400Y", Str.ofString "_DI100Y", Str.ofString "_DI4Y"]
noncomputable abbrev C (w : World) (mean : ExcName → Option Value) (mg mb : Str → Option Value) (f : Addr) (d u : Nat) (vs : List Value) (C : Cont) : Prop := Ctr Challenge.rw_km0087_03.row.prog w (Mine.heapK w.params) Mine.viewK lo mean mg mb f d u vs C
end Mine
namespace Mine
set_option maxHeartbeats 16000000 in
theorem c_leap (w : World) (mean : ExcName → Option Value) (mg mb : Str → Option Value) (y : Int) (t : Tok) : C w mean mg mb 46 2 8 [.int y t] (cBool (leapB y)) := by
  w_top off
  k_with_none
  unfold C Ctr; k_fill
  intro dp un gd cn cs a ccd cl outer A₀ base h₀ L m news s Q E B F X N T hk hd hu hret
  have D0 : KtsDicts [] h₀ := ktsDicts_nil
  refine wpAny_call ?_
  k_dflt cell_enter
  k_steps
  all_goals (refine' endB (Q := Q) (s := s) hret ?e ?F ?N ?S; (case F => k_asm); (case N => k_asm); (case S => kcj_all); (case e => (simp only [leapB]; simp only [fm] at *; simp_all)))
set_option maxHeartbeats 16000000 in
theorem c_dby (w : World) (mean : ExcName → Option Value) (mg mb : Str → Option Value) (y : Int) (t : Tok) : C w mean mg mb 53 2 8 [.int y t] (cInt (dbyI y)) := by
  w_top off
  k_with_none
  unfold C Ctr; k_fill
  intro dp un gd cn cs a ccd cl outer A₀ base h₀ L m news s Q E B F X N T hk hd hu hret
  have D0 : KtsDicts [] h₀ := ktsDicts_nil
  refine wpAny_call ?_
  k_dflt cell_enter
  k_steps
  all_goals (refine' endI (Q := Q) (s := s) hret ?e ?F ?N ?S; (case F => k_asm); (case N => k_asm); (case S => kcj_all); (case e => (simp only [dbyI]; simp only [fm] at *)))
set_option maxHeartbeats 16000000 in
theorem c_dim (w : World) (mean : ExcName → Option Value) (mg mb : Str → Option Value) (y m9 : Int) (t t2 : Tok) (h1 : 1 ≤ m9) (h2 : m9 ≤ 12) : C w mean mg mb 60 4 16 [.int y t, .int m9 t2] (cInt (dimI y m9)) := by
  w_top off
  k_with_none
  (k_with "call ref" => (k_dflt ( (refine' use ?wq7c ?wq7k1 ?wq7k2 ?wq7k3 ?wq7k4 ?wq7k5 ?wq7k6 ?wq7k7 ?wq7k8 ?_); (case wq7k2 => k_asm); (case wq7k1 => k_asm); (case wq7k3 => k_asm); (case wq7k4 => k_asm); (case wq7k5 => k_asm); (case wq7c => first  | exact c_leap _ _ _ _ _ _); (case wq7k6 => first | exact rfl | assumption); (case wq7k7 => ktr_room); (case wq7k8 => ktr_units); (intro t9 h9 tk9 F9 N9; (try dsimp only); (try k_fold)))))
  (k_with "subscriptTail" => (k_here; k_dflt ( (refine' top_item ?wq7F ?wq7X ?wq7l ?wq7hi ?wq7h0 ?wq7h1 ?wq7h2 ?_); (case wq7F => k_asm); (case wq7X => k_asm); (case wq7l => k_is); (case wq7hi => exact ints13); (case wq7h0 => first | omega | (rw [sh5]; omega)); (case wq7h1 => (simp only [List.length_cons, List.length_nil]; first | omega | (rw [sh5]; omega))); (case wq7h2 => decide); k_whole; intro t9)))
  unfold C Ctr; k_fill
  intro dp un gd cn cs a ccd cl outer A₀ base h₀ L m news s Q E B F X N T hk hd hu hret
  have D0 : KtsDicts [] h₀ := ktsDicts_nil
  refine wpAny_call ?_
  k_dflt cell_enter
  k_steps
  all_goals (refine' endI (Q := Q) (s := s) hret ?e ?F ?N ?S; (case F => k_asm); (case N => k_asm); (case S => kcj_all); (case e => (simp only [dimI]; simp_all)))
set_option maxHeartbeats 16000000 in
theorem c_dbm (w : World) (mean : ExcName → Option Value) (mg mb : Str → Option Value) (y m9 : Int) (t t2 : Tok) (h1 : 1 ≤ m9) (h2 : m9 ≤ 12) : C w mean mg mb 67 4 16 [.int y t, .int m9 t2] (cInt (dbmI y m9)) := by
  w_top off
  k_with_none
  (k_with "call ref" => (k_dflt ( (refine' use ?wq7c ?wq7k1 ?wq7k2 ?wq7k3 ?wq7k4 ?wq7k5 ?wq7k6 ?wq7k7 ?wq7k8 ?_); (case wq7k2 => k_asm); (case wq7k1 => k_asm); (case wq7k3 => k_asm); (case wq7k4 => k_asm); (case wq7k5 => k_asm); (case wq7c => first  | exact c_leap _ _ _ _ _ _); (case wq7k6 => first | exact rfl | assumption); (case wq7k7 => ktr_room); (case wq7k8 => ktr_units); (intro t9 h9 tk9 F9 N9; (try dsimp only); (try k_fold)))))
  (k_with "subscriptTail" => (k_here; k_dflt ( (refine' top_item ?wq7F ?wq7X ?wq7l ?wq7hi ?wq7h0 ?wq7h1 ?wq7h2 ?_); (case wq7F => k_asm); (case wq7X => k_asm); (case wq7l => k_is); (case wq7hi => exact ints13); (case wq7h0 => first | omega | (rw [sh5]; omega)); (case wq7h1 => (simp only [List.length_cons, List.length_nil]; first | omega | (rw [sh5]; omega))); (case wq7h2 => decide); k_whole; intro t9)))
  unfold C Ctr; k_fill
  intro dp un gd cn cs a ccd cl outer A₀ base h₀ L m news s Q E B F X N T hk hd hu hret
  have D0 : KtsDicts [] h₀ := ktsDicts_nil
  refine wpAny_call ?_
  k_dflt cell_enter
  k_steps
  all_goals (refine' endI (Q := Q) (s := s) hret ?e ?F ?N ?S; (case F => k_asm); (case N => k_asm); (case S => kcj_all); (case e => (simp only [dbmI]; first | (simp_all; done) | (simp_all; (repeat' split) <;> omega))))
set_option maxHeartbeats 16000000 in
theorem c_ymd (w : World) (mean : ExcName → Option Value) (mg mb : Str → Option Value) (y m9 d9 : Int) (t t2 t3 : Tok) (h1 : 1 ≤ m9) (h2 : m9 ≤ 12) (h3 : 1 ≤ d9) (h4 : d9 ≤ dimI y m9) : C w mean mg mb 74 8 32 [.int y t, .int m9 t2, .int d9 t3] (cInt (dbyI y + dbmI y m9 + d9)) := by
  w_top off
  k_with_none
  (k_with "call ref" => (k_dflt ( (refine' use ?wq7c ?wq7k1 ?wq7k2 ?wq7k3 ?wq7k4 ?wq7k5 ?wq7k6 ?wq7k7 ?wq7k8 ?_); (case wq7k2 => k_asm); (case wq7k1 => k_asm); (case wq7k3 => k_asm); (case wq7k4 => k_asm); (case wq7k5 => k_asm); (case wq7c => first  | exact c_leap _ _ _ _ _ _); (case wq7k6 => first | exact rfl | assumption); (case wq7k7 => ktr_room); (case wq7k8 => ktr_units); (intro t9 h9 tk9 F9 N9; (try dsimp only); (try k_fold)))))
  (k_with "subscriptTail" => (k_here; k_dflt ( (refine' top_item ?wq7F ?wq7X ?wq7l ?wq7hi ?wq7h0 ?wq7h1 ?wq7h2 ?_); (case wq7F => k_asm); (case wq7X => k_asm); (case wq7l => k_is); (case wq7hi => exact ints13); (case wq7h0 => first | omega | (rw [sh5]; omega)); (case wq7h1 => (simp only [List.length_cons, List.length_nil]; first | omega | (rw [sh5]; omega))); (case wq7h2 => decide); k_whole; intro t9)))
  (k_with "call ref" => (k_dflt ( (refine' use ?wq7c ?wq7k1 ?wq7k2 ?wq7k3 ?wq7k4 ?wq7k5 ?wq7k6 ?wq7k7 ?wq7k8 ?_); (case wq7k2 => k_asm); (case wq7k1 => k_asm); (case wq7k3 => k_asm); (case wq7k4 => k_asm); (case wq7k5 => k_asm); (case wq7c => first  | exact c_dby _ _ _ _ _ _ | exact c_dim _ _ _ _ _ _ _ _ (by omega) (by omega) | exact c_dbm _ _ _ _ _ _ _ _ (by omega) (by omega)); (case wq7k6 => first | exact rfl | assumption); (case wq7k7 => ktr_room); (case wq7k8 => ktr_units); (intro t9 h9 tk9 F9 N9; (try dsimp only); (try k_fold)))))
  unfold C Ctr; k_fill
  intro dp un gd cn cs a ccd cl outer A₀ base h₀ L m news s Q E B F X N T hk hd hu hret
  have D0 : KtsDicts [] h₀ := ktsDicts_nil
  refine wpAny_call ?_
  k_dflt cell_enter
  k_steps
  all_goals (refine' endI (Q := Q) (s := s) hret ?e ?F ?N ?S; (case F => k_asm); (case N => k_asm); (case S => kcj_all); (case e => (rfl)))
set_option maxHeartbeats 16000000 in
theorem c_mon1 (w : World) (mean : ExcName → Option Value) (mg mb : Str → Option Value) (y : Int) (t : Tok) : C w mean mg mb 126 12 48 [.int y t] (cInt (monI y)) := by
  w_top off
  k_with_none
  (k_with "call ref" => (k_dflt ( (refine' use ?wq7c ?wq7k1 ?wq7k2 ?wq7k3 ?wq7k4 ?wq7k5 ?wq7k6 ?wq7k7 ?wq7k8 ?_); (case wq7k2 => k_asm); (case wq7k1 => k_asm); (case wq7k3 => k_asm); (case wq7k4 => k_asm); (case wq7k5 => k_asm); (case wq7c => first  | exact c_leap _ _ _ _ _ _); (case wq7k6 => first | exact rfl | assumption); (case wq7k7 => ktr_room); (case wq7k8 => ktr_units); (intro t9 h9 tk9 F9 N9; (try dsimp only); (try k_fold)))))
  (k_with "subscriptTail" => (k_here; k_dflt ( (refine' top_item ?wq7F ?wq7X ?wq7l ?wq7hi ?wq7h0 ?wq7h1 ?wq7h2 ?_); (case wq7F => k_asm); (case wq7X => k_asm); (case wq7l => k_is); (case wq7hi => exact ints13); (case wq7h0 => first | omega | (rw [sh5]; omega)); (case wq7h1 => (simp only [List.length_cons, List.length_nil]; first | omega | (rw [sh5]; omega))); (case wq7h2 => decide); k_whole; intro t9)))
  (k_with "call ref" => (k_dflt ( (refine' use ?wq7c ?wq7k1 ?wq7k2 ?wq7k3 ?wq7k4 ?wq7k5 ?wq7k6 ?wq7k7 ?wq7k8 ?_); (case wq7k2 => k_asm); (case wq7k1 => k_asm); (case wq7k3 => k_asm); (case wq7k4 => k_asm); (case wq7k5 => k_asm); (case wq7c => first  | exact c_dby _ _ _ _ _ _ | exact c_dim _ _ _ _ _ _ _ _ (by omega) (by omega) | exact c_dbm _ _ _ _ _ _ _ _ (by omega) (by omega)); (case wq7k6 => first | exact rfl | assumption); (case wq7k7 => ktr_room); (case wq7k8 => ktr_units); (intro t9 h9 tk9 F9 N9; (try dsimp only); (try k_fold)))))
  (k_with "call ref" => (k_dflt ( (refine' use ?wq7c ?wq7k1 ?wq7k2 ?wq7k3 ?wq7k4 ?wq7k5 ?wq7k6 ?wq7k7 ?wq7k8 ?_); (case wq7k2 => k_asm); (case wq7k1 => k_asm); (case wq7k3 => k_asm); (case wq7k4 => k_asm); (case wq7k5 => k_asm); (case wq7c => first  | exact c_ymd _ _ _ _ _ _ _ _ _ _ (by omega) (by omega) (by omega) (by first | omega | (rw [dim1]; decide))); (case wq7k6 => first | exact rfl | assumption); (case wq7k7 => ktr_room); (case wq7k8 => ktr_units); (intro t9 h9 tk9 F9 N9; (try dsimp only); (try k_fold)))))
  unfold C Ctr; k_fill
  intro dp un gd cn cs a ccd cl outer A₀ base h₀ L m news s Q E B F X N T hk hd hu hret
  have D0 : KtsDicts [] h₀ := ktsDicts_nil
  refine wpAny_call ?_
  k_dflt cell_enter
  k_steps
  all_goals (refine' endI (Q := Q) (s := s) hret ?e ?F ?N ?S; (case F => k_asm); (case N => k_asm); (case S => kcj_all); (case e => (simp only [monI]; simp only [dbm1, fm] at *; (repeat' split) <;> omega)))
end Mine
end
section
namespace Mine
set_option maxHeartbeats 16000000 in
theorem c_ord (w : World) (mean : ExcName → Option Value) (mg mb : Str → Option Value) (n : Int) (t : Tok) : C w mean mg mb 84 8 32 [.int n t] (cNew (IsYmd n)) := by
  w_top off
  k_with_none
  (k_with "eval Call" => (k_here; (with_reducible show wpAny _ _ (eval (PySem.Expr.Call (PySem.Expr.Name _ _) _ [] _) _) _ _ _); refine Call_ ?_))
  (k_with "eval BoolOp" => (k_here; (with_reducible show wpAny _ _ (eval (PySem.Expr.BoolOp _ [PySem.Expr.Compare (PySem.Expr.Name (PySem.Str.ofString "n1") _) [PySem.CmpOp.Eq] _ _, _] _) _) _ _ _); (fail_if_success (with_reducible rename JMark => jM')); k_dflt ((refine' joinA ?wq7h0 ?wq7h1 ?wq7h2 ?wq7F ?wq7N ?_ ?_); (case wq7F => k_asm); (case wq7N => k_asm); (case wq7h0 => rfl); (case wq7h1 => rfl); (case wq7h2 => rfl); skip); (rotate_left 1; (intro h9 tk9 F9 N9; (try dsimp only); (try k_sweep)); rotate_right 1; intro jM')))
  (k_with "eval BoolOp" => (k_here; (with_reducible show wpAny _ _ (eval (PySem.Expr.BoolOp _ [PySem.Expr.Compare (PySem.Expr.Name (PySem.Str.ofString "month") _) [PySem.CmpOp.Gt] _ _, _] _) _) _ _ _); (fail_if_success (with_reducible rename JMark => jM')); k_dflt ((refine' joinB ?wq7h0 ?wq7h1 ?wq7F ?wq7N ?_ ?_); (case wq7F => k_asm); (case wq7N => k_asm); (case wq7h0 => rfl); (case wq7h1 => rfl); skip); (rotate_left 1; (intro h9 tk9 F9 N9; (try dsimp only); (try k_sweep)); rotate_right 1; intro jM')))
  (k_with "eval BoolOp" => (k_here; (with_reducible show wpAny _ _ (eval (PySem.Expr.BoolOp _ [PySem.Expr.Compare (PySem.Expr.Name (PySem.Str.ofString "month") _) [PySem.CmpOp.Eq] _ _, _] _) _) _ _ _); (fail_if_success (with_reducible rename JMark => jM')); k_dflt ((refine' joinC ?wq7h0 ?wq7h1 ?wq7F ?wq7N ?_ ?_); (case wq7F => k_asm); (case wq7N => k_asm); (case wq7h0 => rfl); (case wq7h1 => rfl); skip); (rotate_left 1; (intro h9 tk9 F9 N9; (try dsimp only); (try k_sweep)); rotate_right 1; intro jM')))
  (k_with "JB" => (k_dflt ((refine' JB.intro ?wq7e ?wq7F ?wq7N ?wq7S); (case wq7F => k_asm); (case wq7N => k_asm); (case wq7S => first | exact fun _ hp => hp | kcj_all); (case wq7e => (first | exact jb1 (by with_reducible assumption) | exact jb2 (by with_reducible assumption) | exact jb3 (by with_reducible assumption) | exact jb4 (by with_reducible assumption) (by with_reducible assumption) | exact jb5 (by with_reducible assumption) (by with_reducible assumption) | exact jb6 (by with_reducible assumption))))))
  (k_with "call builtin:divmod" => (k_here; (with_reducible show wpAny _ _ (call (Value.builtin _) [Value.int _ _, Value.int _ _]) _ _ _); k_dflt ( (refine' divmod_G ?wq7F ?wq7N ?wq7b ?_ ?wq7hp); (case wq7F => k_asm); (case wq7N => k_asm); (case wq7b => omega); (case wq7hp => first | exact Or.inl (PyProof.noPylong_of_log2 (by decide +kernel)) | exact Or.inl (PyProof.noPylong_small (by omega)) | exact Or.inr (PySem.PylongRoom.of (by first | assumption | (refine PySem.Heap.NoLimit.keeps ?_ (PyProof.Rows.Fr.keep (by assumption)); exact PyProof.Rows.Top.nolimit (by assumption))) (of_decide_eq_true (by with_unfolding_all rfl)))); k_whole; intro h' D' q' r' t1' t2' tk' F' N' l1 e1' e2' e3'; (try k_lt l1); (try k_sweep); (try dsimp only))))
  (k_with "call ref" => (k_dflt ( (refine' use ?wq7c ?wq7k1 ?wq7k2 ?wq7k3 ?wq7k4 ?wq7k5 ?wq7k6 ?wq7k7 ?wq7k8 ?_); (case wq7k2 => k_asm); (case wq7k1 => k_asm); (case wq7k3 => k_asm); (case wq7k4 => k_asm); (case wq7k5 => k_asm); (case wq7c => first  | exact c_leap _ _ _ _ _ _ | exact c_dim _ _ _ _ _ _ _ _ (by first | omega | (rw [sh5]; omega) | exact pre1 (by assumption) rfl (by assumption) (by assumption)) (by first | omega | (rw [sh5]; omega))); (case wq7k6 => first | exact rfl | assumption); (case wq7k7 => ktr_room); (case wq7k8 => ktr_units); (intro t9 h9 tk9 F9 N9; (try dsimp only); (try k_fold)))))
  (k_with "subscriptTail" => (k_here; k_dflt ( (refine' top_item ?wq7F ?wq7X ?wq7l ?wq7hi ?wq7h0 ?wq7h1 ?wq7h2 ?_); (case wq7F => k_asm); (case wq7X => k_asm); (case wq7l => k_is); (case wq7hi => exact ints13); (case wq7h0 => first | omega | (rw [sh5]; omega)); (case wq7h1 => (simp only [List.length_cons, List.length_nil]; first | omega | (rw [sh5]; omega))); (case wq7h2 => decide); k_whole; intro t9)))
  unfold C Ctr; k_fill
  intro dp un gd cn cs a ccd cl outer A₀ base h₀ L m news s Q E B F X N T hk hd hu hret
  have D0 : KtsDicts [] h₀ := ktsDicts_nil
  refine wpAny_call ?_
  k_dflt cell_enter
  k_steps
  all_goals (try k_data)
  all_goals first
  | (refine' endN (Q := Q) (s := s) hret ?e ?F ?N ?S ?l; (case F => k_asm); (case N => k_asm); (case S => kcj_all); (case l => first | assumption | exact lt0 (by assumption) | exact lt1 (by assumption) | exact lt2 (by assumption) | exact lt3 (by assumption) | exact lt4 (by assumption) | exact lt5 (by assumption) | exact lt6 (by assumption)); (case e => (first | exact (ord_last (by assumption) (by assumption) (by assumption) (by assumption) (by assumption) (by assumption) (by assumption) (by assumption) (by assumption) (by assumption) (by assumption) (by assumption) (by first | exact Or.inl (by assumption) | exact Or.inr (by assumption)) _ _ _).2 | exact good1 (by assumption) (by assumption) rfl (by assumption) (by assumption) (ord_n (by assumption) (by assumption) (by assumption) (by assumption) (by assumption) (by assumption) (by assumption) (by assumption) (by assumption) (by assumption) (by assumption) (by assumption) (by assumption) (by assumption)) | exact good2 (by assumption) (by assumption) rfl (by assumption) (by assumption) (ord_n (by assumption) (by assumption) (by assumption) (by assumption) (by assumption) (by assumption) (by assumption) (by assumption) (by assumption) (by assumption) (by assumption) (by assumption) (by assumption) (by assumption)))))
  | (exfalso; first | omega | exact bad1 (by assumption) (by assumption) rfl (by assumption) (by assumption) | exact bad2 (by assumption) (by assumption) (by assumption) rfl (by assumption) (by assumption) | exact bad4 (by assumption) (by assumption) (by assumption) rfl (by assumption) (by assumption) | exact bad0 (by assumption) (by assumption) (by assumption) (by assumption) (by assumption) (by assumption) (by assumption) (by assumption) (by assumption) (by assumption) (by assumption) (by assumption))
end Mine
end
section
namespace Mine
set_option maxHeartbeats 16000000 in
theorem c_greg (w : World) (mean : ExcName → Option Value) (mg mb : Str → Option Value) (y w9 d9 : Int) (t t2 t3 : Tok) (b1 : -100000 < y) (b2 : y < 100000) (b3 : -100000 < w9) (b4 : w9 < 100000) (b5 : -100000 < d9) (b6 : d9 < 100000) : C w mean mg mb 112 16 64 [.int y t, .int w9 t2, .int d9 t3] (cOr (badG y w9 d9) (cNew (IsYmd (monI y + ((w9 - 1) * 7 + (d9 - 1)))))) := by
  w_top off
  k_with_none
  (k_with "eval Call" => (k_here; (with_reducible show wpAny _ _ (eval (PySem.Expr.Call (PySem.Expr.Name _ _) _ [] _) _) _ _ _); refine Call_ ?_))
  (k_with "joinParts" => (k_here; (first | (with_reducible show wpAny _ _ (joinParts _ []) _ _ _) | (with_reducible show wpAny _ _ (joinParts _ (evalEach [] _)) _ _ _)); (try (with_reducible refine joinParts_nilE ?_)); (with_reducible refine' joinParts_nil ?_ ?wq7z); (case wq7z => first | ((with_reducible refine fit1 ?_) <;> (first | ((with_reducible refine leafI ?_ ?_) <;> k_dflt omega) | ((with_reducible refine leafL ?_); k_dflt (decide +kernel)) | (with_reducible exact leafS (by assumption) (by decide)))) | ((with_reducible refine fit2 ?_ ?_) <;> (first | ((with_reducible refine leafI ?_ ?_) <;> k_dflt omega) | ((with_reducible refine leafL ?_); k_dflt (decide +kernel)) | (with_reducible exact leafS (by assumption) (by decide)))) | ((with_reducible refine fit3 ?_ ?_ ?_) <;> (first | ((with_reducible refine leafI ?_ ?_) <;> k_dflt omega) | ((with_reducible refine leafL ?_); k_dflt (decide +kernel)) | (with_reducible exact leafS (by assumption) (by decide)))) | ((with_reducible refine fit4 ?_ ?_ ?_ ?_) <;> (first | ((with_reducible refine leafI ?_ ?_) <;> k_dflt omega) | ((with_reducible refine leafL ?_); k_dflt (decide +kernel)) | (with_reducible exact leafS (by assumption) (by decide)))) | ((with_reducible refine fit5 ?_ ?_ ?_ ?_ ?_) <;> (first | ((with_reducible refine leafI ?_ ?_) <;> k_dflt omega) | ((with_reducible refine leafL ?_); k_dflt (decide +kernel)) | (with_reducible exact leafS (by assumption) (by decide)))) | ((with_reducible refine fit6 ?_ ?_ ?_ ?_ ?_ ?_) <;> (first | ((with_reducible refine leafI ?_ ?_) <;> k_dflt omega) | ((with_reducible refine leafL ?_); k_dflt (decide +kernel)) | (with_reducible exact leafS (by assumption) (by decide)))) | ((with_reducible refine fit7 ?_ ?_ ?_ ?_ ?_ ?_ ?_) <;> (first | ((with_reducible refine leafI ?_ ?_) <;> k_dflt omega) | ((with_reducible refine leafL ?_); k_dflt (decide +kernel)) | (with_reducible exact leafS (by assumption) (by decide)))))))
  (k_with "formatField int" => (k_here; (with_reducible show wpAny _ _ (formatField (Value.int _ _) PySem.Str.empty) _ _ _); k_dflt (refine wpAny_formatField_int (log_small (by omega) (by omega)) ?_)))
  (k_with "formatField int" => (k_here; (with_reducible show wpAny _ _ (formatField (Value.int _ _) (PySem.Str.ofString _)) _ _ _); k_dflt ((refine' KXf.field_sym (Heap.NoDigits.keeps (Top.nodigits ?wq7T) (Fr.keep ?wq7F)) ?wq7a ?wq7b ?wq7c ?wq7d ?wq7e ?_); (case wq7F => k_asm); (case wq7T => k_asm); (case wq7c => decide +kernel); (case wq7d => kxf_nat); (case wq7e => decide +kernel); (case wq7a => omega); (case wq7b => omega)); intro _ _ kxfF kxfLo kxfHi))
  (k_with "call ref" => (k_dflt ( (refine' use ?wq7c ?wq7k1 ?wq7k2 ?wq7k3 ?wq7k4 ?wq7k5 ?wq7k6 ?wq7k7 ?wq7k8 ?_); (case wq7k2 => k_asm); (case wq7k1 => k_asm); (case wq7k3 => k_asm); (case wq7k4 => k_asm); (case wq7k5 => k_asm); (case wq7c => first  | exact c_leap _ _ _ _ _ _ | exact c_ymd _ _ _ _ _ _ _ _ _ _ (by omega) (by omega) (by omega) (by first | omega | (rw [dim1]; decide)) | exact c_mon1 _ _ _ _ _ _); (case wq7k6 => first | exact rfl | assumption); (case wq7k7 => ktr_room); (case wq7k8 => ktr_units); (intro t9 h9 tk9 F9 N9; (try dsimp only); (try k_fold)))))
  (k_with "call ref" => (k_dflt ( (refine' use ?wq7c ?wq7k1 ?wq7k2 ?wq7k3 ?wq7k4 ?wq7k5 ?wq7k6 ?wq7k7 ?wq7k8 ?_); (case wq7k2 => k_asm); (case wq7k1 => k_asm); (case wq7k3 => k_asm); (case wq7k4 => k_asm); (case wq7k5 => k_asm); (case wq7c => first  | exact c_ord _ _ _ _ _ _); (case wq7k6 => first | exact rfl | assumption); (case wq7k7 => ktr_room); (case wq7k8 => ktr_units); (intro l9 o9 h9 tk9 P9 F9 N9 l1; obtain ⟨yy, mm, dd, ty, tm, td, eo, i1, i2, i3, i4, i5⟩ := P9; subst eo; (try dsimp only); (try k_fold); (try k_lt l1)))))
  unfold C Ctr; k_fill
  intro dp un gd cn cs a ccd cl outer A₀ base h₀ L m news s Q E B F X N T hk hd hu hret
  have D0 : KtsDicts [] h₀ := ktsDicts_nil
  refine wpAny_call ?_
  k_dflt cell_enter
  k_steps
  all_goals (try k_data)
  all_goals first
  | (refine' endN (Q := Q) (s := s) (hret.2 (gN (by omega) (by omega) (by first | exact wk1 (by omega) (by omega) | exact wk2 (by assumption) (by assumption) | exact wk3 (by assumption) (by assumption) (by assumption)) (by omega) (by omega))) ?e ?F ?N ?S ?l; (case F => k_asm); (case N => k_asm); (case S => kcj_all); (case l => first | assumption | exact lt0 (by assumption) | exact lt1 (by assumption) | exact lt2 (by assumption) | exact lt3 (by assumption) | exact lt4 (by assumption) | exact lt5 (by assumption) | exact lt6 (by assumption)); (case e => (exact ⟨_, _, _, _, _, _, rfl, by assumption, by assumption, by assumption, by assumption, by assumption⟩)))
  | (refine' endX (Q := Q) (E := E) (s := s) (hret.1 _ ?r) ?ev ?R ?F ?U ?S; (case R => assumption); (case ev => rfl); (case F => assumption); (case U => assumption); (case S => kcj_all); (case r => (first | ((with_reducible refine gY ?_); omega) | ((with_reducible refine gW ?_ ?_ ?_); omega; omega; exact (by first | exact nw1 (by omega) (by omega) | exact nw2 (by assumption) (by assumption) (by assumption) | exact nw3 (by assumption) (by assumption) (by assumption))) | ((with_reducible refine gD ?_ ?_ ?_ ?_); omega; omega; exact (by first | exact wk1 (by omega) (by omega) | exact wk2 (by assumption) (by assumption) | exact wk3 (by assumption) (by assumption) (by assumption)); omega))))
end Mine
end
section
namespace Mine
set_option maxHeartbeats 16000000 in
theorem c_parseWs (w : World) (mean : ExcName → Option Value) (mg mb : Str → Option Value) (x : PySem.Str) (t : Tok) (y w9 : Int) (hL1 : 7 ≤ x.length) (hL2 : x.length ≤ 10) (hl : ([7, 8, 10].any fun k => k == (x.length : Int)) = true) (hy : PySem.intText? (PySem.Txt.slice x (some 0) (some 4)) = some y) (b1 : -100000 < y) (b2 : y < 100000) (hw : (PySem.Txt.slice x (some (4 + (if (PySem.Txt.item x 4 == PySem.Str.ofString "-") = true then 1 else 0))) (some ((4 + (if (PySem.Txt.item x 4 == PySem.Str.ofString "-") = true then 1 else 0)) + 1)) == PySem.Str.ofString "W") = true) (hW : PySem.intText? (PySem.Txt.slice x (some ((4 + (if (PySem.Txt.item x 4 == PySem.Str.ofString "-") = true then 1 else 0)) + 1)) (some ((4 + (if (PySem.Txt.item x 4 == PySem.Str.ofString "-") = true then 1 else 0)) + 1 + 2))) = some w9) (b3 : -100000 < w9) (b4 : w9 < 100000) (hs : ¬ (4 + (if (PySem.Txt.item x 4 == PySem.Str.ofString "-") = true then 1 else 0)) + 1 + 2 < (x.length : Int)) : C w mean mg mb 105 24 96 [.str x t] (cOr (badG y w9 1) (cNew (IsLst (monI y + ((w9 - 1) * 7 + (1 - 1)))))) := by
  w_top off
  k_with_none
  (k_with "eval Call" => (k_here; (with_reducible show wpAny _ _ (eval (PySem.Expr.Call (PySem.Expr.Name _ _) _ [] _) _) _ _ _); refine Call_ ?_))
  (k_with "newList" => (k_here; k_dflt ((refine' newList_K ?wq7k1 ?wq7k2 ?_ ?wq7z); (case wq7k1 => k_asm); (case wq7k2 => k_asm); (case wq7z => (rw [sizeLine_eq]; simp only [List.length_cons, List.length_nil]; omega)); k_whole); intro l' h' F' N' l1; (try k_lt l1); (try k_sweep)))
  (k_with "compareOp NotIn int ref" => (k_here; k_dflt ((refine' notin_tuple_ints ?wq7t ?wq7i ?_); (case wq7t => exact News.isTup (by k_asm) (by k_mem)); (case wq7i => with_unfolding_all (repeat constructor)))))
  (k_with "joinParts" => (k_here; (first | (with_reducible show wpAny _ _ (joinParts _ []) _ _ _) | (with_reducible show wpAny _ _ (joinParts _ (evalEach [] _)) _ _ _)); (try (with_reducible refine joinParts_nilE ?_)); (with_reducible refine' joinParts_nil ?_ ?wq7z); (case wq7z => first | ((with_reducible refine fit1 ?_) <;> (first | ((with_reducible refine leafI ?_ ?_) <;> k_dflt omega) | ((with_reducible refine leafL ?_); k_dflt (decide +kernel)) | (with_reducible exact leafS (by assumption) (by decide)))) | ((with_reducible refine fit2 ?_ ?_) <;> (first | ((with_reducible refine leafI ?_ ?_) <;> k_dflt omega) | ((with_reducible refine leafL ?_); k_dflt (decide +kernel)) | (with_reducible exact leafS (by assumption) (by decide)))) | ((with_reducible refine fit3 ?_ ?_ ?_) <;> (first | ((with_reducible refine leafI ?_ ?_) <;> k_dflt omega) | ((with_reducible refine leafL ?_); k_dflt (decide +kernel)) | (with_reducible exact leafS (by assumption) (by decide)))) | ((with_reducible refine fit4 ?_ ?_ ?_ ?_) <;> (first | ((with_reducible refine leafI ?_ ?_) <;> k_dflt omega) | ((with_reducible refine leafL ?_); k_dflt (decide +kernel)) | (with_reducible exact leafS (by assumption) (by decide)))) | ((with_reducible refine fit5 ?_ ?_ ?_ ?_ ?_) <;> (first | ((with_reducible refine leafI ?_ ?_) <;> k_dflt omega) | ((with_reducible refine leafL ?_); k_dflt (decide +kernel)) | (with_reducible exact leafS (by assumption) (by decide)))) | ((with_reducible refine fit6 ?_ ?_ ?_ ?_ ?_ ?_) <;> (first | ((with_reducible refine leafI ?_ ?_) <;> k_dflt omega) | ((with_reducible refine leafL ?_); k_dflt (decide +kernel)) | (with_reducible exact leafS (by assumption) (by decide)))) | ((with_reducible refine fit7 ?_ ?_ ?_ ?_ ?_ ?_ ?_) <;> (first | ((with_reducible refine leafI ?_ ?_) <;> k_dflt omega) | ((with_reducible refine leafL ?_); k_dflt (decide +kernel)) | (with_reducible exact leafS (by assumption) (by decide)))))))
  (k_with "formatField int" => (k_here; (with_reducible show wpAny _ _ (formatField (Value.int _ _) PySem.Str.empty) _ _ _); k_dflt (refine wpAny_formatField_int (log_small (by omega) (by omega)) ?_)))
  (k_with "formatField int" => (k_here; (with_reducible show wpAny _ _ (formatField (Value.int _ _) (PySem.Str.ofString _)) _ _ _); k_dflt ((refine' KXf.field_sym (Heap.NoDigits.keeps (Top.nodigits ?wq7T) (Fr.keep ?wq7F)) ?wq7a ?wq7b ?wq7c ?wq7d ?wq7e ?_); (case wq7F => k_asm); (case wq7T => k_asm); (case wq7c => decide +kernel); (case wq7d => kxf_nat); (case wq7e => decide +kernel); (case wq7a => omega); (case wq7b => omega)); intro _ _ kxfF kxfLo kxfHi))
  (k_with "call ref" => (k_dflt ( (refine' use ?wq7c ?wq7k1 ?wq7k2 ?wq7k3 ?wq7k4 ?wq7k5 ?wq7k6 ?wq7k7 ?wq7k8 ?_); (case wq7k2 => k_asm); (case wq7k1 => k_asm); (case wq7k3 => k_asm); (case wq7k4 => k_asm); (case wq7k5 => k_asm); (case wq7c => first  | exact c_greg _ _ _ _ _ _ _ _ _ _ (by omega) (by omega) (by omega) (by omega) (by omega) (by omega)); (case wq7k6 => first | exact rfl | assumption); (case wq7k7 => ktr_room); (case wq7k8 => ktr_units); (refine ⟨fun msg9 hm9 => ?_, fun hm9 => ?_⟩; (intro e9 t9 k9 h9 G9 tk9 R9 F9 U9; (try dsimp only); (try k_fold)); rotate_left 1; (intro l9 o9 h9 tk9 P9 F9 N9 l1; obtain ⟨yy, mm, dd, ty, tm, td, eo, i1, i2, i3, i4, i5⟩ := P9; subst eo; (try dsimp only); (try k_fold); (try k_lt l1)); rotate_right 1))))
  unfold C Ctr; k_fill
  intro dp un gd cn cs a ccd cl outer A₀ base h₀ L m news s Q E B F X N T hk hd hu hret
  have D0 : KtsDicts [] h₀ := ktsDicts_nil
  refine wpAny_call ?_
  k_dflt cell_enter
  k_steps
  all_goals (try k_data)
  all_goals first
  | (refine' endX (Q := Q) (E := E) (s := s) (hret.1 _ ?r) ?ev ?R ?F ?U ?S; (case R => assumption); (case ev => rfl); (case F => assumption); (case U => assumption); (case S => kcj_all); (case r => (assumption)))
  | (refine' endN (Q := Q) (s := s) (hret.2 (by assumption)) ?e ?F ?N ?S ?l; (case F => k_asm); (case N => k_asm); (case S => kcj_all); (case l => first | assumption | exact lt0 (by assumption) | exact lt1 (by assumption) | exact lt2 (by assumption) | exact lt3 (by assumption) | exact lt4 (by assumption) | exact lt5 (by assumption) | exact lt6 (by assumption)); (case e => (exact ⟨_, _, _, _, _, _, _, rfl, by assumption, by assumption, by assumption, by assumption, by assumption⟩)))
set_option maxHeartbeats 16000000 in
theorem c_parseWl (w : World) (mean : ExcName → Option Value) (mg mb : Str → Option Value) (x : PySem.Str) (t : Tok) (y w9 : Int) (hL1 : 7 ≤ x.length) (hL2 : x.length ≤ 10) (hl : ([7, 8, 10].any fun k => k == (x.length : Int)) = true) (hy : PySem.intText? (PySem.Txt.slice x (some 0) (some 4)) = some y) (b1 : -100000 < y) (b2 : y < 100000) (hw : (PySem.Txt.slice x (some (4 + (if (PySem.Txt.item x 4 == PySem.Str.ofString "-") = true then 1 else 0))) (some ((4 + (if (PySem.Txt.item x 4 == PySem.Str.ofString "-") = true then 1 else 0)) + 1)) == PySem.Str.ofString "W") = true) (hW : PySem.intText? (PySem.Txt.slice x (some ((4 + (if (PySem.Txt.item x 4 == PySem.Str.ofString "-") = true then 1 else 0)) + 1)) (some ((4 + (if (PySem.Txt.item x 4 == PySem.Str.ofString "-") = true then 1 else 0)) + 1 + 2))) = some w9) (b3 : -100000 < w9) (b4 : w9 < 100000) (d9 : Int) (hs : (4 + (if (PySem.Txt.item x 4 == PySem.Str.ofString "-") = true then 1 else 0)) + 1 + 2 < (x.length : Int)) (hd : (((PySem.Txt.slice x (some ((4 + (if (PySem.Txt.item x 4 == PySem.Str.ofString "-") = true then 1 else 0)) + 1 + 2)) (some ((4 + (if (PySem.Txt.item x 4 == PySem.Str.ofString "-") = true then 1 else 0)) + 1 + 2 + 1))) == PySem.Str.ofString "-") != (PySem.Txt.item x 4 == PySem.Str.ofString "-")) = false) (hD : PySem.intText? (PySem.Txt.slice x (some ((4 + (if (PySem.Txt.item x 4 == PySem.Str.ofString "-") = true then 1 else 0)) + 1 + 2 + (if (PySem.Txt.item x 4 == PySem.Str.ofString "-") = true then 1 else 0))) (some ((4 + (if (PySem.Txt.item x 4 == PySem.Str.ofString "-") = true then 1 else 0)) + 1 + 2 + (if (PySem.Txt.item x 4 == PySem.Str.ofString "-") = true then 1 else 0) + 1))) = some d9) (b5 : -100000 < d9) (b6 : d9 < 100000) : C w mean mg mb 105 24 96 [.str x t] (cOr (badG y w9 d9) (cNew (IsLst (monI y + ((w9 - 1) * 7 + (d9 - 1)))))) := by
  w_top off
  k_with_none
  (k_with "eval Call" => (k_here; (with_reducible show wpAny _ _ (eval (PySem.Expr.Call (PySem.Expr.Name _ _) _ [] _) _) _ _ _); refine Call_ ?_))
  (k_with "newList" => (k_here; k_dflt ((refine' newList_K ?wq7k1 ?wq7k2 ?_ ?wq7z); (case wq7k1 => k_asm); (case wq7k2 => k_asm); (case wq7z => (rw [sizeLine_eq]; simp only [List.length_cons, List.length_nil]; omega)); k_whole); intro l' h' F' N' l1; (try k_lt l1); (try k_sweep)))
  (k_with "compareOp NotIn int ref" => (k_here; k_dflt ((refine' notin_tuple_ints ?wq7t ?wq7i ?_); (case wq7t => exact News.isTup (by k_asm) (by k_mem)); (case wq7i => with_unfolding_all (repeat constructor)))))
  (k_with "joinParts" => (k_here; (first | (with_reducible show wpAny _ _ (joinParts _ []) _ _ _) | (with_reducible show wpAny _ _ (joinParts _ (evalEach [] _)) _ _ _)); (try (with_reducible refine joinParts_nilE ?_)); (with_reducible refine' joinParts_nil ?_ ?wq7z); (case wq7z => first | ((with_reducible refine fit1 ?_) <;> (first | ((with_reducible refine leafI ?_ ?_) <;> k_dflt omega) | ((with_reducible refine leafL ?_); k_dflt (decide +kernel)) | (with_reducible exact leafS (by assumption) (by decide)))) | ((with_reducible refine fit2 ?_ ?_) <;> (first | ((with_reducible refine leafI ?_ ?_) <;> k_dflt omega) | ((with_reducible refine leafL ?_); k_dflt (decide +kernel)) | (with_reducible exact leafS (by assumption) (by decide)))) | ((with_reducible refine fit3 ?_ ?_ ?_) <;> (first | ((with_reducible refine leafI ?_ ?_) <;> k_dflt omega) | ((with_reducible refine leafL ?_); k_dflt (decide +kernel)) | (with_reducible exact leafS (by assumption) (by decide)))) | ((with_reducible refine fit4 ?_ ?_ ?_ ?_) <;> (first | ((with_reducible refine leafI ?_ ?_) <;> k_dflt omega) | ((with_reducible refine leafL ?_); k_dflt (decide +kernel)) | (with_reducible exact leafS (by assumption) (by decide)))) | ((with_reducible refine fit5 ?_ ?_ ?_ ?_ ?_) <;> (first | ((with_reducible refine leafI ?_ ?_) <;> k_dflt omega) | ((with_reducible refine leafL ?_); k_dflt (decide +kernel)) | (with_reducible exact leafS (by assumption) (by decide)))) | ((with_reducible refine fit6 ?_ ?_ ?_ ?_ ?_ ?_) <;> (first | ((with_reducible refine leafI ?_ ?_) <;> k_dflt omega) | ((with_reducible refine leafL ?_); k_dflt (decide +kernel)) | (with_reducible exact leafS (by assumption) (by decide)))) | ((with_reducible refine fit7 ?_ ?_ ?_ ?_ ?_ ?_ ?_) <;> (first | ((with_reducible refine leafI ?_ ?_) <;> k_dflt omega) | ((with_reducible refine leafL ?_); k_dflt (decide +kernel)) | (with_reducible exact leafS (by assumption) (by decide)))))))
  (k_with "formatField int" => (k_here; (with_reducible show wpAny _ _ (formatField (Value.int _ _) PySem.Str.empty) _ _ _); k_dflt (refine wpAny_formatField_int (log_small (by omega) (by omega)) ?_)))
  (k_with "formatField int" => (k_here; (with_reducible show wpAny _ _ (formatField (Value.int _ _) (PySem.Str.ofString _)) _ _ _); k_dflt ((refine' KXf.field_sym (Heap.NoDigits.keeps (Top.nodigits ?wq7T) (Fr.keep ?wq7F)) ?wq7a ?wq7b ?wq7c ?wq7d ?wq7e ?_); (case wq7F => k_asm); (case wq7T => k_asm); (case wq7c => decide +kernel); (case wq7d => kxf_nat); (case wq7e => decide +kernel); (case wq7a => omega); (case wq7b => omega)); intro _ _ kxfF kxfLo kxfHi))
  (k_with "call ref" => (k_dflt ( (refine' use ?wq7c ?wq7k1 ?wq7k2 ?wq7k3 ?wq7k4 ?wq7k5 ?wq7k6 ?wq7k7 ?wq7k8 ?_); (case wq7k2 => k_asm); (case wq7k1 => k_asm); (case wq7k3 => k_asm); (case wq7k4 => k_asm); (case wq7k5 => k_asm); (case wq7c => first  | exact c_greg _ _ _ _ _ _ _ _ _ _ (by omega) (by omega) (by omega) (by omega) (by omega) (by omega)); (case wq7k6 => first | exact rfl | assumption); (case wq7k7 => ktr_room); (case wq7k8 => ktr_units); (refine ⟨fun msg9 hm9 => ?_, fun hm9 => ?_⟩; (intro e9 t9 k9 h9 G9 tk9 R9 F9 U9; (try dsimp only); (try k_fold)); rotate_left 1; (intro l9 o9 h9 tk9 P9 F9 N9 l1; obtain ⟨yy, mm, dd, ty, tm, td, eo, i1, i2, i3, i4, i5⟩ := P9; subst eo; (try dsimp only); (try k_fold); (try k_lt l1)); rotate_right 1))))
  unfold C Ctr; k_fill
  intro dp un gd cn cs a ccd cl outer A₀ base h₀ L m news s Q E B F X N T hk hd hu hret
  have D0 : KtsDicts [] h₀ := ktsDicts_nil
  refine wpAny_call ?_
  k_dflt cell_enter
  k_steps
  all_goals (try k_data)
  all_goals first
  | (refine' endX (Q := Q) (E := E) (s := s) (hret.1 _ ?r) ?ev ?R ?F ?U ?S; (case R => assumption); (case ev => rfl); (case F => assumption); (case U => assumption); (case S => kcj_all); (case r => (assumption)))
  | (refine' endN (Q := Q) (s := s) (hret.2 (by assumption)) ?e ?F ?N ?S ?l; (case F => k_asm); (case N => k_asm); (case S => kcj_all); (case l => first | assumption | exact lt0 (by assumption) | exact lt1 (by assumption) | exact lt2 (by assumption) | exact lt3 (by assumption) | exact lt4 (by assumption) | exact lt5 (by assumption) | exact lt6 (by assumption)); (case e => (exact ⟨_, _, _, _, _, _, _, rfl, by assumption, by assumption, by assumption, by assumption, by assumption⟩)))
set_option maxHeartbeats 16000000 in
theorem c_parseD (w : World) (mean : ExcName → Option Value) (mg mb : Str → Option Value) (x : PySem.Str) (t : Tok) (y m9 : Int) (hL1 : 7 ≤ x.length) (hL2 : x.length ≤ 10) (hl : ([7, 8, 10].any fun k => k == (x.length : Int)) = true) (hy : PySem.intText? (PySem.Txt.slice x (some 0) (some 4)) = some y) (b1 : -100000 < y) (b2 : y < 100000) (hw : ((PySem.Txt.slice x (some ((4 + (if (PySem.Txt.item x 4 == PySem.Str.ofString "-") = true then 1 else 0)))) (some ((4 + (if (PySem.Txt.item x 4 == PySem.Str.ofString "-") = true then 1 else 0)) + 1))) == PySem.Str.ofString "W") = false) (hM : PySem.intText? (PySem.Txt.slice x (some ((4 + (if (PySem.Txt.item x 4 == PySem.Str.ofString "-") = true then 1 else 0)))) (some ((4 + (if (PySem.Txt.item x 4 == PySem.Str.ofString "-") = true then 1 else 0)) + 2))) = some m9) (d9 : Int) (hd : (((PySem.Txt.slice x (some ((4 + (if (PySem.Txt.item x 4 == PySem.Str.ofString "-") = true then 1 else 0)) + 2)) (some ((4 + (if (PySem.Txt.item x 4 == PySem.Str.ofString "-") = true then 1 else 0)) + 2 + 1))) == PySem.Str.ofString "-") != (PySem.Txt.item x 4 == PySem.Str.ofString "-")) = false) (hD : PySem.intText? (PySem.Txt.slice x (some ((4 + (if (PySem.Txt.item x 4 == PySem.Str.ofString "-") = true then 1 else 0)) + 2 + (if (PySem.Txt.item x 4 == PySem.Str.ofString "-") = true then 1 else 0))) (some ((4 + (if (PySem.Txt.item x 4 == PySem.Str.ofString "-") = true then 1 else 0)) + 2 + (if (PySem.Txt.item x 4 == PySem.Str.ofString "-") = true then 1 else 0) + 2))) = some d9) : C w mean mg mb 105 24 96 [.str x t] (cNew (IsLst3 y m9 d9)) := by
  w_top off
  k_with_none
  (k_with "eval Call" => (k_here; (with_reducible show wpAny _ _ (eval (PySem.Expr.Call (PySem.Expr.Name _ _) _ [] _) _) _ _ _); refine Call_ ?_))
  (k_with "newList" => (k_here; k_dflt ((refine' newList_K ?wq7k1 ?wq7k2 ?_ ?wq7z); (case wq7k1 => k_asm); (case wq7k2 => k_asm); (case wq7z => (rw [sizeLine_eq]; simp only [List.length_cons, List.length_nil]; omega)); k_whole); intro l' h' F' N' l1; (try k_lt l1); (try k_sweep)))
  (k_with "compareOp NotIn int ref" => (k_here; k_dflt ((refine' notin_tuple_ints ?wq7t ?wq7i ?_); (case wq7t => exact News.isTup (by k_asm) (by k_mem)); (case wq7i => with_unfolding_all (repeat constructor)))))
  (k_with "joinParts" => (k_here; (first | (with_reducible show wpAny _ _ (joinParts _ []) _ _ _) | (with_reducible show wpAny _ _ (joinParts _ (evalEach [] _)) _ _ _)); (try (with_reducible refine joinParts_nilE ?_)); (with_reducible refine' joinParts_nil ?_ ?wq7z); (case wq7z => first | ((with_reducible refine fit1 ?_) <;> (first | ((with_reducible refine leafI ?_ ?_) <;> k_dflt omega) | ((with_reducible refine leafL ?_); k_dflt (decide +kernel)) | (with_reducible exact leafS (by assumption) (by decide)))) | ((with_reducible refine fit2 ?_ ?_) <;> (first | ((with_reducible refine leafI ?_ ?_) <;> k_dflt omega) | ((with_reducible refine leafL ?_); k_dflt (decide +kernel)) | (with_reducible exact leafS (by assumption) (by decide)))) | ((with_reducible refine fit3 ?_ ?_ ?_) <;> (first | ((with_reducible refine leafI ?_ ?_) <;> k_dflt omega) | ((with_reducible refine leafL ?_); k_dflt (decide +kernel)) | (with_reducible exact leafS (by assumption) (by decide)))) | ((with_reducible refine fit4 ?_ ?_ ?_ ?_) <;> (first | ((with_reducible refine leafI ?_ ?_) <;> k_dflt omega) | ((with_reducible refine leafL ?_); k_dflt (decide +kernel)) | (with_reducible exact leafS (by assumption) (by decide)))) | ((with_reducible refine fit5 ?_ ?_ ?_ ?_ ?_) <;> (first | ((with_reducible refine leafI ?_ ?_) <;> k_dflt omega) | ((with_reducible refine leafL ?_); k_dflt (decide +kernel)) | (with_reducible exact leafS (by assumption) (by decide)))) | ((with_reducible refine fit6 ?_ ?_ ?_ ?_ ?_ ?_) <;> (first | ((with_reducible refine leafI ?_ ?_) <;> k_dflt omega) | ((with_reducible refine leafL ?_); k_dflt (decide +kernel)) | (with_reducible exact leafS (by assumption) (by decide)))) | ((with_reducible refine fit7 ?_ ?_ ?_ ?_ ?_ ?_ ?_) <;> (first | ((with_reducible refine leafI ?_ ?_) <;> k_dflt omega) | ((with_reducible refine leafL ?_); k_dflt (decide +kernel)) | (with_reducible exact leafS (by assumption) (by decide)))))))
  (k_with "formatField int" => (k_here; (with_reducible show wpAny _ _ (formatField (Value.int _ _) PySem.Str.empty) _ _ _); k_dflt (refine wpAny_formatField_int (log_small (by omega) (by omega)) ?_)))
  (k_with "formatField int" => (k_here; (with_reducible show wpAny _ _ (formatField (Value.int _ _) (PySem.Str.ofString _)) _ _ _); k_dflt ((refine' KXf.field_sym (Heap.NoDigits.keeps (Top.nodigits ?wq7T) (Fr.keep ?wq7F)) ?wq7a ?wq7b ?wq7c ?wq7d ?wq7e ?_); (case wq7F => k_asm); (case wq7T => k_asm); (case wq7c => decide +kernel); (case wq7d => kxf_nat); (case wq7e => decide +kernel); (case wq7a => omega); (case wq7b => omega)); intro _ _ kxfF kxfLo kxfHi))
  (k_with "call ref" => (k_dflt ( (refine' use ?wq7c ?wq7k1 ?wq7k2 ?wq7k3 ?wq7k4 ?wq7k5 ?wq7k6 ?wq7k7 ?wq7k8 ?_); (case wq7k2 => k_asm); (case wq7k1 => k_asm); (case wq7k3 => k_asm); (case wq7k4 => k_asm); (case wq7k5 => k_asm); (case wq7c => first  | exact c_greg _ _ _ _ _ _ _ _ _ _ (by omega) (by omega) (by omega) (by omega) (by omega) (by omega)); (case wq7k6 => first | exact rfl | assumption); (case wq7k7 => ktr_room); (case wq7k8 => ktr_units); (refine ⟨fun msg9 hm9 => ?_, fun hm9 => ?_⟩; (intro e9 t9 k9 h9 G9 tk9 R9 F9 U9; (try dsimp only); (try k_fold)); rotate_left 1; (intro l9 o9 h9 tk9 P9 F9 N9 l1; obtain ⟨yy, mm, dd, ty, tm, td, eo, i1, i2, i3, i4, i5⟩ := P9; subst eo; (try dsimp only); (try k_fold); (try k_lt l1)); rotate_right 1))))
  unfold C Ctr; k_fill
  intro dp un gd cn cs a ccd cl outer A₀ base h₀ L m news s Q E B F X N T hk hd hu hret
  have D0 : KtsDicts [] h₀ := ktsDicts_nil
  refine wpAny_call ?_
  k_dflt cell_enter
  k_steps
  all_goals (try k_data)
  all_goals (refine' endN (Q := Q) (s := s) hret ?e ?F ?N ?S ?l; (case F => k_asm); (case N => k_asm); (case S => kcj_all); (case l => first | assumption | exact lt0 (by assumption) | exact lt1 (by assumption) | exact lt2 (by assumption) | exact lt3 (by assumption) | exact lt4 (by assumption) | exact lt5 (by assumption) | exact lt6 (by assumption)); (case e => (exact ⟨_, _, _, _, rfl⟩)))
set_option maxHeartbeats 16000000 in
theorem c_parseX (w : World) (mean : ExcName → Option Value) (mg mb : Str → Option Value) (x : PySem.Str) (t : Tok) (y m9 : Int) (hL1 : 7 ≤ x.length) (hL2 : x.length ≤ 10) (hl : ([7, 8, 10].any fun k => k == (x.length : Int)) = true) (hy : PySem.intText? (PySem.Txt.slice x (some 0) (some 4)) = some y) (b1 : -100000 < y) (b2 : y < 100000) (hw : ((PySem.Txt.slice x (some ((4 + (if (PySem.Txt.item x 4 == PySem.Str.ofString "-") = true then 1 else 0)))) (some ((4 + (if (PySem.Txt.item x 4 == PySem.Str.ofString "-") = true then 1 else 0)) + 1))) == PySem.Str.ofString "W") = false) (hM : PySem.intText? (PySem.Txt.slice x (some ((4 + (if (PySem.Txt.item x 4 == PySem.Str.ofString "-") = true then 1 else 0)))) (some ((4 + (if (PySem.Txt.item x 4 == PySem.Str.ofString "-") = true then 1 else 0)) + 2))) = some m9) (hd : (((PySem.Txt.slice x (some ((4 + (if (PySem.Txt.item x 4 == PySem.Str.ofString "-") = true then 1 else 0)) + 2)) (some ((4 + (if (PySem.Txt.item x 4 == PySem.Str.ofString "-") = true then 1 else 0)) + 2 + 1))) == PySem.Str.ofString "-") != (PySem.Txt.item x 4 == PySem.Str.ofString "-")) = true) : C w mean mg mb 105 24 96 [.str x t] (cBad (fun k => [.str (PySem.Str.ofString "Inconsistent use of dash separator") k])) := by
  w_top off
  k_with_none
  (k_with "eval Call" => (k_here; (with_reducible show wpAny _ _ (eval (PySem.Expr.Call (PySem.Expr.Name _ _) _ [] _) _) _ _ _); refine Call_ ?_))
  (k_with "newList" => (k_here; k_dflt ((refine' newList_K ?wq7k1 ?wq7k2 ?_ ?wq7z); (case wq7k1 => k_asm); (case wq7k2 => k_asm); (case wq7z => (rw [sizeLine_eq]; simp only [List.length_cons, List.length_nil]; omega)); k_whole); intro l' h' F' N' l1; (try k_lt l1); (try k_sweep)))
  (k_with "compareOp NotIn int ref" => (k_here; k_dflt ((refine' notin_tuple_ints ?wq7t ?wq7i ?_); (case wq7t => exact News.isTup (by k_asm) (by k_mem)); (case wq7i => with_unfolding_all (repeat constructor)))))
  (k_with "joinParts" => (k_here; (first | (with_reducible show wpAny _ _ (joinParts _ []) _ _ _) | (with_reducible show wpAny _ _ (joinParts _ (evalEach [] _)) _ _ _)); (try (with_reducible refine joinParts_nilE ?_)); (with_reducible refine' joinParts_nil ?_ ?wq7z); (case wq7z => first | ((with_reducible refine fit1 ?_) <;> (first | ((with_reducible refine leafI ?_ ?_) <;> k_dflt omega) | ((with_reducible refine leafL ?_); k_dflt (decide +kernel)) | (with_reducible exact leafS (by assumption) (by decide)))) | ((with_reducible refine fit2 ?_ ?_) <;> (first | ((with_reducible refine leafI ?_ ?_) <;> k_dflt omega) | ((with_reducible refine leafL ?_); k_dflt (decide +kernel)) | (with_reducible exact leafS (by assumption) (by decide)))) | ((with_reducible refine fit3 ?_ ?_ ?_) <;> (first | ((with_reducible refine leafI ?_ ?_) <;> k_dflt omega) | ((with_reducible refine leafL ?_); k_dflt (decide +kernel)) | (with_reducible exact leafS (by assumption) (by decide)))) | ((with_reducible refine fit4 ?_ ?_ ?_ ?_) <;> (first | ((with_reducible refine leafI ?_ ?_) <;> k_dflt omega) | ((with_reducible refine leafL ?_); k_dflt (decide +kernel)) | (with_reducible exact leafS (by assumption) (by decide)))) | ((with_reducible refine fit5 ?_ ?_ ?_ ?_ ?_) <;> (first | ((with_reducible refine leafI ?_ ?_) <;> k_dflt omega) | ((with_reducible refine leafL ?_); k_dflt (decide +kernel)) | (with_reducible exact leafS (by assumption) (by decide)))) | ((with_reducible refine fit6 ?_ ?_ ?_ ?_ ?_ ?_) <;> (first | ((with_reducible refine leafI ?_ ?_) <;> k_dflt omega) | ((with_reducible refine leafL ?_); k_dflt (decide +kernel)) | (with_reducible exact leafS (by assumption) (by decide)))) | ((with_reducible refine fit7 ?_ ?_ ?_ ?_ ?_ ?_ ?_) <;> (first | ((with_reducible refine leafI ?_ ?_) <;> k_dflt omega) | ((with_reducible refine leafL ?_); k_dflt (decide +kernel)) | (with_reducible exact leafS (by assumption) (by decide)))))))
  (k_with "formatField int" => (k_here; (with_reducible show wpAny _ _ (formatField (Value.int _ _) PySem.Str.empty) _ _ _); k_dflt (refine wpAny_formatField_int (log_small (by omega) (by omega)) ?_)))
  (k_with "formatField int" => (k_here; (with_reducible show wpAny _ _ (formatField (Value.int _ _) (PySem.Str.ofString _)) _ _ _); k_dflt ((refine' KXf.field_sym (Heap.NoDigits.keeps (Top.nodigits ?wq7T) (Fr.keep ?wq7F)) ?wq7a ?wq7b ?wq7c ?wq7d ?wq7e ?_); (case wq7F => k_asm); (case wq7T => k_asm); (case wq7c => decide +kernel); (case wq7d => kxf_nat); (case wq7e => decide +kernel); (case wq7a => omega); (case wq7b => omega)); intro _ _ kxfF kxfLo kxfHi))
  (k_with "call ref" => (k_dflt ( (refine' use ?wq7c ?wq7k1 ?wq7k2 ?wq7k3 ?wq7k4 ?wq7k5 ?wq7k6 ?wq7k7 ?wq7k8 ?_); (case wq7k2 => k_asm); (case wq7k1 => k_asm); (case wq7k3 => k_asm); (case wq7k4 => k_asm); (case wq7k5 => k_asm); (case wq7c => first  | exact c_greg _ _ _ _ _ _ _ _ _ _ (by omega) (by omega) (by omega) (by omega) (by omega) (by omega)); (case wq7k6 => first | exact rfl | assumption); (case wq7k7 => ktr_room); (case wq7k8 => ktr_units); (refine ⟨fun msg9 hm9 => ?_, fun hm9 => ?_⟩; (intro e9 t9 k9 h9 G9 tk9 R9 F9 U9; (try dsimp only); (try k_fold)); rotate_left 1; (intro l9 o9 h9 tk9 P9 F9 N9 l1; obtain ⟨yy, mm, dd, ty, tm, td, eo, i1, i2, i3, i4, i5⟩ := P9; subst eo; (try dsimp only); (try k_fold); (try k_lt l1)); rotate_right 1))))
  unfold C Ctr; k_fill
  intro dp un gd cn cs a ccd cl outer A₀ base h₀ L m news s Q E B F X N T hk hd hu hret
  have D0 : KtsDicts [] h₀ := ktsDicts_nil
  refine wpAny_call ?_
  k_dflt cell_enter
  k_steps
  all_goals (try k_data)
  all_goals (refine' endX (Q := Q) (E := E) (s := s) (hret) ?ev ?R ?F ?U ?S; (case R => assumption); (case ev => rfl); (case F => assumption); (case U => assumption); (case S => kcj_all); skip)
end Mine
end
section
namespace Mine
set_option maxHeartbeats 16000000 in
theorem c_digit (w : World) (mean : ExcName → Option Value) (mg mb : Str → Option Value) (x : PySem.Str) (t : Tok) : C w mean mg mb 91 2 8 [.str x t] (cBool (digB x)) := by
  w_top off
  k_with_none
  unfold C Ctr; k_fill
  intro dp un gd cn cs a ccd cl outer A₀ base h₀ L m news s Q E B F X N T hk hd hu hret
  have D0 : KtsDicts [] h₀ := ktsDicts_nil
  refine wpAny_call ?_
  k_dflt cell_enter
  k_steps
  all_goals (try k_data)
  all_goals (refine' endB (Q := Q) (s := s) hret ?e ?F ?N ?S; (case F => k_asm); (case N => k_asm); (case S => kcj_all); (case e => (rfl)))
set_option maxHeartbeats 16000000 in
theorem c_findS (w : World) (mean : ExcName → Option Value) (mg mb : Str → Option Value) (x : PySem.Str) (t : Tok) (hL2 : x.length ≤ 1000) (h7 : x.length = 7) : C w mean mg mb 98 6 24 [.str x t] (cInt 7) := by
  w_top off
  k_with_none
  (k_with "call ref" => (k_dflt ( (refine' use ?wq7c ?wq7k1 ?wq7k2 ?wq7k3 ?wq7k4 ?wq7k5 ?wq7k6 ?wq7k7 ?wq7k8 ?_); (case wq7k2 => k_asm); (case wq7k1 => k_asm); (case wq7k3 => k_asm); (case wq7k4 => k_asm); (case wq7k5 => k_asm); (case wq7c => first  | exact c_digit _ _ _ _ _ _); (case wq7k6 => first | exact rfl | assumption); (case wq7k7 => ktr_room); (case wq7k8 => ktr_units); (intro t9 h9 tk9 F9 N9; (try dsimp only); (try k_fold)))))
  (k_with "exec While Compare cons nil" => (k_here; k_dflt (refine whl_start 3 ?_)))
  (k_with "WhlIf" => k_dflt (first | (refine WhlIf.yes (decide_eq_true (by omega)) ?_) | (refine WhlIf.no (decide_eq_false (by omega)) ?_)))
  unfold C Ctr; k_fill
  intro dp un gd cn cs a ccd cl outer A₀ base h₀ L m news s Q E B F X N T hk hd hu hret
  have D0 : KtsDicts [] h₀ := ktsDicts_nil
  refine wpAny_call ?_
  k_dflt cell_enter
  k_steps
  all_goals (try k_data)
  all_goals first | (refine' endI (Q := Q) (s := s) hret ?e ?F ?N ?S; (case F => k_asm); (case N => k_asm); (case S => kcj_all); (case e => (rfl))) | (exfalso; first | omega | simp_all)
set_option maxHeartbeats 16000000 in
theorem c_findM (w : World) (mean : ExcName → Option Value) (mg mb : Str → Option Value) (x : PySem.Str) (t : Tok) (hL2 : x.length ≤ 1000) (h7 : 10 ≤ x.length) (i4 : ((PySem.Txt.item x 4 == PySem.Str.ofString "-") = true)) (i5 : ((PySem.Txt.item x 5 == PySem.Str.ofString "W") = false)) : C w mean mg mb 98 6 24 [.str x t] (cInt 10) := by
  w_top off
  k_with_none
  (k_with "call ref" => (k_dflt ( (refine' use ?wq7c ?wq7k1 ?wq7k2 ?wq7k3 ?wq7k4 ?wq7k5 ?wq7k6 ?wq7k7 ?wq7k8 ?_); (case wq7k2 => k_asm); (case wq7k1 => k_asm); (case wq7k3 => k_asm); (case wq7k4 => k_asm); (case wq7k5 => k_asm); (case wq7c => first  | exact c_digit _ _ _ _ _ _); (case wq7k6 => first | exact rfl | assumption); (case wq7k7 => ktr_room); (case wq7k8 => ktr_units); (intro t9 h9 tk9 F9 N9; (try dsimp only); (try k_fold)))))
  (k_with "exec While Compare cons nil" => (k_here; k_dflt (refine whl_start 3 ?_)))
  (k_with "WhlIf" => k_dflt (first | (refine WhlIf.yes (decide_eq_true (by omega)) ?_) | (refine WhlIf.no (decide_eq_false (by omega)) ?_)))
  unfold C Ctr; k_fill
  intro dp un gd cn cs a ccd cl outer A₀ base h₀ L m news s Q E B F X N T hk hd hu hret
  have D0 : KtsDicts [] h₀ := ktsDicts_nil
  refine wpAny_call ?_
  k_dflt cell_enter
  k_steps
  all_goals (try k_data)
  all_goals first | (refine' endI (Q := Q) (s := s) hret ?e ?F ?N ?S; (case F => k_asm); (case N => k_asm); (case S => kcj_all); (case e => (rfl))) | (exfalso; first | omega | simp_all)
set_option maxHeartbeats 16000000 in
theorem c_findC (w : World) (mean : ExcName → Option Value) (mg mb : Str → Option Value) (x : PySem.Str) (t : Tok) (hL2 : x.length ≤ 1000) (h7 : 8 ≤ x.length) (i4 : ((PySem.Txt.item x 4 == PySem.Str.ofString "-") = false)) (i5 : ((PySem.Txt.item x 4 == PySem.Str.ofString "W") = false)) : C w mean mg mb 98 6 24 [.str x t] (cInt 8) := by
  w_top off
  k_with_none
  (k_with "call ref" => (k_dflt ( (refine' use ?wq7c ?wq7k1 ?wq7k2 ?wq7k3 ?wq7k4 ?wq7k5 ?wq7k6 ?wq7k7 ?wq7k8 ?_); (case wq7k2 => k_asm); (case wq7k1 => k_asm); (case wq7k3 => k_asm); (case wq7k4 => k_asm); (case wq7k5 => k_asm); (case wq7c => first  | exact c_digit _ _ _ _ _ _); (case wq7k6 => first | exact rfl | assumption); (case wq7k7 => ktr_room); (case wq7k8 => ktr_units); (intro t9 h9 tk9 F9 N9; (try dsimp only); (try k_fold)))))
  (k_with "exec While Compare cons nil" => (k_here; k_dflt (refine whl_start 3 ?_)))
  (k_with "WhlIf" => k_dflt (first | (refine WhlIf.yes (decide_eq_true (by omega)) ?_) | (refine WhlIf.no (decide_eq_false (by omega)) ?_)))
  unfold C Ctr; k_fill
  intro dp un gd cn cs a ccd cl outer A₀ base h₀ L m news s Q E B F X N T hk hd hu hret
  have D0 : KtsDicts [] h₀ := ktsDicts_nil
  refine wpAny_call ?_
  k_dflt cell_enter
  k_steps
  all_goals (try k_data)
  all_goals first | (refine' endI (Q := Q) (s := s) hret ?e ?F ?N ?S; (case F => k_asm); (case N => k_asm); (case S => kcj_all); (case e => (rfl))) | (exfalso; first | omega | simp_all)
set_option maxHeartbeats 16000000 in
theorem c_findWs1 (w : World) (mean : ExcName → Option Value) (mg mb : Str → Option Value) (x : PySem.Str) (t : Tok) (hL2 : x.length ≤ 1000) (h7 : x.length = 8) (i4 : ((PySem.Txt.item x 4 == PySem.Str.ofString "-") = true)) (i5 : ((PySem.Txt.item x 5 == PySem.Str.ofString "W") = true)) : C w mean mg mb 98 6 24 [.str x t] (cInt 8) := by
  w_top off
  k_with_none
  (k_with "call ref" => (k_dflt ( (refine' use ?wq7c ?wq7k1 ?wq7k2 ?wq7k3 ?wq7k4 ?wq7k5 ?wq7k6 ?wq7k7 ?wq7k8 ?_); (case wq7k2 => k_asm); (case wq7k1 => k_asm); (case wq7k3 => k_asm); (case wq7k4 => k_asm); (case wq7k5 => k_asm); (case wq7c => first  | exact c_digit _ _ _ _ _ _); (case wq7k6 => first | exact rfl | assumption); (case wq7k7 => ktr_room); (case wq7k8 => ktr_units); (intro t9 h9 tk9 F9 N9; (try dsimp only); (try k_fold)))))
  (k_with "exec While Compare cons nil" => (k_here; k_dflt (refine whl_start 3 ?_)))
  (k_with "WhlIf" => k_dflt (first | (refine WhlIf.yes (decide_eq_true (by omega)) ?_) | (refine WhlIf.no (decide_eq_false (by omega)) ?_)))
  unfold C Ctr; k_fill
  intro dp un gd cn cs a ccd cl outer A₀ base h₀ L m news s Q E B F X N T hk hd hu hret
  have D0 : KtsDicts [] h₀ := ktsDicts_nil
  refine wpAny_call ?_
  k_dflt cell_enter
  k_steps
  all_goals (try k_data)
  all_goals first | (refine' endI (Q := Q) (s := s) hret ?e ?F ?N ?S; (case F => k_asm); (case N => k_asm); (case S => kcj_all); (case e => (rfl))) | (exfalso; first | omega | simp_all)
set_option maxHeartbeats 16000000 in
theorem c_findWs2 (w : World) (mean : ExcName → Option Value) (mg mb : Str → Option Value) (x : PySem.Str) (t : Tok) (hL2 : x.length ≤ 1000) (h7 : 8 < x.length) (i4 : ((PySem.Txt.item x 4 == PySem.Str.ofString "-") = true)) (i5 : ((PySem.Txt.item x 5 == PySem.Str.ofString "W") = true)) (i8 : ((PySem.Txt.item x 8 == PySem.Str.ofString "-") = false)) : C w mean mg mb 98 6 24 [.str x t] (cInt 8) := by
  w_top off
  k_with_none
  (k_with "call ref" => (k_dflt ( (refine' use ?wq7c ?wq7k1 ?wq7k2 ?wq7k3 ?wq7k4 ?wq7k5 ?wq7k6 ?wq7k7 ?wq7k8 ?_); (case wq7k2 => k_asm); (case wq7k1 => k_asm); (case wq7k3 => k_asm); (case wq7k4 => k_asm); (case wq7k5 => k_asm); (case wq7c => first  | exact c_digit _ _ _ _ _ _); (case wq7k6 => first | exact rfl | assumption); (case wq7k7 => ktr_room); (case wq7k8 => ktr_units); (intro t9 h9 tk9 F9 N9; (try dsimp only); (try k_fold)))))
  (k_with "exec While Compare cons nil" => (k_here; k_dflt (refine whl_start 3 ?_)))
  (k_with "WhlIf" => k_dflt (first | (refine WhlIf.yes (decide_eq_true (by omega)) ?_) | (refine WhlIf.no (decide_eq_false (by omega)) ?_)))
  unfold C Ctr; k_fill
  intro dp un gd cn cs a ccd cl outer A₀ base h₀ L m news s Q E B F X N T hk hd hu hret
  have D0 : KtsDicts [] h₀ := ktsDicts_nil
  refine wpAny_call ?_
  k_dflt cell_enter
  k_steps
  all_goals (try k_data)
  all_goals first | (refine' endI (Q := Q) (s := s) hret ?e ?F ?N ?S; (case F => k_asm); (case N => k_asm); (case S => kcj_all); (case e => (rfl))) | (exfalso; first | omega | simp_all)
set_option maxHeartbeats 16000000 in
theorem c_findWs3 (w : World) (mean : ExcName → Option Value) (mg mb : Str → Option Value) (x : PySem.Str) (t : Tok) (hL2 : x.length ≤ 1000) (h7 : 10 < x.length) (i4 : ((PySem.Txt.item x 4 == PySem.Str.ofString "-") = true)) (i5 : ((PySem.Txt.item x 5 == PySem.Str.ofString "W") = true)) (i8 : ((PySem.Txt.item x 8 == PySem.Str.ofString "-") = true)) (d : (digB (PySem.Txt.item x 10) = true)) : C w mean mg mb 98 6 24 [.str x t] (cInt 8) := by
  w_top off
  k_with_none
  (k_with "call ref" => (k_dflt ( (refine' use ?wq7c ?wq7k1 ?wq7k2 ?wq7k3 ?wq7k4 ?wq7k5 ?wq7k6 ?wq7k7 ?wq7k8 ?_); (case wq7k2 => k_asm); (case wq7k1 => k_asm); (case wq7k3 => k_asm); (case wq7k4 => k_asm); (case wq7k5 => k_asm); (case wq7c => first  | exact c_digit _ _ _ _ _ _); (case wq7k6 => first | exact rfl | assumption); (case wq7k7 => ktr_room); (case wq7k8 => ktr_units); (intro t9 h9 tk9 F9 N9; (try dsimp only); (try k_fold)))))
  (k_with "exec While Compare cons nil" => (k_here; k_dflt (refine whl_start 3 ?_)))
  (k_with "WhlIf" => k_dflt (first | (refine WhlIf.yes (decide_eq_true (by omega)) ?_) | (refine WhlIf.no (decide_eq_false (by omega)) ?_)))
  unfold C Ctr; k_fill
  intro dp un gd cn cs a ccd cl outer A₀ base h₀ L m news s Q E B F X N T hk hd hu hret
  have D0 : KtsDicts [] h₀ := ktsDicts_nil
  refine wpAny_call ?_
  k_dflt cell_enter
  k_steps
  all_goals (try k_data)
  all_goals first | (refine' endI (Q := Q) (s := s) hret ?e ?F ?N ?S; (case F => k_asm); (case N => k_asm); (case S => kcj_all); (case e => (rfl))) | (exfalso; first | omega | simp_all)
set_option maxHeartbeats 16000000 in
theorem c_findWl1 (w : World) (mean : ExcName → Option Value) (mg mb : Str → Option Value) (x : PySem.Str) (t : Tok) (hL2 : x.length ≤ 1000) (h7 : x.length = 10) (i4 : ((PySem.Txt.item x 4 == PySem.Str.ofString "-") = true)) (i5 : ((PySem.Txt.item x 5 == PySem.Str.ofString "W") = true)) (i8 : ((PySem.Txt.item x 8 == PySem.Str.ofString "-") = true)) : C w mean mg mb 98 6 24 [.str x t] (cInt 10) := by
  w_top off
  k_with_none
  (k_with "call ref" => (k_dflt ( (refine' use ?wq7c ?wq7k1 ?wq7k2 ?wq7k3 ?wq7k4 ?wq7k5 ?wq7k6 ?wq7k7 ?wq7k8 ?_); (case wq7k2 => k_asm); (case wq7k1 => k_asm); (case wq7k3 => k_asm); (case wq7k4 => k_asm); (case wq7k5 => k_asm); (case wq7c => first  | exact c_digit _ _ _ _ _ _); (case wq7k6 => first | exact rfl | assumption); (case wq7k7 => ktr_room); (case wq7k8 => ktr_units); (intro t9 h9 tk9 F9 N9; (try dsimp only); (try k_fold)))))
  (k_with "exec While Compare cons nil" => (k_here; k_dflt (refine whl_start 3 ?_)))
  (k_with "WhlIf" => k_dflt (first | (refine WhlIf.yes (decide_eq_true (by omega)) ?_) | (refine WhlIf.no (decide_eq_false (by omega)) ?_)))
  unfold C Ctr; k_fill
  intro dp un gd cn cs a ccd cl outer A₀ base h₀ L m news s Q E B F X N T hk hd hu hret
  have D0 : KtsDicts [] h₀ := ktsDicts_nil
  refine wpAny_call ?_
  k_dflt cell_enter
  k_steps
  all_goals (try k_data)
  all_goals first | (refine' endI (Q := Q) (s := s) hret ?e ?F ?N ?S; (case F => k_asm); (case N => k_asm); (case S => kcj_all); (case e => (rfl))) | (exfalso; first | omega | simp_all)
set_option maxHeartbeats 16000000 in
theorem c_findWl2 (w : World) (mean : ExcName → Option Value) (mg mb : Str → Option Value) (x : PySem.Str) (t : Tok) (hL2 : x.length ≤ 1000) (h7 : 10 < x.length) (i4 : ((PySem.Txt.item x 4 == PySem.Str.ofString "-") = true)) (i5 : ((PySem.Txt.item x 5 == PySem.Str.ofString "W") = true)) (i8 : ((PySem.Txt.item x 8 == PySem.Str.ofString "-") = true)) (d : (digB (PySem.Txt.item x 10) = false)) : C w mean mg mb 98 6 24 [.str x t] (cInt 10) := by
  w_top off
  k_with_none
  (k_with "call ref" => (k_dflt ( (refine' use ?wq7c ?wq7k1 ?wq7k2 ?wq7k3 ?wq7k4 ?wq7k5 ?wq7k6 ?wq7k7 ?wq7k8 ?_); (case wq7k2 => k_asm); (case wq7k1 => k_asm); (case wq7k3 => k_asm); (case wq7k4 => k_asm); (case wq7k5 => k_asm); (case wq7c => first  | exact c_digit _ _ _ _ _ _); (case wq7k6 => first | exact rfl | assumption); (case wq7k7 => ktr_room); (case wq7k8 => ktr_units); (intro t9 h9 tk9 F9 N9; (try dsimp only); (try k_fold)))))
  (k_with "exec While Compare cons nil" => (k_here; k_dflt (refine whl_start 3 ?_)))
  (k_with "WhlIf" => k_dflt (first | (refine WhlIf.yes (decide_eq_true (by omega)) ?_) | (refine WhlIf.no (decide_eq_false (by omega)) ?_)))
  unfold C Ctr; k_fill
  intro dp un gd cn cs a ccd cl outer A₀ base h₀ L m news s Q E B F X N T hk hd hu hret
  have D0 : KtsDicts [] h₀ := ktsDicts_nil
  refine wpAny_call ?_
  k_dflt cell_enter
  k_steps
  all_goals (try k_data)
  all_goals first | (refine' endI (Q := Q) (s := s) hret ?e ?F ?N ?S; (case F => k_asm); (case N => k_asm); (case S => kcj_all); (case e => (rfl))) | (exfalso; first | omega | simp_all)
set_option maxHeartbeats 16000000 in
theorem c_findBs (w : World) (mean : ExcName → Option Value) (mg mb : Str → Option Value) (x : PySem.Str) (t : Tok) (hL2 : x.length ≤ 1000) (h7 : 7 < x.length) (i4 : ((PySem.Txt.item x 4 == PySem.Str.ofString "-") = false)) (i5 : ((PySem.Txt.item x 4 == PySem.Str.ofString "W") = true)) (d : (digB (PySem.Txt.item x 7) = false)) : C w mean mg mb 98 6 24 [.str x t] (cInt 7) := by
  w_top off
  k_with_none
  (k_with "call ref" => (k_dflt ( (refine' use ?wq7c ?wq7k1 ?wq7k2 ?wq7k3 ?wq7k4 ?wq7k5 ?wq7k6 ?wq7k7 ?wq7k8 ?_); (case wq7k2 => k_asm); (case wq7k1 => k_asm); (case wq7k3 => k_asm); (case wq7k4 => k_asm); (case wq7k5 => k_asm); (case wq7c => first  | exact c_digit _ _ _ _ _ _); (case wq7k6 => first | exact rfl | assumption); (case wq7k7 => ktr_room); (case wq7k8 => ktr_units); (intro t9 h9 tk9 F9 N9; (try dsimp only); (try k_fold)))))
  (k_with "exec While Compare cons nil" => (k_here; k_dflt (refine whl_start 3 ?_)))
  (k_with "WhlIf" => k_dflt (first | (refine WhlIf.yes (decide_eq_true (by omega)) ?_) | (refine WhlIf.no (decide_eq_false (by omega)) ?_)))
  unfold C Ctr; k_fill
  intro dp un gd cn cs a ccd cl outer A₀ base h₀ L m news s Q E B F X N T hk hd hu hret
  have D0 : KtsDicts [] h₀ := ktsDicts_nil
  refine wpAny_call ?_
  k_dflt cell_enter
  k_steps
  all_goals (try k_data)
  all_goals first | (refine' endI (Q := Q) (s := s) hret ?e ?F ?N ?S; (case F => k_asm); (case N => k_asm); (case S => kcj_all); (case e => (rfl))) | (exfalso; first | omega | simp_all)
set_option maxHeartbeats 16000000 in
theorem c_findBl1 (w : World) (mean : ExcName → Option Value) (mg mb : Str → Option Value) (x : PySem.Str) (t : Tok) (hL2 : x.length ≤ 1000) (h7 : x.length = 8) (i4 : ((PySem.Txt.item x 4 == PySem.Str.ofString "-") = false)) (i5 : ((PySem.Txt.item x 4 == PySem.Str.ofString "W") = true)) (d : (digB (PySem.Txt.item x 7) = true)) : C w mean mg mb 98 6 24 [.str x t] (cInt 8) := by
  w_top off
  k_with_none
  (k_with "call ref" => (k_dflt ( (refine' use ?wq7c ?wq7k1 ?wq7k2 ?wq7k3 ?wq7k4 ?wq7k5 ?wq7k6 ?wq7k7 ?wq7k8 ?_); (case wq7k2 => k_asm); (case wq7k1 => k_asm); (case wq7k3 => k_asm); (case wq7k4 => k_asm); (case wq7k5 => k_asm); (case wq7c => first  | exact c_digit _ _ _ _ _ _); (case wq7k6 => first | exact rfl | assumption); (case wq7k7 => ktr_room); (case wq7k8 => ktr_units); (intro t9 h9 tk9 F9 N9; (try dsimp only); (try k_fold)))))
  (k_with "exec While Compare cons nil" => (k_here; k_dflt (refine whl_start 3 ?_)))
  (k_with "WhlIf" => k_dflt (first | (refine WhlIf.yes (decide_eq_true (by omega)) ?_) | (refine WhlIf.no (decide_eq_false (by omega)) ?_)))
  unfold C Ctr; k_fill
  intro dp un gd cn cs a ccd cl outer A₀ base h₀ L m news s Q E B F X N T hk hd hu hret
  have D0 : KtsDicts [] h₀ := ktsDicts_nil
  refine wpAny_call ?_
  k_dflt cell_enter
  k_steps
  all_goals (try k_data)
  all_goals first | (refine' endI (Q := Q) (s := s) hret ?e ?F ?N ?S; (case F => k_asm); (case N => k_asm); (case S => kcj_all); (case e => (rfl))) | (exfalso; first | omega | simp_all)
set_option maxHeartbeats 16000000 in
theorem c_findBl2 (w : World) (mean : ExcName → Option Value) (mg mb : Str → Option Value) (x : PySem.Str) (t : Tok) (hL2 : x.length ≤ 1000) (h7 : 8 < x.length) (i4 : ((PySem.Txt.item x 4 == PySem.Str.ofString "-") = false)) (i5 : ((PySem.Txt.item x 4 == PySem.Str.ofString "W") = true)) (d : (digB (PySem.Txt.item x 7) = true)) (e : (digB (PySem.Txt.item x (7 + 1)) = false)) : C w mean mg mb 98 6 24 [.str x t] (cInt 8) := by
  w_top off
  k_with_none
  (k_with "call ref" => (k_dflt ( (refine' use ?wq7c ?wq7k1 ?wq7k2 ?wq7k3 ?wq7k4 ?wq7k5 ?wq7k6 ?wq7k7 ?wq7k8 ?_); (case wq7k2 => k_asm); (case wq7k1 => k_asm); (case wq7k3 => k_asm); (case wq7k4 => k_asm); (case wq7k5 => k_asm); (case wq7c => first  | exact c_digit _ _ _ _ _ _); (case wq7k6 => first | exact rfl | assumption); (case wq7k7 => ktr_room); (case wq7k8 => ktr_units); (intro t9 h9 tk9 F9 N9; (try dsimp only); (try k_fold)))))
  (k_with "exec While Compare cons nil" => (k_here; k_dflt (refine whl_start 3 ?_)))
  (k_with "WhlIf" => k_dflt (first | (refine WhlIf.yes (decide_eq_true (by omega)) ?_) | (refine WhlIf.no (decide_eq_false (by omega)) ?_)))
  unfold C Ctr; k_fill
  intro dp un gd cn cs a ccd cl outer A₀ base h₀ L m news s Q E B F X N T hk hd hu hret
  have D0 : KtsDicts [] h₀ := ktsDicts_nil
  refine wpAny_call ?_
  k_dflt cell_enter
  k_steps
  all_goals (try k_data)
  all_goals first | (refine' endI (Q := Q) (s := s) hret ?e ?F ?N ?S; (case F => k_asm); (case N => k_asm); (case S => kcj_all); (case e => (rfl))) | (exfalso; first | omega | simp_all)
end Mine
end
section
namespace Mine
set_option maxHeartbeats 16000000 in
theorem c_mark (w : World) (mean : ExcName → Option Value) (mg mb : Str → Option Value) (n : Int) (t : Tok) : C w mean mg mb 133 8 32 [.int n t] (cStrP IsMark) := by
  w_top off
  k_with_none
  (k_with "call builtin:divmod" => (k_here; (with_reducible show wpAny _ _ (call (Value.builtin _) [Value.int _ _, Value.int _ _]) _ _ _); k_dflt ( (refine' divmod_G ?wq7F ?wq7N ?wq7b ?_ ?wq7hp); (case wq7F => k_asm); (case wq7N => k_asm); (case wq7b => omega); (case wq7hp => first | exact Or.inl (PyProof.noPylong_of_log2 (by decide +kernel)) | exact Or.inl (PyProof.noPylong_small (by omega)) | exact Or.inr (PySem.PylongRoom.of (by first | assumption | (refine PySem.Heap.NoLimit.keeps ?_ (PyProof.Rows.Fr.keep (by assumption)); exact PyProof.Rows.Top.nolimit (by assumption))) (of_decide_eq_true (by with_unfolding_all rfl)))); k_whole; intro h' D' q' r' t1' t2' tk' F' N' l1 e1' e2' e3'; (try k_lt l1); (try k_sweep); (try dsimp only))))
  unfold C Ctr; k_fill
  intro dp un gd cn cs a ccd cl outer A₀ base h₀ L m news s Q E B F X N T hk hd hu hret
  have D0 : KtsDicts [] h₀ := ktsDicts_nil
  refine wpAny_call ?_
  k_dflt cell_enter
  k_steps
  all_goals (try k_data)
  all_goals (refine' endSP (Q := Q) (s := s) hret ?e ?F ?N ?S; (case F => k_asm); (case N => k_asm); (case S => kcj_all); (case e => (first | exact mark_dw (by assumption) (by assumption) | exact mark_a | exact mark_b (by assumption) | exact mark_c (by assumption))))
set_option maxHeartbeats 16000000 in
theorem c_ahead (w : World) (mean : ExcName → Option Value) (mg mb : Str → Option Value) (y : Int) (t : Tok) (b1 : 1 ≤ y) (b2 : y ≤ 10000) : C w mean mg mb 140 8 32 [.int y t] (cInt (dbyI y)) := by
  w_top off
  k_with_none
  (k_with "call builtin:divmod" => (k_here; (with_reducible show wpAny _ _ (call (Value.builtin _) [Value.int _ _, Value.int _ _]) _ _ _); k_dflt ( (refine' divmod_G ?wq7F ?wq7N ?wq7b ?_ ?wq7hp); (case wq7F => k_asm); (case wq7N => k_asm); (case wq7b => omega); (case wq7hp => first | exact Or.inl (PyProof.noPylong_of_log2 (by decide +kernel)) | exact Or.inl (PyProof.noPylong_small (by omega)) | exact Or.inr (PySem.PylongRoom.of (by first | assumption | (refine PySem.Heap.NoLimit.keeps ?_ (PyProof.Rows.Fr.keep (by assumption)); exact PyProof.Rows.Top.nolimit (by assumption))) (of_decide_eq_true (by with_unfolding_all rfl)))); k_whole; intro h' D' q' r' t1' t2' tk' F' N' l1 e1' e2' e3'; (try k_lt l1); (try k_sweep); (try dsimp only))))
  (k_with "call builtin:len" => (k_here; (with_reducible show wpAny _ _ (call (Value.builtin _) [Value.ref _]) _ _ _); k_dflt (refine' len_rangeN ?wq7zr ?wq7zl ?wq7zh ?_; (case wq7zr => assumption); (case wq7zl => exact cnt_lo (by decide) (by omega)); (case wq7zh => exact cnt_hi (by decide) (by omega) (by omega)); k_whole)))
  unfold C Ctr; k_fill
  intro dp un gd cn cs a ccd cl outer A₀ base h₀ L m news s Q E B F X N T hk hd hu hret
  have D0 : KtsDicts [] h₀ := ktsDicts_nil
  refine wpAny_call ?_
  k_dflt cell_enter
  k_steps
  all_goals (try k_data)
  all_goals (refine' endI (Q := Q) (s := s) hret ?e ?F ?N ?S; (case F => k_asm); (case N => k_asm); (case S => kcj_all); (case e => (exact ahead_is b1)))
set_option maxHeartbeats 16000000 in
theorem c_check (w : World) (mean : ExcName → Option Value) (mg mb : Str → Option Value) (y m9 d9 : Int) (t t2 t3 : Tok) (b1 : -100000 < y) (b2 : y < 100000) (b3 : -100000 < m9) (b4 : m9 < 100000) (b5 : -100000 < d9) (b6 : d9 < 100000) : C w mean mg mb 119 8 32 [.int y t, .int m9 t2, .int d9 t3] (cOrP (badC y m9 d9) (cVal fun _ _ => True)) := by
  w_top off
  k_with_none
  (k_with "call builtin:divmod" => (k_here; (with_reducible show wpAny _ _ (call (Value.builtin _) [Value.int _ _, Value.int _ _]) _ _ _); k_dflt ( (refine' divmod_G ?wq7F ?wq7N ?wq7b ?_ ?wq7hp); (case wq7F => k_asm); (case wq7N => k_asm); (case wq7b => omega); (case wq7hp => first | exact Or.inl (PyProof.noPylong_of_log2 (by decide +kernel)) | exact Or.inl (PyProof.noPylong_small (by omega)) | exact Or.inr (PySem.PylongRoom.of (by first | assumption | (refine PySem.Heap.NoLimit.keeps ?_ (PyProof.Rows.Fr.keep (by assumption)); exact PyProof.Rows.Top.nolimit (by assumption))) (of_decide_eq_true (by with_unfolding_all rfl)))); k_whole; intro h' D' q' r' t1' t2' tk' F' N' l1 e1' e2' e3'; (try k_lt l1); (try k_sweep); (try dsimp only))))
  (k_with "call builtin:len" => (k_here; (with_reducible show wpAny _ _ (call (Value.builtin _) [Value.ref _]) _ _ _); k_dflt (refine' len_rangeN ?wq7zr ?wq7zl ?wq7zh ?_; (case wq7zr => assumption); (case wq7zl => exact cnt_lo (by decide) (by omega)); (case wq7zh => exact cnt_hi (by decide) (by omega) (by omega)); k_whole)))
  (k_with "call builtin:_operator.index" => (k_here; k_dflt (refine opidx_int ?_)))
  (k_with "call ref" => (k_dflt ( (refine' use ?wq7c ?wq7k1 ?wq7k2 ?wq7k3 ?wq7k4 ?wq7k5 ?wq7k6 ?wq7k7 ?wq7k8 ?_); (case wq7k2 => k_asm); (case wq7k1 => k_asm); (case wq7k3 => k_asm); (case wq7k4 => k_asm); (case wq7k5 => k_asm); (case wq7c => first  | exact c_dim _ _ _ _ _ _ _ _ (by omega) (by omega)); (case wq7k6 => first | exact rfl | assumption); (case wq7k7 => ktr_room); (case wq7k8 => ktr_units); (refine with_dim (by omega) (by omega) ?_; intro dlo9 dhi9; intro t9 h9 tk9 F9 N9; (try dsimp only); (try k_fold)))))
  unfold C Ctr; k_fill
  intro dp un gd cn cs a ccd cl outer A₀ base h₀ L m news s Q E B F X N T hk hd hu hret
  have D0 : KtsDicts [] h₀ := ktsDicts_nil
  refine wpAny_call ?_
  k_dflt cell_enter
  k_steps
  all_goals (try k_data)
  all_goals first
  | (refine' endXP (Q := Q) (E := E) (s := s) (hret.1 _ ?zr) ?zev ?zR ?zF ?zU ?zS; (case zR => assumption); (case zF => assumption); (case zU => assumption); (case zr => first | exact bc_y (y := y) (m := m9) (d := d9) (by omega) | exact bc_m (y := y) (m := m9) (d := d9) (by omega) (by omega) (by omega) | exact bc_d (y := y) (m := m9) (d := d9) (by omega) (by omega) (by omega) (by omega) (by omega)); (case zS => kcj_all); (case zev => (exact ⟨_, _, rfl⟩)))
  | (refine' endVal (Q := Q) (s := s) (hret.2 (bc_ok (by omega) (by omega) (by omega) (by omega) (by omega) (by omega))) ?ze ?zF ?zN ?zS; (case ze => (trivial)); (case zF => k_asm); (case zN => k_asm); (case zS => kcj_all))
set_option maxHeartbeats 16000000 in
theorem c_ofmonth (w : World) (mean : ExcName → Option Value) (mg mb : Str → Option Value) (y m9 d9 : Int) (t t2 t3 : Tok) (b1 : 0 ≤ y) (b2 : y ≤ 9999) (b3 : 0 ≤ m9) (b4 : m9 < 100) (b5 : 0 ≤ d9) (b6 : d9 < 100) : C w mean mg mb 147 16 64 [.int y t, .int m9 t2, .int d9 t3] (cVal (IsDue (dueM y m9 d9))) := by
  w_top off
  k_with_none
  (k_with "call builtin:divmod" => (k_here; (with_reducible show wpAny _ _ (call (Value.builtin _) [Value.int _ _, Value.int _ _]) _ _ _); k_dflt ( (refine' divmod_G ?wq7F ?wq7N ?wq7b ?_ ?wq7hp); (case wq7F => k_asm); (case wq7N => k_asm); (case wq7b => omega); (case wq7hp => first | exact Or.inl (PyProof.noPylong_of_log2 (by decide +kernel)) | exact Or.inl (PyProof.noPylong_small (by omega)) | exact Or.inr (PySem.PylongRoom.of (by first | assumption | (refine PySem.Heap.NoLimit.keeps ?_ (PyProof.Rows.Fr.keep (by assumption)); exact PyProof.Rows.Top.nolimit (by assumption))) (of_decide_eq_true (by with_unfolding_all rfl)))); k_whole; intro h' D' q' r' t1' t2' tk' F' N' l1 e1' e2' e3'; (try k_lt l1); (try k_sweep); (try dsimp only))))
  (k_with "call builtin:len" => (k_here; (with_reducible show wpAny _ _ (call (Value.builtin _) [Value.ref _]) _ _ _); k_dflt (refine' len_rangeN ?wq7zr ?wq7zl ?wq7zh ?_; (case wq7zr => assumption); (case wq7zl => exact cnt_lo (by decide) (by omega)); (case wq7zh => exact cnt_hi (by decide) (by omega) (by omega)); k_whole)))
  (k_with "call builtin:_operator.index" => (k_here; k_dflt (refine opidx_int ?_)))
  (k_with "call ref" => (k_dflt ( (refine' use ?wq7c ?wq7k1 ?wq7k2 ?wq7k3 ?wq7k4 ?wq7k5 ?wq7k6 ?wq7k7 ?wq7k8 ?_); (case wq7k2 => k_asm); (case wq7k1 => k_asm); (case wq7k3 => k_asm); (case wq7k4 => k_asm); (case wq7k5 => k_asm); (case wq7c => first  | exact c_dim _ _ _ _ _ _ _ _ (by omega) (by omega)); (case wq7k6 => first | exact rfl | assumption); (case wq7k7 => ktr_room); (case wq7k8 => ktr_units); (refine with_dim (by omega) (by omega) ?_; intro dlo9 dhi9; intro t9 h9 tk9 F9 N9; (try dsimp only); (try k_fold)))))
  (k_with "call ref" => (k_dflt ( (refine' use ?wq7c ?wq7k1 ?wq7k2 ?wq7k3 ?wq7k4 ?wq7k5 ?wq7k6 ?wq7k7 ?wq7k8 ?_); (case wq7k2 => k_asm); (case wq7k1 => k_asm); (case wq7k3 => k_asm); (case wq7k4 => k_asm); (case wq7k5 => k_asm); (case wq7c => first  | exact c_ahead _ _ _ _ _ _ (by omega) (by omega)); (case wq7k6 => first | exact rfl | assumption); (case wq7k7 => ktr_room); (case wq7k8 => ktr_units); (intro t9 h9 tk9 F9 N9; (try dsimp only); (try k_fold)))))
  (k_with "joinParts" => (k_here; (first | (with_reducible show wpAny _ _ (joinParts _ []) _ _ _) | (with_reducible show wpAny _ _ (joinParts _ (evalEach [] _)) _ _ _)); (try (with_reducible refine joinParts_nilE ?_)); (with_reducible refine' joinParts_nil ?_ ?wq7z); (case wq7z => first | ((with_reducible refine fit1 ?_) <;> (first | ((with_reducible refine leafI ?_ ?_) <;> k_dflt omega) | ((with_reducible refine leafL ?_); k_dflt (decide +kernel)) | (with_reducible exact leafS (by assumption) (by decide)))) | ((with_reducible refine fit2 ?_ ?_) <;> (first | ((with_reducible refine leafI ?_ ?_) <;> k_dflt omega) | ((with_reducible refine leafL ?_); k_dflt (decide +kernel)) | (with_reducible exact leafS (by assumption) (by decide)))) | ((with_reducible refine fit3 ?_ ?_ ?_) <;> (first | ((with_reducible refine leafI ?_ ?_) <;> k_dflt omega) | ((with_reducible refine leafL ?_); k_dflt (decide +kernel)) | (with_reducible exact leafS (by assumption) (by decide)))) | ((with_reducible refine fit4 ?_ ?_ ?_ ?_) <;> (first | ((with_reducible refine leafI ?_ ?_) <;> k_dflt omega) | ((with_reducible refine leafL ?_); k_dflt (decide +kernel)) | (with_reducible exact leafS (by assumption) (by decide)))) | ((with_reducible refine fit5 ?_ ?_ ?_ ?_ ?_) <;> (first | ((with_reducible refine leafI ?_ ?_) <;> k_dflt omega) | ((with_reducible refine leafL ?_); k_dflt (decide +kernel)) | (with_reducible exact leafS (by assumption) (by decide)))) | ((with_reducible refine fit6 ?_ ?_ ?_ ?_ ?_ ?_) <;> (first | ((with_reducible refine leafI ?_ ?_) <;> k_dflt omega) | ((with_reducible refine leafL ?_); k_dflt (decide +kernel)) | (with_reducible exact leafS (by assumption) (by decide)))) | ((with_reducible refine fit7 ?_ ?_ ?_ ?_ ?_ ?_ ?_) <;> (first | ((with_reducible refine leafI ?_ ?_) <;> k_dflt omega) | ((with_reducible refine leafL ?_); k_dflt (decide +kernel)) | (with_reducible exact leafS (by assumption) (by decide)))))))
  (k_with "formatField int" => (k_here; (with_reducible show wpAny _ _ (formatField (Value.int _ _) PySem.Str.empty) _ _ _); k_dflt (refine wpAny_formatField_int (log_small (by omega) (by omega)) ?_)))
  (k_with "formatField int" => (k_here; (with_reducible show wpAny _ _ (formatField (Value.int _ _) (PySem.Str.ofString _)) _ _ _); k_dflt ((refine' KXf.field_sym (Heap.NoDigits.keeps (Top.nodigits ?wq7T) (Fr.keep ?wq7F)) ?wq7a ?wq7b ?wq7c ?wq7d ?wq7e ?_); (case wq7F => k_asm); (case wq7T => k_asm); (case wq7c => decide +kernel); (case wq7d => kxf_nat); (case wq7e => decide +kernel); (case wq7a => omega); (case wq7b => omega)); intro _ _ kxfF kxfLo kxfHi))
  (k_with "formatField int" => (k_here; (with_reducible show wpAny _ _ (formatField (Value.int (List.getD _ _ _) _) PySem.Str.empty) _ _ _); k_dflt ((refine' fmt_lens ?wq7zl ?wq7zh ?_); (case wq7zl => omega); (case wq7zh => omega)); intro dlo9 dhi9))
  unfold C Ctr; k_fill
  intro dp un gd cn cs a ccd cl outer A₀ base h₀ L m news s Q E B F X N T hk hd hu hret
  have D0 : KtsDicts [] h₀ := ktsDicts_nil
  refine wpAny_call ?_
  k_dflt cell_enter
  k_steps
  all_goals (try k_data)
  all_goals first
  | (refine' endVal (Q := Q) (s := s) (hret) ?ze ?zF ?zN ?zS; (case ze => (exact dm_num (by omega) (by omega) (by omega) (by omega) (by assumption) rfl)); (case zF => k_asm); (case zN => k_asm); (case zS => kcj_all))
  | (refine' endVal1 (Q := Q) (s := s) (hret) ?zN ?ze ?zF ?zS ?zlt; (case zN => k_asm); (case ze => (exact dm_year (by omega))); (case zF => k_asm); (case zS => kcj_all); (case zlt => first | assumption | exact lt0 (by assumption) | exact lt1 (by assumption) | exact lt2 (by assumption) | exact lt3 (by assumption) | exact lt4 (by assumption) | exact lt5 (by assumption) | exact lt6 (by assumption)))
  | (refine' endVal1 (Q := Q) (s := s) (hret) ?zN ?ze ?zF ?zS ?zlt; (case zN => k_asm); (case ze => (exact dm_month (by omega) (by omega))); (case zF => k_asm); (case zS => kcj_all); (case zlt => first | assumption | exact lt0 (by assumption) | exact lt1 (by assumption) | exact lt2 (by assumption) | exact lt3 (by assumption) | exact lt4 (by assumption) | exact lt5 (by assumption) | exact lt6 (by assumption)))
  | (refine' endVal1 (Q := Q) (s := s) (hret) ?zN ?ze ?zF ?zS ?zlt; (case zN => k_asm); (case ze => (exact dm_day (by omega) (by omega) (by omega) (by rw [← lens_is (by omega) (by omega)]; omega))); (case zF => k_asm); (case zS => kcj_all); (case zlt => first | assumption | exact lt0 (by assumption) | exact lt1 (by assumption) | exact lt2 (by assumption) | exact lt3 (by assumption) | exact lt4 (by assumption) | exact lt5 (by assumption) | exact lt6 (by assumption)))
set_option maxHeartbeats 16000000 in
theorem c_ofweek (w : World) (mean : ExcName → Option Value) (mg mb : Str → Option Value) (y w9 d9 : Int) (t t2 t3 : Tok) (b1 : 0 ≤ y) (b2 : y ≤ 9999) (b3 : 0 ≤ w9) (b4 : w9 < 100) (b5 : 0 ≤ d9) (b6 : d9 < 100) : C w mean mg mb 154 16 64 [.int y t, .int w9 t2, .int d9 t3] (cVal (IsDue (dueW y w9 d9))) := by
  w_top off
  k_with_none
  (k_with "call builtin:divmod" => (k_here; (with_reducible show wpAny _ _ (call (Value.builtin _) [Value.int _ _, Value.int _ _]) _ _ _); k_dflt ( (refine' divmod_G ?wq7F ?wq7N ?wq7b ?_ ?wq7hp); (case wq7F => k_asm); (case wq7N => k_asm); (case wq7b => omega); (case wq7hp => first | exact Or.inl (PyProof.noPylong_of_log2 (by decide +kernel)) | exact Or.inl (PyProof.noPylong_small (by omega)) | exact Or.inr (PySem.PylongRoom.of (by first | assumption | (refine PySem.Heap.NoLimit.keeps ?_ (PyProof.Rows.Fr.keep (by assumption)); exact PyProof.Rows.Top.nolimit (by assumption))) (of_decide_eq_true (by with_unfolding_all rfl)))); k_whole; intro h' D' q' r' t1' t2' tk' F' N' l1 e1' e2' e3'; (try k_lt l1); (try k_sweep); (try dsimp only))))
  (k_with "call builtin:len" => (k_here; (with_reducible show wpAny _ _ (call (Value.builtin _) [Value.ref _]) _ _ _); k_dflt (refine' len_rangeN ?wq7zr ?wq7zl ?wq7zh ?_; (case wq7zr => assumption); (case wq7zl => exact cnt_lo (by decide) (by omega)); (case wq7zh => exact cnt_hi (by decide) (by omega) (by omega)); k_whole)))
  (k_with "call builtin:_operator.index" => (k_here; k_dflt (refine opidx_int ?_)))
  (k_with "call ref" => (k_dflt ( (refine' use ?wq7c ?wq7k1 ?wq7k2 ?wq7k3 ?wq7k4 ?wq7k5 ?wq7k6 ?wq7k7 ?wq7k8 ?_); (case wq7k2 => k_asm); (case wq7k1 => k_asm); (case wq7k3 => k_asm); (case wq7k4 => k_asm); (case wq7k5 => k_asm); (case wq7c => first  | exact c_dim _ _ _ _ _ _ _ _ (by omega) (by omega)); (case wq7k6 => first | exact rfl | assumption); (case wq7k7 => ktr_room); (case wq7k8 => ktr_units); (refine with_dim (by omega) (by omega) ?_; intro dlo9 dhi9; intro t9 h9 tk9 F9 N9; (try dsimp only); (try k_fold)))))
  (k_with "call ref" => (k_dflt ( (refine' use ?wq7c ?wq7k1 ?wq7k2 ?wq7k3 ?wq7k4 ?wq7k5 ?wq7k6 ?wq7k7 ?wq7k8 ?_); (case wq7k2 => k_asm); (case wq7k1 => k_asm); (case wq7k3 => k_asm); (case wq7k4 => k_asm); (case wq7k5 => k_asm); (case wq7c => first  | exact c_ahead _ _ _ _ _ _ (by omega) (by omega)); (case wq7k6 => first | exact rfl | assumption); (case wq7k7 => ktr_room); (case wq7k8 => ktr_units); (intro t9 h9 tk9 F9 N9; (try dsimp only); (try k_fold)))))
  (k_with "joinParts" => (k_here; (first | (with_reducible show wpAny _ _ (joinParts _ []) _ _ _) | (with_reducible show wpAny _ _ (joinParts _ (evalEach [] _)) _ _ _)); (try (with_reducible refine joinParts_nilE ?_)); (with_reducible refine' joinParts_nil ?_ ?wq7z); (case wq7z => first | ((with_reducible refine fit1 ?_) <;> (first | ((with_reducible refine leafI ?_ ?_) <;> k_dflt omega) | ((with_reducible refine leafL ?_); k_dflt (decide +kernel)) | (with_reducible exact leafS (by assumption) (by decide)))) | ((with_reducible refine fit2 ?_ ?_) <;> (first | ((with_reducible refine leafI ?_ ?_) <;> k_dflt omega) | ((with_reducible refine leafL ?_); k_dflt (decide +kernel)) | (with_reducible exact leafS (by assumption) (by decide)))) | ((with_reducible refine fit3 ?_ ?_ ?_) <;> (first | ((with_reducible refine leafI ?_ ?_) <;> k_dflt omega) | ((with_reducible refine leafL ?_); k_dflt (decide +kernel)) | (with_reducible exact leafS (by assumption) (by decide)))) | ((with_reducible refine fit4 ?_ ?_ ?_ ?_) <;> (first | ((with_reducible refine leafI ?_ ?_) <;> k_dflt omega) | ((with_reducible refine leafL ?_); k_dflt (decide +kernel)) | (with_reducible exact leafS (by assumption) (by decide)))) | ((with_reducible refine fit5 ?_ ?_ ?_ ?_ ?_) <;> (first | ((with_reducible refine leafI ?_ ?_) <;> k_dflt omega) | ((with_reducible refine leafL ?_); k_dflt (decide +kernel)) | (with_reducible exact leafS (by assumption) (by decide)))) | ((with_reducible refine fit6 ?_ ?_ ?_ ?_ ?_ ?_) <;> (first | ((with_reducible refine leafI ?_ ?_) <;> k_dflt omega) | ((with_reducible refine leafL ?_); k_dflt (decide +kernel)) | (with_reducible exact leafS (by assumption) (by decide)))) | ((with_reducible refine fit7 ?_ ?_ ?_ ?_ ?_ ?_ ?_) <;> (first | ((with_reducible refine leafI ?_ ?_) <;> k_dflt omega) | ((with_reducible refine leafL ?_); k_dflt (decide +kernel)) | (with_reducible exact leafS (by assumption) (by decide)))))))
  (k_with "formatField int" => (k_here; (with_reducible show wpAny _ _ (formatField (Value.int _ _) PySem.Str.empty) _ _ _); k_dflt (refine wpAny_formatField_int (log_small (by omega) (by omega)) ?_)))
  (k_with "formatField int" => (k_here; (with_reducible show wpAny _ _ (formatField (Value.int _ _) (PySem.Str.ofString _)) _ _ _); k_dflt ((refine' KXf.field_sym (Heap.NoDigits.keeps (Top.nodigits ?wq7T) (Fr.keep ?wq7F)) ?wq7a ?wq7b ?wq7c ?wq7d ?wq7e ?_); (case wq7F => k_asm); (case wq7T => k_asm); (case wq7c => decide +kernel); (case wq7d => kxf_nat); (case wq7e => decide +kernel); (case wq7a => omega); (case wq7b => omega)); intro _ _ kxfF kxfLo kxfHi))
  (k_with "formatField int" => (k_here; (with_reducible show wpAny _ _ (formatField (Value.int (List.getD _ _ _) _) PySem.Str.empty) _ _ _); k_dflt ((refine' fmt_lens ?wq7zl ?wq7zh ?_); (case wq7zl => omega); (case wq7zh => omega)); intro dlo9 dhi9))
  (k_with "call ref" => (k_dflt ( (refine' use ?wq7c ?wq7k1 ?wq7k2 ?wq7k3 ?wq7k4 ?wq7k5 ?wq7k6 ?wq7k7 ?wq7k8 ?_); (case wq7k2 => k_asm); (case wq7k1 => k_asm); (case wq7k3 => k_asm); (case wq7k4 => k_asm); (case wq7k5 => k_asm); (case wq7c => first  | exact c_ahead _ _ _ _ _ _ (by omega) (by omega)); (case wq7k6 => first | exact rfl | assumption); (case wq7k7 => ktr_room); (case wq7k8 => ktr_units); (intro t9 h9 tk9 F9 N9; (try dsimp only); (try k_fold)))))
  (k_with "joinParts" => (k_here; (first | (with_reducible show wpAny _ _ (joinParts _ []) _ _ _) | (with_reducible show wpAny _ _ (joinParts _ (evalEach [] _)) _ _ _)); (try (with_reducible refine joinParts_nilE ?_)); (with_reducible refine' joinParts_nil ?_ ?wq7z); (case wq7z => first | ((with_reducible refine fit1 ?_) <;> (first | ((with_reducible refine leafI ?_ ?_) <;> k_dflt omega) | ((with_reducible refine leafL ?_); k_dflt (decide +kernel)) | (with_reducible exact leafS (by assumption) (by decide)))) | ((with_reducible refine fit2 ?_ ?_) <;> (first | ((with_reducible refine leafI ?_ ?_) <;> k_dflt omega) | ((with_reducible refine leafL ?_); k_dflt (decide +kernel)) | (with_reducible exact leafS (by assumption) (by decide)))) | ((with_reducible refine fit3 ?_ ?_ ?_) <;> (first | ((with_reducible refine leafI ?_ ?_) <;> k_dflt omega) | ((with_reducible refine leafL ?_); k_dflt (decide +kernel)) | (with_reducible exact leafS (by assumption) (by decide)))) | ((with_reducible refine fit4 ?_ ?_ ?_ ?_) <;> (first | ((with_reducible refine leafI ?_ ?_) <;> k_dflt omega) | ((with_reducible refine leafL ?_); k_dflt (decide +kernel)) | (with_reducible exact leafS (by assumption) (by decide)))) | ((with_reducible refine fit5 ?_ ?_ ?_ ?_ ?_) <;> (first | ((with_reducible refine leafI ?_ ?_) <;> k_dflt omega) | ((with_reducible refine leafL ?_); k_dflt (decide +kernel)) | (with_reducible exact leafS (by assumption) (by decide)))) | ((with_reducible refine fit6 ?_ ?_ ?_ ?_ ?_ ?_) <;> (first | ((with_reducible refine leafI ?_ ?_) <;> k_dflt omega) | ((with_reducible refine leafL ?_); k_dflt (decide +kernel)) | (with_reducible exact leafS (by assumption) (by decide)))) | ((with_reducible refine fit7 ?_ ?_ ?_ ?_ ?_ ?_ ?_) <;> (first | ((with_reducible refine leafI ?_ ?_) <;> k_dflt omega) | ((with_reducible refine leafL ?_); k_dflt (decide +kernel)) | (with_reducible exact leafS (by assumption) (by decide)))))))
  (k_with "formatField int" => (k_here; (with_reducible show wpAny _ _ (formatField (Value.int _ _) PySem.Str.empty) _ _ _); k_dflt (refine wpAny_formatField_int (log_small (by omega) (by omega)) ?_)))
  (k_with "formatField int" => (k_here; (with_reducible show wpAny _ _ (formatField (Value.int _ _) (PySem.Str.ofString _)) _ _ _); k_dflt ((refine' KXf.field_sym (Heap.NoDigits.keeps (Top.nodigits ?wq7T) (Fr.keep ?wq7F)) ?wq7a ?wq7b ?wq7c ?wq7d ?wq7e ?_); (case wq7F => k_asm); (case wq7T => k_asm); (case wq7c => decide +kernel); (case wq7d => kxf_nat); (case wq7e => decide +kernel); (case wq7a => omega); (case wq7b => omega)); intro _ _ kxfF kxfLo kxfHi))
  unfold C Ctr; k_fill
  intro dp un gd cn cs a ccd cl outer A₀ base h₀ L m news s Q E B F X N T hk hd hu hret
  have D0 : KtsDicts [] h₀ := ktsDicts_nil
  refine wpAny_call ?_
  k_dflt cell_enter
  k_steps
  all_goals (try k_data)
  all_goals first
  | (refine' endVal (Q := Q) (s := s) (hret) ?ze ?zF ?zN ?zS; (case ze => (((with_reducible refine dw_num ?_ ?_ ?_ ?_ ?_ ?_ ?_) <;> (first | with_reducible assumption | k_dflt omega | with_reducible rfl)))); (case zF => k_asm); (case zN => k_asm); (case zS => kcj_all))
  | (refine' endVal1 (Q := Q) (s := s) (hret) ?zN ?ze ?zF ?zS ?zlt; (case zN => k_asm); (case ze => (((with_reducible refine dw_year ?_) <;> (first | with_reducible assumption | k_dflt omega | with_reducible rfl)))); (case zF => k_asm); (case zS => kcj_all); (case zlt => first | assumption | exact lt0 (by assumption) | exact lt1 (by assumption) | exact lt2 (by assumption) | exact lt3 (by assumption) | exact lt4 (by assumption) | exact lt5 (by assumption) | exact lt6 (by assumption)))
  | (refine' endVal1 (Q := Q) (s := s) (hret) ?zN ?ze ?zF ?zS ?zlt; (case zN => k_asm); (case ze => (((with_reducible refine dw_weekA ?_ ?_) <;> (first | with_reducible assumption | k_dflt omega | with_reducible rfl)))); (case zF => k_asm); (case zS => kcj_all); (case zlt => first | assumption | exact lt0 (by assumption) | exact lt1 (by assumption) | exact lt2 (by assumption) | exact lt3 (by assumption) | exact lt4 (by assumption) | exact lt5 (by assumption) | exact lt6 (by assumption)))
  | (refine' endVal1 (Q := Q) (s := s) (hret) ?zN ?ze ?zF ?zS ?zlt; (case zN => k_asm); (case ze => (((with_reducible refine dw_weekB ?_ ?_) <;> (first | with_reducible assumption | k_dflt omega | with_reducible rfl)))); (case zF => k_asm); (case zS => kcj_all); (case zlt => first | assumption | exact lt0 (by assumption) | exact lt1 (by assumption) | exact lt2 (by assumption) | exact lt3 (by assumption) | exact lt4 (by assumption) | exact lt5 (by assumption) | exact lt6 (by assumption)))
  | (refine' endVal1 (Q := Q) (s := s) (hret) ?zN ?ze ?zF ?zS ?zlt; (case zN => k_asm); (case ze => (((with_reducible refine dw_day ?_ ?_ ?_ ?_) <;> (first | with_reducible assumption | k_dflt omega | with_reducible rfl)))); (case zF => k_asm); (case zS => kcj_all); (case zlt => first | assumption | exact lt0 (by assumption) | exact lt1 (by assumption) | exact lt2 (by assumption) | exact lt3 (by assumption) | exact lt4 (by assumption) | exact lt5 (by assumption) | exact lt6 (by assumption)))
  | (refine' endVal1 (Q := Q) (s := s) (hret) ?zN ?ze ?zF ?zS ?zlt; (case zN => k_asm); (case ze => (((with_reducible refine dw_far ?_ ?_ ?_ ?_ ?_ ?_) <;> (first | with_reducible assumption | k_dflt omega | with_reducible rfl)))); (case zF => k_asm); (case zS => kcj_all); (case zlt => first | assumption | exact lt0 (by assumption) | exact lt1 (by assumption) | exact lt2 (by assumption) | exact lt3 (by assumption) | exact lt4 (by assumption) | exact lt5 (by assumption) | exact lt6 (by assumption)))
end Mine
end
section
namespace Mine
set_option maxHeartbeats 16000000 in
theorem c_entry (w : World) (mean : ExcName → Option Value) (mg mb : Str → Option Value) (n ways : Int) (t t2 : Tok) (last : Bool) (b1 : 6 ≤ ways) (b2 : ways ≤ 9) (hla : LastOk ways last) : C w mean mg mb 161 24 96 [.int n t, .int ways t2] (cVal (IsEnt last)) := by
  w_top off
  k_with_none
  (k_with "call builtin:divmod" => (k_here; (with_reducible show wpAny _ _ (call (Value.builtin _) [Value.int _ _, Value.int _ _]) _ _ _); k_dflt ( (refine' divmod_G ?wq7F ?wq7N ?wq7b ?_ ?wq7hp); (case wq7F => k_asm); (case wq7N => k_asm); (case wq7b => omega); (case wq7hp => first | exact Or.inl (PyProof.noPylong_of_log2 (by decide +kernel)) | exact Or.inl (PyProof.noPylong_small (by omega)) | exact Or.inr (PySem.PylongRoom.of (by first | assumption | (refine PySem.Heap.NoLimit.keeps ?_ (PyProof.Rows.Fr.keep (by assumption)); exact PyProof.Rows.Top.nolimit (by assumption))) (of_decide_eq_true (by with_unfolding_all rfl)))); k_whole; intro h' D' q' r' t1' t2' tk' F' N' l1 e1' e2' e3'; (try k_lt l1); (try k_sweep); (try dsimp only))))
  (k_with "binaryOp Mod int int" => (k_here; k_dflt (refine mod_gen (by first | decide | omega) ?_; intro r9 req9 rlo9 rhi9)))
  (k_with "inplaceOp Mod int int" => (k_here; k_dflt (refine imod_gen (by first | decide | omega) ?_; intro r9 req9 rlo9 rhi9)))
  (k_with "joinParts" => (k_here; (first | (with_reducible show wpAny _ _ (joinParts _ []) _ _ _) | (with_reducible show wpAny _ _ (joinParts _ (evalEach [] _)) _ _ _)); (try (with_reducible refine joinParts_nilE ?_)); (with_reducible refine' joinParts_nil ?_ ?wq7z); (case wq7z => first | ((with_reducible refine fit1 ?_) <;> (first | ((with_reducible refine leafI ?_ ?_) <;> k_dflt omega) | ((with_reducible refine leafL ?_); k_dflt (decide +kernel)) | (with_reducible exact leafS (by assumption) (by decide)))) | ((with_reducible refine fit2 ?_ ?_) <;> (first | ((with_reducible refine leafI ?_ ?_) <;> k_dflt omega) | ((with_reducible refine leafL ?_); k_dflt (decide +kernel)) | (with_reducible exact leafS (by assumption) (by decide)))) | ((with_reducible refine fit3 ?_ ?_ ?_) <;> (first | ((with_reducible refine leafI ?_ ?_) <;> k_dflt omega) | ((with_reducible refine leafL ?_); k_dflt (decide +kernel)) | (with_reducible exact leafS (by assumption) (by decide)))) | ((with_reducible refine fit4 ?_ ?_ ?_ ?_) <;> (first | ((with_reducible refine leafI ?_ ?_) <;> k_dflt omega) | ((with_reducible refine leafL ?_); k_dflt (decide +kernel)) | (with_reducible exact leafS (by assumption) (by decide)))) | ((with_reducible refine fit5 ?_ ?_ ?_ ?_ ?_) <;> (first | ((with_reducible refine leafI ?_ ?_) <;> k_dflt omega) | ((with_reducible refine leafL ?_); k_dflt (decide +kernel)) | (with_reducible exact leafS (by assumption) (by decide)))) | ((with_reducible refine fit6 ?_ ?_ ?_ ?_ ?_ ?_) <;> (first | ((with_reducible refine leafI ?_ ?_) <;> k_dflt omega) | ((with_reducible refine leafL ?_); k_dflt (decide +kernel)) | (with_reducible exact leafS (by assumption) (by decide)))) | ((with_reducible refine fit7 ?_ ?_ ?_ ?_ ?_ ?_ ?_) <;> (first | ((with_reducible refine leafI ?_ ?_) <;> k_dflt omega) | ((with_reducible refine leafL ?_); k_dflt (decide +kernel)) | (with_reducible exact leafS (by assumption) (by decide)))))))
  (k_with "formatField int" => (k_here; (with_reducible show wpAny _ _ (formatField (Value.int _ _) PySem.Str.empty) _ _ _); k_dflt (refine wpAny_formatField_int (log_small (by omega) (by omega)) ?_)))
  (k_with "formatField int" => (k_here; (with_reducible show wpAny _ _ (formatField (Value.int _ _) (PySem.Str.ofString _)) _ _ _); k_dflt ((refine' KXf.field_sym (Heap.NoDigits.keeps (Top.nodigits ?wq7T) (Fr.keep ?wq7F)) ?wq7a ?wq7b ?wq7c ?wq7d ?wq7e ?_); (case wq7F => k_asm); (case wq7T => k_asm); (case wq7c => decide +kernel); (case wq7d => kxf_nat); (case wq7e => decide +kernel); (case wq7a => omega); (case wq7b => omega)); intro _ _ kxfF kxfLo kxfHi))
  (k_with "call ref" => (k_dflt ( (refine' use ?wq7c ?wq7k1 ?wq7k2 ?wq7k3 ?wq7k4 ?wq7k5 ?wq7k6 ?wq7k7 ?wq7k8 ?_); (case wq7k2 => k_asm); (case wq7k1 => k_asm); (case wq7k3 => k_asm); (case wq7k4 => k_asm); (case wq7k5 => k_asm); (case wq7c => first  | exact c_ofmonth _ _ _ _ _ _ _ _ _ _ (by omega) (by omega) (by omega) (by omega) (by omega) (by omega) | exact c_ofweek _ _ _ _ _ _ _ _ _ _ (by omega) (by omega) (by omega) (by omega) (by omega) (by omega)); (case wq7k6 => first | exact rfl | assumption); (case wq7k7 => ktr_room); (case wq7k8 => ktr_units); (intro v9 new9 h9 tk9 P9 fr9 F9 N9; (try simp only [List.cons_append, List.nil_append] at N9); (try dsimp only); (try k_fold)))))
  unfold C Ctr; k_fill
  intro dp un gd cn cs a ccd cl outer A₀ base h₀ L m news s Q E B F X N T hk hd hu hret
  have D0 : KtsDicts [] h₀ := ktsDicts_nil
  refine wpAny_call ?_
  k_dflt cell_enter
  k_steps
  all_goals (try k_data)
  all_goals first
  | (exfalso; omega)
  | (with_reducible refine' endEnt_md (Q := Q) (s := s) hret ?zF ?zN ?zP ?zT ?zL ?zb0 ?zb1 ?zb2 ?z9 ?zs ?zlD ?zll ?zl9; (case zF => k_asm); (case zN => k_asm); (case zT => (repeat (first | (with_reducible exact List.mem_cons_self) | (with_reducible refine List.mem_cons_of_mem _ ?_)))); (case zP => with_reducible assumption); (case zL => (repeat (first | (with_reducible exact List.mem_cons_self) | (with_reducible refine List.mem_cons_of_mem _ ?_)))); (case zb0 => exact ⟨by k_dflt omega, by k_dflt omega⟩); (case zb1 => exact ⟨by k_dflt omega, by k_dflt omega⟩); (case zb2 => exact ⟨by k_dflt omega, by k_dflt omega⟩); (case z9 => kcf_all); (case zs => kcf_all); (case zlD => first | with_reducible assumption | exact lt0 (by with_reducible assumption) | exact lt0 (And.right (by with_reducible assumption)) | exact lt0 (And.right (And.right (by with_reducible assumption))) | exact lt0 (And.right (And.right (And.right (by with_reducible assumption)))) | exact lt0 (And.right (And.right (And.right (And.right (by with_reducible assumption))))) | exact lt0 (And.right (And.right (And.right (And.right (And.right (by with_reducible assumption)))))) | exact lt0 (And.right (And.right (And.right (And.right (And.right (And.right (by with_reducible assumption))))))) | exact lt0 (And.right (And.right (And.right (And.right (And.right (And.right (And.right (by with_reducible assumption)))))))) | exact ltX (by with_reducible assumption) | exact ltX (And.right (by with_reducible assumption)) | exact ltX (And.right (And.right (by with_reducible assumption))) | exact ltX (And.right (And.right (And.right (by with_reducible assumption)))) | exact ltX (And.right (And.right (And.right (And.right (by with_reducible assumption))))) | exact ltX (And.right (And.right (And.right (And.right (And.right (by with_reducible assumption)))))) | exact ltX (And.right (And.right (And.right (And.right (And.right (And.right (by with_reducible assumption))))))) | exact ltX (And.right (And.right (And.right (And.right (And.right (And.right (And.right (by with_reducible assumption))))))))); (case zll => first | with_reducible assumption | exact lt0 (by with_reducible assumption) | exact lt0 (And.right (by with_reducible assumption)) | exact lt0 (And.right (And.right (by with_reducible assumption))) | exact lt0 (And.right (And.right (And.right (by with_reducible assumption)))) | exact lt0 (And.right (And.right (And.right (And.right (by with_reducible assumption))))) | exact lt0 (And.right (And.right (And.right (And.right (And.right (by with_reducible assumption)))))) | exact lt0 (And.right (And.right (And.right (And.right (And.right (And.right (by with_reducible assumption))))))) | exact lt0 (And.right (And.right (And.right (And.right (And.right (And.right (And.right (by with_reducible assumption)))))))) | exact ltX (by with_reducible assumption) | exact ltX (And.right (by with_reducible assumption)) | exact ltX (And.right (And.right (by with_reducible assumption))) | exact ltX (And.right (And.right (And.right (by with_reducible assumption)))) | exact ltX (And.right (And.right (And.right (And.right (by with_reducible assumption))))) | exact ltX (And.right (And.right (And.right (And.right (And.right (by with_reducible assumption)))))) | exact ltX (And.right (And.right (And.right (And.right (And.right (And.right (by with_reducible assumption))))))) | exact ltX (And.right (And.right (And.right (And.right (And.right (And.right (And.right (by with_reducible assumption))))))))); (case zl9 => (refine fr_sub (by with_reducible assumption) ?_; kcf_all)))
  | (with_reducible refine' endEnt_mc (Q := Q) (s := s) hret ?zF ?zN ?zP ?zT ?zL ?zb0 ?zb1 ?zb2 ?z9 ?zs ?zlD ?zll ?zl9; (case zF => k_asm); (case zN => k_asm); (case zT => (repeat (first | (with_reducible exact List.mem_cons_self) | (with_reducible refine List.mem_cons_of_mem _ ?_)))); (case zP => with_reducible assumption); (case zL => (repeat (first | (with_reducible exact List.mem_cons_self) | (with_reducible refine List.mem_cons_of_mem _ ?_)))); (case zb0 => exact ⟨by k_dflt omega, by k_dflt omega⟩); (case zb1 => exact ⟨by k_dflt omega, by k_dflt omega⟩); (case zb2 => exact ⟨by k_dflt omega, by k_dflt omega⟩); (case z9 => kcf_all); (case zs => kcf_all); (case zlD => first | with_reducible assumption | exact lt0 (by with_reducible assumption) | exact lt0 (And.right (by with_reducible assumption)) | exact lt0 (And.right (And.right (by with_reducible assumption))) | exact lt0 (And.right (And.right (And.right (by with_reducible assumption)))) | exact lt0 (And.right (And.right (And.right (And.right (by with_reducible assumption))))) | exact lt0 (And.right (And.right (And.right (And.right (And.right (by with_reducible assumption)))))) | exact lt0 (And.right (And.right (And.right (And.right (And.right (And.right (by with_reducible assumption))))))) | exact lt0 (And.right (And.right (And.right (And.right (And.right (And.right (And.right (by with_reducible assumption)))))))) | exact ltX (by with_reducible assumption) | exact ltX (And.right (by with_reducible assumption)) | exact ltX (And.right (And.right (by with_reducible assumption))) | exact ltX (And.right (And.right (And.right (by with_reducible assumption)))) | exact ltX (And.right (And.right (And.right (And.right (by with_reducible assumption))))) | exact ltX (And.right (And.right (And.right (And.right (And.right (by with_reducible assumption)))))) | exact ltX (And.right (And.right (And.right (And.right (And.right (And.right (by with_reducible assumption))))))) | exact ltX (And.right (And.right (And.right (And.right (And.right (And.right (And.right (by with_reducible assumption))))))))); (case zll => first | with_reducible assumption | exact lt0 (by with_reducible assumption) | exact lt0 (And.right (by with_reducible assumption)) | exact lt0 (And.right (And.right (by with_reducible assumption))) | exact lt0 (And.right (And.right (And.right (by with_reducible assumption)))) | exact lt0 (And.right (And.right (And.right (And.right (by with_reducible assumption))))) | exact lt0 (And.right (And.right (And.right (And.right (And.right (by with_reducible assumption)))))) | exact lt0 (And.right (And.right (And.right (And.right (And.right (And.right (by with_reducible assumption))))))) | exact lt0 (And.right (And.right (And.right (And.right (And.right (And.right (And.right (by with_reducible assumption)))))))) | exact ltX (by with_reducible assumption) | exact ltX (And.right (by with_reducible assumption)) | exact ltX (And.right (And.right (by with_reducible assumption))) | exact ltX (And.right (And.right (And.right (by with_reducible assumption)))) | exact ltX (And.right (And.right (And.right (And.right (by with_reducible assumption))))) | exact ltX (And.right (And.right (And.right (And.right (And.right (by with_reducible assumption)))))) | exact ltX (And.right (And.right (And.right (And.right (And.right (And.right (by with_reducible assumption))))))) | exact ltX (And.right (And.right (And.right (And.right (And.right (And.right (And.right (by with_reducible assumption))))))))); (case zl9 => (refine fr_sub (by with_reducible assumption) ?_; kcf_all)))
  | (with_reducible refine' endEnt_wd (Q := Q) (s := s) hret ?zF ?zN ?zP ?zT ?zL ?zb0 ?zb1 ?z9 ?zs ?zlD ?zll ?zl9; (case zF => k_asm); (case zN => k_asm); (case zT => (repeat (first | (with_reducible exact List.mem_cons_self) | (with_reducible refine List.mem_cons_of_mem _ ?_)))); (case zP => with_reducible assumption); (case zL => (repeat (first | (with_reducible exact List.mem_cons_self) | (with_reducible refine List.mem_cons_of_mem _ ?_)))); (case zb0 => exact ⟨by k_dflt omega, by k_dflt omega⟩); (case zb1 => exact ⟨by k_dflt omega, by k_dflt omega⟩); (case z9 => kcf_all); (case zs => kcf_all); (case zlD => first | with_reducible assumption | exact lt0 (by with_reducible assumption) | exact lt0 (And.right (by with_reducible assumption)) | exact lt0 (And.right (And.right (by with_reducible assumption))) | exact lt0 (And.right (And.right (And.right (by with_reducible assumption)))) | exact lt0 (And.right (And.right (And.right (And.right (by with_reducible assumption))))) | exact lt0 (And.right (And.right (And.right (And.right (And.right (by with_reducible assumption)))))) | exact lt0 (And.right (And.right (And.right (And.right (And.right (And.right (by with_reducible assumption))))))) | exact lt0 (And.right (And.right (And.right (And.right (And.right (And.right (And.right (by with_reducible assumption)))))))) | exact ltX (by with_reducible assumption) | exact ltX (And.right (by with_reducible assumption)) | exact ltX (And.right (And.right (by with_reducible assumption))) | exact ltX (And.right (And.right (And.right (by with_reducible assumption)))) | exact ltX (And.right (And.right (And.right (And.right (by with_reducible assumption))))) | exact ltX (And.right (And.right (And.right (And.right (And.right (by with_reducible assumption)))))) | exact ltX (And.right (And.right (And.right (And.right (And.right (And.right (by with_reducible assumption))))))) | exact ltX (And.right (And.right (And.right (And.right (And.right (And.right (And.right (by with_reducible assumption))))))))); (case zll => first | with_reducible assumption | exact lt0 (by with_reducible assumption) | exact lt0 (And.right (by with_reducible assumption)) | exact lt0 (And.right (And.right (by with_reducible assumption))) | exact lt0 (And.right (And.right (And.right (by with_reducible assumption)))) | exact lt0 (And.right (And.right (And.right (And.right (by with_reducible assumption))))) | exact lt0 (And.right (And.right (And.right (And.right (And.right (by with_reducible assumption)))))) | exact lt0 (And.right (And.right (And.right (And.right (And.right (And.right (by with_reducible assumption))))))) | exact lt0 (And.right (And.right (And.right (And.right (And.right (And.right (And.right (by with_reducible assumption)))))))) | exact ltX (by with_reducible assumption) | exact ltX (And.right (by with_reducible assumption)) | exact ltX (And.right (And.right (by with_reducible assumption))) | exact ltX (And.right (And.right (And.right (by with_reducible assumption)))) | exact ltX (And.right (And.right (And.right (And.right (by with_reducible assumption))))) | exact ltX (And.right (And.right (And.right (And.right (And.right (by with_reducible assumption)))))) | exact ltX (And.right (And.right (And.right (And.right (And.right (And.right (by with_reducible assumption))))))) | exact ltX (And.right (And.right (And.right (And.right (And.right (And.right (And.right (by with_reducible assumption))))))))); (case zl9 => (refine fr_sub (by with_reducible assumption) ?_; kcf_all)))
  | (with_reducible refine' endEnt_wdk (Q := Q) (s := s) hret ?zF ?zN ?zP ?zT ?zL ?zb0 ?zb1 ?zb2 ?z9 ?zs ?zlD ?zll ?zl9; (case zF => k_asm); (case zN => k_asm); (case zT => (repeat (first | (with_reducible exact List.mem_cons_self) | (with_reducible refine List.mem_cons_of_mem _ ?_)))); (case zP => with_reducible assumption); (case zL => (repeat (first | (with_reducible exact List.mem_cons_self) | (with_reducible refine List.mem_cons_of_mem _ ?_)))); (case zb0 => exact ⟨by k_dflt omega, by k_dflt omega⟩); (case zb1 => exact ⟨by k_dflt omega, by k_dflt omega⟩); (case zb2 => exact ⟨by k_dflt omega, by k_dflt omega⟩); (case z9 => kcf_all); (case zs => kcf_all); (case zlD => first | with_reducible assumption | exact lt0 (by with_reducible assumption) | exact lt0 (And.right (by with_reducible assumption)) | exact lt0 (And.right (And.right (by with_reducible assumption))) | exact lt0 (And.right (And.right (And.right (by with_reducible assumption)))) | exact lt0 (And.right (And.right (And.right (And.right (by with_reducible assumption))))) | exact lt0 (And.right (And.right (And.right (And.right (And.right (by with_reducible assumption)))))) | exact lt0 (And.right (And.right (And.right (And.right (And.right (And.right (by with_reducible assumption))))))) | exact lt0 (And.right (And.right (And.right (And.right (And.right (And.right (And.right (by with_reducible assumption)))))))) | exact ltX (by with_reducible assumption) | exact ltX (And.right (by with_reducible assumption)) | exact ltX (And.right (And.right (by with_reducible assumption))) | exact ltX (And.right (And.right (And.right (by with_reducible assumption)))) | exact ltX (And.right (And.right (And.right (And.right (by with_reducible assumption))))) | exact ltX (And.right (And.right (And.right (And.right (And.right (by with_reducible assumption)))))) | exact ltX (And.right (And.right (And.right (And.right (And.right (And.right (by with_reducible assumption))))))) | exact ltX (And.right (And.right (And.right (And.right (And.right (And.right (And.right (by with_reducible assumption))))))))); (case zll => first | with_reducible assumption | exact lt0 (by with_reducible assumption) | exact lt0 (And.right (by with_reducible assumption)) | exact lt0 (And.right (And.right (by with_reducible assumption))) | exact lt0 (And.right (And.right (And.right (by with_reducible assumption)))) | exact lt0 (And.right (And.right (And.right (And.right (by with_reducible assumption))))) | exact lt0 (And.right (And.right (And.right (And.right (And.right (by with_reducible assumption)))))) | exact lt0 (And.right (And.right (And.right (And.right (And.right (And.right (by with_reducible assumption))))))) | exact lt0 (And.right (And.right (And.right (And.right (And.right (And.right (And.right (by with_reducible assumption)))))))) | exact ltX (by with_reducible assumption) | exact ltX (And.right (by with_reducible assumption)) | exact ltX (And.right (And.right (by with_reducible assumption))) | exact ltX (And.right (And.right (And.right (by with_reducible assumption)))) | exact ltX (And.right (And.right (And.right (And.right (by with_reducible assumption))))) | exact ltX (And.right (And.right (And.right (And.right (And.right (by with_reducible assumption)))))) | exact ltX (And.right (And.right (And.right (And.right (And.right (And.right (by with_reducible assumption))))))) | exact ltX (And.right (And.right (And.right (And.right (And.right (And.right (And.right (by with_reducible assumption))))))))); (case zl9 => (refine fr_sub (by with_reducible assumption) ?_; kcf_all)))
  | (with_reducible refine' endEnt_wc (Q := Q) (s := s) hret ?zF ?zN ?zP ?zT ?zL ?zb0 ?zb1 ?z9 ?zs ?zlD ?zll ?zl9; (case zF => k_asm); (case zN => k_asm); (case zT => (repeat (first | (with_reducible exact List.mem_cons_self) | (with_reducible refine List.mem_cons_of_mem _ ?_)))); (case zP => with_reducible assumption); (case zL => (repeat (first | (with_reducible exact List.mem_cons_self) | (with_reducible refine List.mem_cons_of_mem _ ?_)))); (case zb0 => exact ⟨by k_dflt omega, by k_dflt omega⟩); (case zb1 => exact ⟨by k_dflt omega, by k_dflt omega⟩); (case z9 => kcf_all); (case zs => kcf_all); (case zlD => first | with_reducible assumption | exact lt0 (by with_reducible assumption) | exact lt0 (And.right (by with_reducible assumption)) | exact lt0 (And.right (And.right (by with_reducible assumption))) | exact lt0 (And.right (And.right (And.right (by with_reducible assumption)))) | exact lt0 (And.right (And.right (And.right (And.right (by with_reducible assumption))))) | exact lt0 (And.right (And.right (And.right (And.right (And.right (by with_reducible assumption)))))) | exact lt0 (And.right (And.right (And.right (And.right (And.right (And.right (by with_reducible assumption))))))) | exact lt0 (And.right (And.right (And.right (And.right (And.right (And.right (And.right (by with_reducible assumption)))))))) | exact ltX (by with_reducible assumption) | exact ltX (And.right (by with_reducible assumption)) | exact ltX (And.right (And.right (by with_reducible assumption))) | exact ltX (And.right (And.right (And.right (by with_reducible assumption)))) | exact ltX (And.right (And.right (And.right (And.right (by with_reducible assumption))))) | exact ltX (And.right (And.right (And.right (And.right (And.right (by with_reducible assumption)))))) | exact ltX (And.right (And.right (And.right (And.right (And.right (And.right (by with_reducible assumption))))))) | exact ltX (And.right (And.right (And.right (And.right (And.right (And.right (And.right (by with_reducible assumption))))))))); (case zll => first | with_reducible assumption | exact lt0 (by with_reducible assumption) | exact lt0 (And.right (by with_reducible assumption)) | exact lt0 (And.right (And.right (by with_reducible assumption))) | exact lt0 (And.right (And.right (And.right (by with_reducible assumption)))) | exact lt0 (And.right (And.right (And.right (And.right (by with_reducible assumption))))) | exact lt0 (And.right (And.right (And.right (And.right (And.right (by with_reducible assumption)))))) | exact lt0 (And.right (And.right (And.right (And.right (And.right (And.right (by with_reducible assumption))))))) | exact lt0 (And.right (And.right (And.right (And.right (And.right (And.right (And.right (by with_reducible assumption)))))))) | exact ltX (by with_reducible assumption) | exact ltX (And.right (by with_reducible assumption)) | exact ltX (And.right (And.right (by with_reducible assumption))) | exact ltX (And.right (And.right (And.right (by with_reducible assumption)))) | exact ltX (And.right (And.right (And.right (And.right (by with_reducible assumption))))) | exact ltX (And.right (And.right (And.right (And.right (And.right (by with_reducible assumption)))))) | exact ltX (And.right (And.right (And.right (And.right (And.right (And.right (by with_reducible assumption))))))) | exact ltX (And.right (And.right (And.right (And.right (And.right (And.right (And.right (by with_reducible assumption))))))))); (case zl9 => (refine fr_sub (by with_reducible assumption) ?_; kcf_all)))
  | (with_reducible refine' endEnt_wck (Q := Q) (s := s) hret ?zF ?zN ?zP ?zT ?zL ?zb0 ?zb1 ?zb2 ?z9 ?zs ?zlD ?zll ?zl9; (case zF => k_asm); (case zN => k_asm); (case zT => (repeat (first | (with_reducible exact List.mem_cons_self) | (with_reducible refine List.mem_cons_of_mem _ ?_)))); (case zP => with_reducible assumption); (case zL => (repeat (first | (with_reducible exact List.mem_cons_self) | (with_reducible refine List.mem_cons_of_mem _ ?_)))); (case zb0 => exact ⟨by k_dflt omega, by k_dflt omega⟩); (case zb1 => exact ⟨by k_dflt omega, by k_dflt omega⟩); (case zb2 => exact ⟨by k_dflt omega, by k_dflt omega⟩); (case z9 => kcf_all); (case zs => kcf_all); (case zlD => first | with_reducible assumption | exact lt0 (by with_reducible assumption) | exact lt0 (And.right (by with_reducible assumption)) | exact lt0 (And.right (And.right (by with_reducible assumption))) | exact lt0 (And.right (And.right (And.right (by with_reducible assumption)))) | exact lt0 (And.right (And.right (And.right (And.right (by with_reducible assumption))))) | exact lt0 (And.right (And.right (And.right (And.right (And.right (by with_reducible assumption)))))) | exact lt0 (And.right (And.right (And.right (And.right (And.right (And.right (by with_reducible assumption))))))) | exact lt0 (And.right (And.right (And.right (And.right (And.right (And.right (And.right (by with_reducible assumption)))))))) | exact ltX (by with_reducible assumption) | exact ltX (And.right (by with_reducible assumption)) | exact ltX (And.right (And.right (by with_reducible assumption))) | exact ltX (And.right (And.right (And.right (by with_reducible assumption)))) | exact ltX (And.right (And.right (And.right (And.right (by with_reducible assumption))))) | exact ltX (And.right (And.right (And.right (And.right (And.right (by with_reducible assumption)))))) | exact ltX (And.right (And.right (And.right (And.right (And.right (And.right (by with_reducible assumption))))))) | exact ltX (And.right (And.right (And.right (And.right (And.right (And.right (And.right (by with_reducible assumption))))))))); (case zll => first | with_reducible assumption | exact lt0 (by with_reducible assumption) | exact lt0 (And.right (by with_reducible assumption)) | exact lt0 (And.right (And.right (by with_reducible assumption))) | exact lt0 (And.right (And.right (And.right (by with_reducible assumption)))) | exact lt0 (And.right (And.right (And.right (And.right (by with_reducible assumption))))) | exact lt0 (And.right (And.right (And.right (And.right (And.right (by with_reducible assumption)))))) | exact lt0 (And.right (And.right (And.right (And.right (And.right (And.right (by with_reducible assumption))))))) | exact lt0 (And.right (And.right (And.right (And.right (And.right (And.right (And.right (by with_reducible assumption)))))))) | exact ltX (by with_reducible assumption) | exact ltX (And.right (by with_reducible assumption)) | exact ltX (And.right (And.right (by with_reducible assumption))) | exact ltX (And.right (And.right (And.right (by with_reducible assumption)))) | exact ltX (And.right (And.right (And.right (And.right (by with_reducible assumption))))) | exact ltX (And.right (And.right (And.right (And.right (And.right (by with_reducible assumption)))))) | exact ltX (And.right (And.right (And.right (And.right (And.right (And.right (by with_reducible assumption))))))) | exact ltX (And.right (And.right (And.right (And.right (And.right (And.right (And.right (by with_reducible assumption))))))))); (case zl9 => (refine fr_sub (by with_reducible assumption) ?_; kcf_all)))
  | (with_reducible refine' endEnt_ms (Q := Q) (s := s) ?zla hret ?zF ?zN ?zP ?zT ?zL ?zb0 ?zb1 ?zb2 ?z9 ?zs ?zlD ?zll ?zl9; (case zla => exact LastOk.yes (by with_reducible assumption) (by assumption) (by omega)); (case zF => k_asm); (case zN => k_asm); (case zT => (repeat (first | (with_reducible exact List.mem_cons_self) | (with_reducible refine List.mem_cons_of_mem _ ?_)))); (case zP => with_reducible assumption); (case zL => (repeat (first | (with_reducible exact List.mem_cons_self) | (with_reducible refine List.mem_cons_of_mem _ ?_)))); (case zb0 => exact ⟨by k_dflt omega, by k_dflt omega⟩); (case zb1 => exact ⟨by k_dflt omega, by k_dflt omega⟩); (case zb2 => exact ⟨by k_dflt omega, by k_dflt omega⟩); (case z9 => kcf_all); (case zs => kcf_all); (case zlD => first | with_reducible assumption | exact lt0 (by with_reducible assumption) | exact lt0 (And.right (by with_reducible assumption)) | exact lt0 (And.right (And.right (by with_reducible assumption))) | exact lt0 (And.right (And.right (And.right (by with_reducible assumption)))) | exact lt0 (And.right (And.right (And.right (And.right (by with_reducible assumption))))) | exact lt0 (And.right (And.right (And.right (And.right (And.right (by with_reducible assumption)))))) | exact lt0 (And.right (And.right (And.right (And.right (And.right (And.right (by with_reducible assumption))))))) | exact lt0 (And.right (And.right (And.right (And.right (And.right (And.right (And.right (by with_reducible assumption)))))))) | exact ltX (by with_reducible assumption) | exact ltX (And.right (by with_reducible assumption)) | exact ltX (And.right (And.right (by with_reducible assumption))) | exact ltX (And.right (And.right (And.right (by with_reducible assumption)))) | exact ltX (And.right (And.right (And.right (And.right (by with_reducible assumption))))) | exact ltX (And.right (And.right (And.right (And.right (And.right (by with_reducible assumption)))))) | exact ltX (And.right (And.right (And.right (And.right (And.right (And.right (by with_reducible assumption))))))) | exact ltX (And.right (And.right (And.right (And.right (And.right (And.right (And.right (by with_reducible assumption))))))))); (case zll => first | with_reducible assumption | exact lt0 (by with_reducible assumption) | exact lt0 (And.right (by with_reducible assumption)) | exact lt0 (And.right (And.right (by with_reducible assumption))) | exact lt0 (And.right (And.right (And.right (by with_reducible assumption)))) | exact lt0 (And.right (And.right (And.right (And.right (by with_reducible assumption))))) | exact lt0 (And.right (And.right (And.right (And.right (And.right (by with_reducible assumption)))))) | exact lt0 (And.right (And.right (And.right (And.right (And.right (And.right (by with_reducible assumption))))))) | exact lt0 (And.right (And.right (And.right (And.right (And.right (And.right (And.right (by with_reducible assumption)))))))) | exact ltX (by with_reducible assumption) | exact ltX (And.right (by with_reducible assumption)) | exact ltX (And.right (And.right (by with_reducible assumption))) | exact ltX (And.right (And.right (And.right (by with_reducible assumption)))) | exact ltX (And.right (And.right (And.right (And.right (by with_reducible assumption))))) | exact ltX (And.right (And.right (And.right (And.right (And.right (by with_reducible assumption)))))) | exact ltX (And.right (And.right (And.right (And.right (And.right (And.right (by with_reducible assumption))))))) | exact ltX (And.right (And.right (And.right (And.right (And.right (And.right (And.right (by with_reducible assumption))))))))); (case zl9 => (refine fr_sub (by with_reducible assumption) ?_; kcf_all)))
  | (with_reducible refine' endEnt_ws (Q := Q) (s := s) ?zla hret ?zF ?zN ?zP ?zT ?zL ?zb0 ?zb1 ?zww ?z9 ?zs ?zlD ?zll ?zl9; (case zla => exact LastOk.yes (by with_reducible assumption) (by assumption) (by omega)); (case zF => k_asm); (case zN => k_asm); (case zT => (repeat (first | (with_reducible exact List.mem_cons_self) | (with_reducible refine List.mem_cons_of_mem _ ?_)))); (case zP => with_reducible assumption); (case zL => (repeat (first | (with_reducible exact List.mem_cons_self) | (with_reducible refine List.mem_cons_of_mem _ ?_)))); (case zb0 => exact ⟨by k_dflt omega, by k_dflt omega⟩); (case zb1 => exact ⟨by k_dflt omega, by k_dflt omega⟩); (case zww => k_dflt omega); (case z9 => kcf_all); (case zs => kcf_all); (case zlD => first | with_reducible assumption | exact lt0 (by with_reducible assumption) | exact lt0 (And.right (by with_reducible assumption)) | exact lt0 (And.right (And.right (by with_reducible assumption))) | exact lt0 (And.right (And.right (And.right (by with_reducible assumption)))) | exact lt0 (And.right (And.right (And.right (And.right (by with_reducible assumption))))) | exact lt0 (And.right (And.right (And.right (And.right (And.right (by with_reducible assumption)))))) | exact lt0 (And.right (And.right (And.right (And.right (And.right (And.right (by with_reducible assumption))))))) | exact lt0 (And.right (And.right (And.right (And.right (And.right (And.right (And.right (by with_reducible assumption)))))))) | exact ltX (by with_reducible assumption) | exact ltX (And.right (by with_reducible assumption)) | exact ltX (And.right (And.right (by with_reducible assumption))) | exact ltX (And.right (And.right (And.right (by with_reducible assumption)))) | exact ltX (And.right (And.right (And.right (And.right (by with_reducible assumption))))) | exact ltX (And.right (And.right (And.right (And.right (And.right (by with_reducible assumption)))))) | exact ltX (And.right (And.right (And.right (And.right (And.right (And.right (by with_reducible assumption))))))) | exact ltX (And.right (And.right (And.right (And.right (And.right (And.right (And.right (by with_reducible assumption))))))))); (case zll => first | with_reducible assumption | exact lt0 (by with_reducible assumption) | exact lt0 (And.right (by with_reducible assumption)) | exact lt0 (And.right (And.right (by with_reducible assumption))) | exact lt0 (And.right (And.right (And.right (by with_reducible assumption)))) | exact lt0 (And.right (And.right (And.right (And.right (by with_reducible assumption))))) | exact lt0 (And.right (And.right (And.right (And.right (And.right (by with_reducible assumption)))))) | exact lt0 (And.right (And.right (And.right (And.right (And.right (And.right (by with_reducible assumption))))))) | exact lt0 (And.right (And.right (And.right (And.right (And.right (And.right (And.right (by with_reducible assumption)))))))) | exact ltX (by with_reducible assumption) | exact ltX (And.right (by with_reducible assumption)) | exact ltX (And.right (And.right (by with_reducible assumption))) | exact ltX (And.right (And.right (And.right (by with_reducible assumption)))) | exact ltX (And.right (And.right (And.right (And.right (by with_reducible assumption))))) | exact ltX (And.right (And.right (And.right (And.right (And.right (by with_reducible assumption)))))) | exact ltX (And.right (And.right (And.right (And.right (And.right (And.right (by with_reducible assumption))))))) | exact ltX (And.right (And.right (And.right (And.right (And.right (And.right (And.right (by with_reducible assumption))))))))); (case zl9 => (refine fr_sub (by with_reducible assumption) ?_; kcf_all)))
  | (with_reducible refine' endEnt_mx (Q := Q) (s := s) ?zla hret ?zF ?zN ?zP ?zT ?zL ?zb0 ?zb1 ?zs ?zlD ?zll ?zl9; (case zla => exact LastOk.yes (by with_reducible assumption) (by assumption) (by omega)); (case zF => k_asm); (case zN => k_asm); (case zT => (repeat (first | (with_reducible exact List.mem_cons_self) | (with_reducible refine List.mem_cons_of_mem _ ?_)))); (case zP => (repeat (first | (with_reducible exact List.mem_cons_self) | (with_reducible refine List.mem_cons_of_mem _ ?_)))); (case zL => (repeat (first | (with_reducible exact List.mem_cons_self) | (with_reducible refine List.mem_cons_of_mem _ ?_)))); (case zb0 => exact ⟨by k_dflt omega, by k_dflt omega⟩); (case zb1 => exact ⟨by k_dflt omega, by k_dflt omega⟩); (case zs => kcf_all); (case zlD => first | with_reducible assumption | exact lt0 (by with_reducible assumption) | exact lt0 (And.right (by with_reducible assumption)) | exact lt0 (And.right (And.right (by with_reducible assumption))) | exact lt0 (And.right (And.right (And.right (by with_reducible assumption)))) | exact lt0 (And.right (And.right (And.right (And.right (by with_reducible assumption))))) | exact lt0 (And.right (And.right (And.right (And.right (And.right (by with_reducible assumption)))))) | exact lt0 (And.right (And.right (And.right (And.right (And.right (And.right (by with_reducible assumption))))))) | exact lt0 (And.right (And.right (And.right (And.right (And.right (And.right (And.right (by with_reducible assumption)))))))) | exact ltX (by with_reducible assumption) | exact ltX (And.right (by with_reducible assumption)) | exact ltX (And.right (And.right (by with_reducible assumption))) | exact ltX (And.right (And.right (And.right (by with_reducible assumption)))) | exact ltX (And.right (And.right (And.right (And.right (by with_reducible assumption))))) | exact ltX (And.right (And.right (And.right (And.right (And.right (by with_reducible assumption)))))) | exact ltX (And.right (And.right (And.right (And.right (And.right (And.right (by with_reducible assumption))))))) | exact ltX (And.right (And.right (And.right (And.right (And.right (And.right (And.right (by with_reducible assumption))))))))); (case zll => first | with_reducible assumption | exact lt0 (by with_reducible assumption) | exact lt0 (And.right (by with_reducible assumption)) | exact lt0 (And.right (And.right (by with_reducible assumption))) | exact lt0 (And.right (And.right (And.right (by with_reducible assumption)))) | exact lt0 (And.right (And.right (And.right (And.right (by with_reducible assumption))))) | exact lt0 (And.right (And.right (And.right (And.right (And.right (by with_reducible assumption)))))) | exact lt0 (And.right (And.right (And.right (And.right (And.right (And.right (by with_reducible assumption))))))) | exact lt0 (And.right (And.right (And.right (And.right (And.right (And.right (And.right (by with_reducible assumption)))))))) | exact ltX (by with_reducible assumption) | exact ltX (And.right (by with_reducible assumption)) | exact ltX (And.right (And.right (by with_reducible assumption))) | exact ltX (And.right (And.right (And.right (by with_reducible assumption)))) | exact ltX (And.right (And.right (And.right (And.right (by with_reducible assumption))))) | exact ltX (And.right (And.right (And.right (And.right (And.right (by with_reducible assumption)))))) | exact ltX (And.right (And.right (And.right (And.right (And.right (And.right (by with_reducible assumption))))))) | exact ltX (And.right (And.right (And.right (And.right (And.right (And.right (And.right (by with_reducible assumption))))))))); (case zl9 => first | with_reducible assumption | exact lt0 (by with_reducible assumption) | exact lt0 (And.right (by with_reducible assumption)) | exact lt0 (And.right (And.right (by with_reducible assumption))) | exact lt0 (And.right (And.right (And.right (by with_reducible assumption)))) | exact lt0 (And.right (And.right (And.right (And.right (by with_reducible assumption))))) | exact lt0 (And.right (And.right (And.right (And.right (And.right (by with_reducible assumption)))))) | exact lt0 (And.right (And.right (And.right (And.right (And.right (And.right (by with_reducible assumption))))))) | exact lt0 (And.right (And.right (And.right (And.right (And.right (And.right (And.right (by with_reducible assumption)))))))) | exact ltX (by with_reducible assumption) | exact ltX (And.right (by with_reducible assumption)) | exact ltX (And.right (And.right (by with_reducible assumption))) | exact ltX (And.right (And.right (And.right (by with_reducible assumption)))) | exact ltX (And.right (And.right (And.right (And.right (by with_reducible assumption))))) | exact ltX (And.right (And.right (And.right (And.right (And.right (by with_reducible assumption)))))) | exact ltX (And.right (And.right (And.right (And.right (And.right (And.right (by with_reducible assumption))))))) | exact ltX (And.right (And.right (And.right (And.right (And.right (And.right (And.right (by with_reducible assumption))))))))))
end Mine
end
section
namespace Mine
theorem c_sep (w : World) (mean : ExcName → Option Value) (mg mb : Str → Option Value) (e : Ent) (tail rest : List Nat) (ht : TailOk tail rest) (hl : e.last = true → tail = []) (hb : tail.length ≤ 900) (t : Tok) : C w mean mg mb 98 6 24 [.str ⟨(e.txt ++ tail).toArray⟩ t] (cInt (((⟨e.txt.toArray⟩ : PySem.Str).length : Nat) : Int)) := by
  have hL2 : (⟨(e.txt ++ tail).toArray⟩ : PySem.Str).length ≤ 1000 := by rw [len_of]; have := txt_len e; omega
  cases e with
  | md y m d => exact c_findM w mean mg mb _ t hL2 (by rw [len_of]; simp [Ent.txt]) (is_dash (k := 4) (by decide) rfl rfl rfl) (no_w (k := 5) (by decide) rfl rfl (dg_n87 _))
  | mc y m d => exact c_findC w mean mg mb _ t hL2 (by rw [len_of]; simp [Ent.txt]) (no_dash (k := 4) (by decide) rfl rfl (dg_n45 _)) (no_w (k := 4) (by decide) rfl rfl (dg_n87 _))
  | wd y w9 => 
    rcases ht with ⟨htl, hr⟩ | ⟨c, d, d', r, htl, hc, hr, hd, hd', h5⟩
    · subst htl; exact c_findWs1 w mean mg mb _ t hL2 (by rw [len_of]; simp [Ent.txt]) (is_dash (k := 4) (by decide) rfl rfl rfl) (is_w (k := 5) (by decide) rfl rfl rfl)
    · subst htl hr
      by_cases h45 : c = 45
      · exact c_findWs3 w mean mg mb _ t hL2 (by rw [len_of]; simp [Ent.txt]; omega) (is_dash (k := 4) (by decide) rfl rfl rfl) (is_w (k := 5) (by decide) rfl rfl rfl) (is_dash (k := 8) (by decide) rfl rfl h45) (is_fig (k := 10) (by decide) rfl rfl hd')
      · exact c_findWs2 w mean mg mb _ t hL2 (by rw [len_of]; simp [Ent.txt]) (is_dash (k := 4) (by decide) rfl rfl rfl) (is_w (k := 5) (by decide) rfl rfl rfl) (no_dash (k := 8) (by decide) rfl rfl h45)
  | wdk y w9 k => 
    rcases ht with ⟨htl, hr⟩ | ⟨c, d, d', r, htl, hc, hr, hd, hd', h5⟩
    · subst htl; exact c_findWl1 w mean mg mb _ t hL2 (by rw [len_of]; simp [Ent.txt]) (is_dash (k := 4) (by decide) rfl rfl rfl) (is_w (k := 5) (by decide) rfl rfl rfl) (is_dash (k := 8) (by decide) rfl rfl rfl)
    · subst htl hr; exact c_findWl2 w mean mg mb _ t hL2 (by rw [len_of]; simp [Ent.txt]) (is_dash (k := 4) (by decide) rfl rfl rfl) (is_w (k := 5) (by decide) rfl rfl rfl) (is_dash (k := 8) (by decide) rfl rfl rfl) (no_fig (k := 10) (by decide) rfl rfl hc)
  | wc y w9 => 
    rcases ht with ⟨htl, hr⟩ | ⟨c, d, d', r, htl, hc, hr, hd, hd', h5⟩
    · subst htl; exact c_findS w mean mg mb _ t hL2 (by rw [len_of]; simp [Ent.txt])
    · subst htl hr; exact c_findBs w mean mg mb _ t hL2 (by rw [len_of]; simp [Ent.txt]) (no_dash (k := 4) (by decide) rfl rfl (by decide)) (is_w (k := 4) (by decide) rfl rfl rfl) (no_fig (k := 7) (by decide) rfl rfl hc)
  | wck y w9 k => 
    rcases ht with ⟨htl, hr⟩ | ⟨c, d, d', r, htl, hc, hr, hd, hd', h5⟩
    · subst htl; exact c_findBl1 w mean mg mb _ t hL2 (by rw [len_of]; simp [Ent.txt]) (no_dash (k := 4) (by decide) rfl rfl (by decide)) (is_w (k := 4) (by decide) rfl rfl rfl) (is_fig (k := 7) (by decide) rfl rfl (dg_is _))
    · subst htl hr; exact c_findBl2 w mean mg mb _ t hL2 (by rw [len_of]; simp [Ent.txt]) (no_dash (k := 4) (by decide) rfl rfl (by decide)) (is_w (k := 4) (by decide) rfl rfl rfl) (is_fig (k := 7) (by decide) rfl rfl (dg_is _)) (no_fig (k := 8) (by decide) rfl rfl hc)
  | ms y m k => (have htl := hl rfl; subst htl; exact c_findS w mean mg mb _ t hL2 (by rw [len_of]; simp [Ent.txt]))
  | ws y w9 => (have htl := hl rfl; subst htl; exact c_findS w mean mg mb _ t hL2 (by rw [len_of]; simp [Ent.txt]))
  | mx y m => (have htl := hl rfl; subst htl; exact c_findS w mean mg mb _ t hL2 (by rw [len_of]; simp [Ent.txt]))
section
variable {a b c d e f g h : Nat} {y w m k : Int}
theorem wkS7b (hy : PySem.intText? ⟨#[a, b, c, d]⟩ = some y) (hw : PySem.intText? ⟨#[e]⟩ = some w) (b1 : 0 ≤ y) (b2 : y < 10000) (b3 : 0 ≤ w) (b4 : w < 100) : WkS ⟨#[a, b, c, d, 45, 87, e]⟩ y w where
  l1 := by show (7 : Nat) ≤ 7; decide
  l2 := by show (7 : Nat) ≤ 10; decide
  len := rfl
  year := hy
  b1 := by omega
  b2 := by omega
  w := (by rw [show (if (PySem.Txt.item (⟨#[a, b, c, d, 45, 87, e]⟩ : PySem.Str) 4 == PySem.Str.ofString "-") = true then (1 : Int) else 0) = 1 from rfl]; rfl)
  week := (by rw [show (if (PySem.Txt.item (⟨#[a, b, c, d, 45, 87, e]⟩ : PySem.Str) 4 == PySem.Str.ofString "-") = true then (1 : Int) else 0) = 1 from rfl, show PySem.Txt.slice (⟨#[a, b, c, d, 45, 87, e]⟩ : PySem.Str) (some (4 + 1 + 1)) (some (4 + 1 + 1 + 2)) = ⟨#[e]⟩ from by kernel_rfl]; exact hw)
  b3 := by omega
  b4 := by omega
  ends := by rw [show (if (PySem.Txt.item (⟨#[a, b, c, d, 45, 87, e]⟩ : PySem.Str) 4 == PySem.Str.ofString "-") = true then (1 : Int) else 0) = 1 from rfl]; exact (by decide : ¬ (4 + 1 + 1 + 2 : Int) < 7)
end
/-- what the reader tells of an entry -/
abbrev cRead (e : Ent) : Cont := cOr e.bad (cNew (IsDt e))
set_option maxHeartbeats 16000000 in
theorem read_weekS (w : World) (mean : ExcName → Option Value) (mg mb : Str → Option Value) {e : Ent} {y w9 : Int} {t : Tok} (hy : In y 10000) (hp : e.parts = []) (hd : e.due = dueW y w9 1) (hbad : e.bad = badG y w9 1) (H : WkS ⟨e.txt.toArray⟩ y w9) : C w mean mg mb 105 24 96 [.str ⟨e.txt.toArray⟩ t] (cRead e) := by
  have h := c_parseWs w mean mg mb _ t y w9 H.l1 H.l2 H.len H.year H.b1 H.b2 H.w H.week H.b3 H.b4 H.ends
  unfold C Ctr at h ⊢
  intro dp un gd cn cs a ccd cl outer A₀ base h₀ L m news s Q E h1 h2 h3 h4 h5 h6 h7 h8 hret
  refine h dp un gd cn cs a ccd cl outer A₀ base h₀ L m news s Q E h1 h2 h3 h4 h5 h6 h7 h8 ⟨fun msg hm => hret.1 msg (by rw [hbad]; exact hm), fun hn => ?_⟩
  intro l o h' tk' P F N hl
  refine hret.2 (by rw [hbad]; exact hn) l o h' tk' ?_ F N hl
  obtain ⟨yy, mm, dd, ty, tm, td, k, rfl, i1, i2, i3, i4, i5⟩ := P
  obtain ⟨q1, q2, q3⟩ := week_due hy hn i1 i2 i3 i4 i5
  have hb := dim_bnd yy i1 i2
  exact ⟨yy, mm, dd, ty, tm, td, k, rfl, ⟨by omega, by omega⟩, ⟨by omega, by omega⟩, ⟨by omega, by omega⟩, .inl hp, by rw [hd]; exact q1⟩
set_option maxHeartbeats 16000000 in
theorem read_weekL (w : World) (mean : ExcName → Option Value) (mg mb : Str → Option Value) {e : Ent} {y w9 d9 : Int} {t : Tok} (hy : In y 10000) (hp : e.parts = []) (hd : e.due = dueW y w9 d9) (hbad : e.bad = badG y w9 d9) (H : WkL ⟨e.txt.toArray⟩ y w9 d9) : C w mean mg mb 105 24 96 [.str ⟨e.txt.toArray⟩ t] (cRead e) := by
  have h := c_parseWl w mean mg mb _ t y w9 H.l1 H.l2 H.len H.year H.b1 H.b2 H.w H.week H.b3 H.b4 d9 H.goes H.dash H.day H.b5 H.b6
  unfold C Ctr at h ⊢
  intro dp un gd cn cs a ccd cl outer A₀ base h₀ L m news s Q E h1 h2 h3 h4 h5 h6 h7 h8 hret
  refine h dp un gd cn cs a ccd cl outer A₀ base h₀ L m news s Q E h1 h2 h3 h4 h5 h6 h7 h8 ⟨fun msg hm => hret.1 msg (by rw [hbad]; exact hm), fun hn => ?_⟩
  intro l o h' tk' P F N hl
  refine hret.2 (by rw [hbad]; exact hn) l o h' tk' ?_ F N hl
  obtain ⟨yy, mm, dd, ty, tm, td, k, rfl, i1, i2, i3, i4, i5⟩ := P
  obtain ⟨q1, q2, q3⟩ := week_due hy hn i1 i2 i3 i4 i5
  have hb := dim_bnd yy i1 i2
  exact ⟨yy, mm, dd, ty, tm, td, k, rfl, ⟨by omega, by omega⟩, ⟨by omega, by omega⟩, ⟨by omega, by omega⟩, .inl hp, by rw [hd]; exact q1⟩
set_option maxHeartbeats 16000000 in
theorem read_month (w : World) (mean : ExcName → Option Value) (mg mb : Str → Option Value) {e : Ent} {x : PySem.Str} {y m9 d9 : Int} {t : Tok} (hy : In y 10000) (hm : In m9 100) (hd9 : In d9 100) (hp : e.parts = [y, m9, d9]) (hd : e.due = dueM y m9 d9) (hbad : e.bad = none) (h : C w mean mg mb 105 24 96 [.str x t] (cNew (IsLst3 y m9 d9))) : C w mean mg mb 105 24 96 [.str x t] (cRead e) := by
  unfold C Ctr at h ⊢
  intro dp un gd cn cs a ccd cl outer A₀ base h₀ L m news s Q E h1 h2 h3 h4 h5 h6 h7 h8 hret
  refine h dp un gd cn cs a ccd cl outer A₀ base h₀ L m news s Q E h1 h2 h3 h4 h5 h6 h7 h8 ?_
  intro l o h' tk' P F N hl
  refine hret.2 hbad l o h' tk' ?_ F N hl
  obtain ⟨ty, tm, td, k, rfl⟩ := P
  have := hy.1; have := hy.2; have := hm.1; have := hm.2; have := hd9.1; have := hd9.2
  exact ⟨y, m9, d9, ty, tm, td, k, rfl, ⟨by omega, by omega⟩, ⟨by omega, by omega⟩, ⟨by omega, by omega⟩, .inr hp, by rw [hd]; exact month_due hy⟩
set_option maxHeartbeats 16000000 in
theorem c_par (w : World) (mean : ExcName → Option Value) (mg mb : Str → Option Value) (e : Ent) (ok : e.Ok) (t : Tok) : C w mean mg mb 105 24 96 [.str ⟨e.txt.toArray⟩ t] (cRead e) := by
  cases e with
  | md y m d => exact read_month w mean mg mb ok.1 ok.2.1 ok.2.2 rfl rfl rfl (c_parseD w mean mg mb (⟨#[dg (y.toNat / 1000), dg (y.toNat / 100), dg (y.toNat / 10), dg y.toNat, 45, dg (m.toNat / 10), dg m.toNat, 45, dg (d.toNat / 10), dg d.toNat]⟩ : PySem.Str) t y m (by show (7 : Nat) ≤ 10; decide) (by show (10 : Nat) ≤ 10; decide) rfl (yr_reads ok.1.1 ok.1.2) (by have := ok.1.1; omega) (by have := ok.1.2; omega) (by rw [show (if (PySem.Txt.item (⟨#[dg (y.toNat / 1000), dg (y.toNat / 100), dg (y.toNat / 10), dg y.toNat, 45, dg (m.toNat / 10), dg m.toNat, 45, dg (d.toNat / 10), dg d.toNat]⟩ : PySem.Str) 4 == PySem.Str.ofString "-") = true then (1 : Int) else 0) = 1 from rfl]; rw [show PySem.Txt.slice (⟨#[dg (y.toNat / 1000), dg (y.toNat / 100), dg (y.toNat / 10), dg y.toNat, 45, dg (m.toNat / 10), dg m.toNat, 45, dg (d.toNat / 10), dg d.toNat]⟩ : PySem.Str) (some (4 + 1)) (some (4 + 1 + 1)) = ⟨#[dg (m.toNat / 10)]⟩ from by kernel_rfl, lit_w, one_eq, decide_eq_false (dg_n87 _)]) (by rw [show (if (PySem.Txt.item (⟨#[dg (y.toNat / 1000), dg (y.toNat / 100), dg (y.toNat / 10), dg y.toNat, 45, dg (m.toNat / 10), dg m.toNat, 45, dg (d.toNat / 10), dg d.toNat]⟩ : PySem.Str) 4 == PySem.Str.ofString "-") = true then (1 : Int) else 0) = 1 from rfl]; exact wk_reads ok.2.1.1 ok.2.1.2) d (by rw [show (if (PySem.Txt.item (⟨#[dg (y.toNat / 1000), dg (y.toNat / 100), dg (y.toNat / 10), dg y.toNat, 45, dg (m.toNat / 10), dg m.toNat, 45, dg (d.toNat / 10), dg d.toNat]⟩ : PySem.Str) 4 == PySem.Str.ofString "-") = true then (1 : Int) else 0) = 1 from rfl]; rfl) (by rw [show (if (PySem.Txt.item (⟨#[dg (y.toNat / 1000), dg (y.toNat / 100), dg (y.toNat / 10), dg y.toNat, 45, dg (m.toNat / 10), dg m.toNat, 45, dg (d.toNat / 10), dg d.toNat]⟩ : PySem.Str) 4 == PySem.Str.ofString "-") = true then (1 : Int) else 0) = 1 from rfl]; exact wk_reads ok.2.2.1 ok.2.2.2))
  | mc y m d => exact read_month w mean mg mb ok.1 ok.2.1 ⟨ok.2.2.1, by have := ok.2.2.2; omega⟩ rfl rfl rfl (c_parseD w mean mg mb (⟨#[dg (y.toNat / 1000), dg (y.toNat / 100), dg (y.toNat / 10), dg y.toNat, dg (m.toNat / 10), dg m.toNat, dg (d.toNat / 10), dg d.toNat]⟩ : PySem.Str) t y m (by show (7 : Nat) ≤ 8; decide) (by show (8 : Nat) ≤ 10; decide) rfl (yr_reads ok.1.1 ok.1.2) (by have := ok.1.1; omega) (by have := ok.1.2; omega) (by rw [show (PySem.Txt.item (⟨#[dg (y.toNat / 1000), dg (y.toNat / 100), dg (y.toNat / 10), dg y.toNat, dg (m.toNat / 10), dg m.toNat, dg (d.toNat / 10), dg d.toNat]⟩ : PySem.Str) 4 == PySem.Str.ofString "-") = false from (by rw [show PySem.Txt.item (⟨#[dg (y.toNat / 1000), dg (y.toNat / 100), dg (y.toNat / 10), dg y.toNat, dg (m.toNat / 10), dg m.toNat, dg (d.toNat / 10), dg d.toNat]⟩ : PySem.Str) 4 = ⟨#[dg (m.toNat / 10)]⟩ from by kernel_rfl, lit_dash, one_eq, decide_eq_false (dg_n45 _)])]; rw [if_neg Bool.false_ne_true]; rw [show PySem.Txt.slice (⟨#[dg (y.toNat / 1000), dg (y.toNat / 100), dg (y.toNat / 10), dg y.toNat, dg (m.toNat / 10), dg m.toNat, dg (d.toNat / 10), dg d.toNat]⟩ : PySem.Str) (some (4 + 0)) (some (4 + 0 + 1)) = ⟨#[dg (m.toNat / 10)]⟩ from by kernel_rfl, lit_w, one_eq, decide_eq_false (dg_n87 _)]) (by rw [show (PySem.Txt.item (⟨#[dg (y.toNat / 1000), dg (y.toNat / 100), dg (y.toNat / 10), dg y.toNat, dg (m.toNat / 10), dg m.toNat, dg (d.toNat / 10), dg d.toNat]⟩ : PySem.Str) 4 == PySem.Str.ofString "-") = false from (by rw [show PySem.Txt.item (⟨#[dg (y.toNat / 1000), dg (y.toNat / 100), dg (y.toNat / 10), dg y.toNat, dg (m.toNat / 10), dg m.toNat, dg (d.toNat / 10), dg d.toNat]⟩ : PySem.Str) 4 = ⟨#[dg (m.toNat / 10)]⟩ from by kernel_rfl, lit_dash, one_eq, decide_eq_false (dg_n45 _)])]; rw [if_neg Bool.false_ne_true]; exact wk_reads ok.2.1.1 ok.2.1.2) d (by rw [show (PySem.Txt.item (⟨#[dg (y.toNat / 1000), dg (y.toNat / 100), dg (y.toNat / 10), dg y.toNat, dg (m.toNat / 10), dg m.toNat, dg (d.toNat / 10), dg d.toNat]⟩ : PySem.Str) 4 == PySem.Str.ofString "-") = false from (by rw [show PySem.Txt.item (⟨#[dg (y.toNat / 1000), dg (y.toNat / 100), dg (y.toNat / 10), dg y.toNat, dg (m.toNat / 10), dg m.toNat, dg (d.toNat / 10), dg d.toNat]⟩ : PySem.Str) 4 = ⟨#[dg (m.toNat / 10)]⟩ from by kernel_rfl, lit_dash, one_eq, decide_eq_false (dg_n45 _)])]; rw [if_neg Bool.false_ne_true]; rw [show PySem.Txt.slice (⟨#[dg (y.toNat / 1000), dg (y.toNat / 100), dg (y.toNat / 10), dg y.toNat, dg (m.toNat / 10), dg m.toNat, dg (d.toNat / 10), dg d.toNat]⟩ : PySem.Str) (some (4 + 0 + 2)) (some (4 + 0 + 2 + 1)) = ⟨#[dg (d.toNat / 10)]⟩ from by kernel_rfl, lit_dash, one_eq, decide_eq_false (dg_n45 _)]; rfl) (by rw [show (PySem.Txt.item (⟨#[dg (y.toNat / 1000), dg (y.toNat / 100), dg (y.toNat / 10), dg y.toNat, dg (m.toNat / 10), dg m.toNat, dg (d.toNat / 10), dg d.toNat]⟩ : PySem.Str) 4 == PySem.Str.ofString "-") = false from (by rw [show PySem.Txt.item (⟨#[dg (y.toNat / 1000), dg (y.toNat / 100), dg (y.toNat / 10), dg y.toNat, dg (m.toNat / 10), dg m.toNat, dg (d.toNat / 10), dg d.toNat]⟩ : PySem.Str) 4 = ⟨#[dg (m.toNat / 10)]⟩ from by kernel_rfl, lit_dash, one_eq, decide_eq_false (dg_n45 _)])]; rw [if_neg Bool.false_ne_true]; rw [show PySem.Txt.slice (⟨#[dg (y.toNat / 1000), dg (y.toNat / 100), dg (y.toNat / 10), dg y.toNat, dg (m.toNat / 10), dg m.toNat, dg (d.toNat / 10), dg d.toNat]⟩ : PySem.Str) (some (4 + 0 + 2 + 0)) (some (4 + 0 + 2 + 0 + 2)) = ⟨#[dg (d.toNat / 10), dg d.toNat]⟩ from by kernel_rfl]; exact wk_reads ok.2.2.1 ok.2.2.2))
  | ms y m k => exact read_month w mean mg mb ok.1 ok.2.1 ⟨ok.2.2.1, by have := ok.2.2.2; omega⟩ rfl rfl rfl (c_parseD w mean mg mb (⟨#[dg (y.toNat / 1000), dg (y.toNat / 100), dg (y.toNat / 10), dg y.toNat, dg (m.toNat / 10), dg m.toNat, dg k.toNat]⟩ : PySem.Str) t y m (by show (7 : Nat) ≤ 7; decide) (by show (7 : Nat) ≤ 10; decide) rfl (yr_reads ok.1.1 ok.1.2) (by have := ok.1.1; omega) (by have := ok.1.2; omega) (by rw [show (PySem.Txt.item (⟨#[dg (y.toNat / 1000), dg (y.toNat / 100), dg (y.toNat / 10), dg y.toNat, dg (m.toNat / 10), dg m.toNat, dg k.toNat]⟩ : PySem.Str) 4 == PySem.Str.ofString "-") = false from (by rw [show PySem.Txt.item (⟨#[dg (y.toNat / 1000), dg (y.toNat / 100), dg (y.toNat / 10), dg y.toNat, dg (m.toNat / 10), dg m.toNat, dg k.toNat]⟩ : PySem.Str) 4 = ⟨#[dg (m.toNat / 10)]⟩ from by kernel_rfl, lit_dash, one_eq, decide_eq_false (dg_n45 _)])]; rw [if_neg Bool.false_ne_true]; rw [show PySem.Txt.slice (⟨#[dg (y.toNat / 1000), dg (y.toNat / 100), dg (y.toNat / 10), dg y.toNat, dg (m.toNat / 10), dg m.toNat, dg k.toNat]⟩ : PySem.Str) (some (4 + 0)) (some (4 + 0 + 1)) = ⟨#[dg (m.toNat / 10)]⟩ from by kernel_rfl, lit_w, one_eq, decide_eq_false (dg_n87 _)]) (by rw [show (PySem.Txt.item (⟨#[dg (y.toNat / 1000), dg (y.toNat / 100), dg (y.toNat / 10), dg y.toNat, dg (m.toNat / 10), dg m.toNat, dg k.toNat]⟩ : PySem.Str) 4 == PySem.Str.ofString "-") = false from (by rw [show PySem.Txt.item (⟨#[dg (y.toNat / 1000), dg (y.toNat / 100), dg (y.toNat / 10), dg y.toNat, dg (m.toNat / 10), dg m.toNat, dg k.toNat]⟩ : PySem.Str) 4 = ⟨#[dg (m.toNat / 10)]⟩ from by kernel_rfl, lit_dash, one_eq, decide_eq_false (dg_n45 _)])]; rw [if_neg Bool.false_ne_true]; exact wk_reads ok.2.1.1 ok.2.1.2) k (by rw [show (PySem.Txt.item (⟨#[dg (y.toNat / 1000), dg (y.toNat / 100), dg (y.toNat / 10), dg y.toNat, dg (m.toNat / 10), dg m.toNat, dg k.toNat]⟩ : PySem.Str) 4 == PySem.Str.ofString "-") = false from (by rw [show PySem.Txt.item (⟨#[dg (y.toNat / 1000), dg (y.toNat / 100), dg (y.toNat / 10), dg y.toNat, dg (m.toNat / 10), dg m.toNat, dg k.toNat]⟩ : PySem.Str) 4 = ⟨#[dg (m.toNat / 10)]⟩ from by kernel_rfl, lit_dash, one_eq, decide_eq_false (dg_n45 _)])]; rw [if_neg Bool.false_ne_true]; rw [show PySem.Txt.slice (⟨#[dg (y.toNat / 1000), dg (y.toNat / 100), dg (y.toNat / 10), dg y.toNat, dg (m.toNat / 10), dg m.toNat, dg k.toNat]⟩ : PySem.Str) (some (4 + 0 + 2)) (some (4 + 0 + 2 + 1)) = ⟨#[dg k.toNat]⟩ from by kernel_rfl, lit_dash, one_eq, decide_eq_false (dg_n45 _)]; rfl) (by rw [show (PySem.Txt.item (⟨#[dg (y.toNat / 1000), dg (y.toNat / 100), dg (y.toNat / 10), dg y.toNat, dg (m.toNat / 10), dg m.toNat, dg k.toNat]⟩ : PySem.Str) 4 == PySem.Str.ofString "-") = false from (by rw [show PySem.Txt.item (⟨#[dg (y.toNat / 1000), dg (y.toNat / 100), dg (y.toNat / 10), dg y.toNat, dg (m.toNat / 10), dg m.toNat, dg k.toNat]⟩ : PySem.Str) 4 = ⟨#[dg (m.toNat / 10)]⟩ from by kernel_rfl, lit_dash, one_eq, decide_eq_false (dg_n45 _)])]; rw [if_neg Bool.false_ne_true]; rw [show PySem.Txt.slice (⟨#[dg (y.toNat / 1000), dg (y.toNat / 100), dg (y.toNat / 10), dg y.toNat, dg (m.toNat / 10), dg m.toNat, dg k.toNat]⟩ : PySem.Str) (some (4 + 0 + 2 + 0)) (some (4 + 0 + 2 + 0 + 2)) = ⟨#[dg k.toNat]⟩ from by kernel_rfl]; exact dy_reads ok.2.2.1 ok.2.2.2))
  | wd y w9 => exact read_weekS w mean mg mb ok.1 rfl rfl rfl (show WkS _ _ _ from wkS8 (yr_reads ok.1.1 ok.1.2) (wk_reads ok.2.1 ok.2.2) ok.1.1 ok.1.2 ok.2.1 ok.2.2)
  | wdk y w9 k => exact read_weekL w mean mg mb ok.1 rfl rfl rfl (show WkL _ _ _ _ from wkL10 (yr_reads ok.1.1 ok.1.2) (wk_reads ok.2.1.1 ok.2.1.2) (dy_reads ok.2.2.1 ok.2.2.2) ok.1.1 ok.1.2 ok.2.1.1 ok.2.1.2 ok.2.2.1 ok.2.2.2)
  | wc y w9 => exact read_weekS w mean mg mb ok.1 rfl rfl rfl (show WkS _ _ _ from wkS7 (yr_reads ok.1.1 ok.1.2) (wk_reads ok.2.1 ok.2.2) ok.1.1 ok.1.2 ok.2.1 ok.2.2)
  | wck y w9 k => exact read_weekL w mean mg mb ok.1 rfl rfl rfl (show WkL _ _ _ _ from wkL8 (yr_reads ok.1.1 ok.1.2) (wk_reads ok.2.1.1 ok.2.1.2) (dy_reads ok.2.2.1 ok.2.2.2) (dg_n45 _) ok.1.1 ok.1.2 ok.2.1.1 ok.2.1.2 ok.2.2.1 ok.2.2.2)
  | ws y w9 => exact read_weekS w mean mg mb ok.1 rfl rfl rfl (show WkS _ _ _ from wkS7b (yr_reads ok.1.1 ok.1.2) (dy_reads ok.2.1 ok.2.2) ok.1.1 ok.1.2 ok.2.1 (by have := ok.2.2; omega))
  | mx y m => 
    have h := c_parseX w mean mg mb (⟨#[dg (y.toNat / 1000), dg (y.toNat / 100), dg (y.toNat / 10), dg y.toNat, 45, dg (m.toNat / 10), dg m.toNat]⟩ : PySem.Str) t y m (by show (7 : Nat) ≤ 7; decide) (by show (7 : Nat) ≤ 10; decide) rfl (yr_reads ok.1.1 ok.1.2) (by have := ok.1.1; omega) (by have := ok.1.2; omega) (by rw [show (if (PySem.Txt.item (⟨#[dg (y.toNat / 1000), dg (y.toNat / 100), dg (y.toNat / 10), dg y.toNat, 45, dg (m.toNat / 10), dg m.toNat]⟩ : PySem.Str) 4 == PySem.Str.ofString "-") = true then (1 : Int) else 0) = 1 from rfl]; rw [show PySem.Txt.slice (⟨#[dg (y.toNat / 1000), dg (y.toNat / 100), dg (y.toNat / 10), dg y.toNat, 45, dg (m.toNat / 10), dg m.toNat]⟩ : PySem.Str) (some (4 + 1)) (some (4 + 1 + 1)) = ⟨#[dg (m.toNat / 10)]⟩ from by kernel_rfl, lit_w, one_eq, decide_eq_false (dg_n87 _)]) (by rw [show (if (PySem.Txt.item (⟨#[dg (y.toNat / 1000), dg (y.toNat / 100), dg (y.toNat / 10), dg y.toNat, 45, dg (m.toNat / 10), dg m.toNat]⟩ : PySem.Str) 4 == PySem.Str.ofString "-") = true then (1 : Int) else 0) = 1 from rfl]; exact wk_reads ok.2.1 ok.2.2) (by rw [show (if (PySem.Txt.item (⟨#[dg (y.toNat / 1000), dg (y.toNat / 100), dg (y.toNat / 10), dg y.toNat, 45, dg (m.toNat / 10), dg m.toNat]⟩ : PySem.Str) 4 == PySem.Str.ofString "-") = true then (1 : Int) else 0) = 1 from rfl]; rfl)
    unfold C Ctr at h ⊢
    intro dp un gd cn cs a ccd cl outer A₀ base h₀ L m₀ news s Q E h1 h2 h3 h4 h5 h6 h7 h8 hret
    exact h dp un gd cn cs a ccd cl outer A₀ base h₀ L m₀ news s Q E h1 h2 h3 h4 h5 h6 h7 h8 (hret.1 _ rfl)
end Mine
end
section
namespace Mine
section
open PySem.Calls
theorem day0 {prog : Program} {w : World} {A : Around} {E : Value → Shared → Prop} {s : Shared} {h₀ : Heap} {L a : Addr} {n : Nat} {news : List (Addr × Obj)} {value slice : PySem.Expr} {v₀ v₁ v₂ : Value} {u : Tok} {Q : Value → Shared → Prop} (N : News h₀ L s.heap news) (hm : (a, W.listOf #[v₀, v₁, v₂] n) ∈ news) (h : Q v₀ s)
    (hs : subscripted slice false (.ref a) (.int 0 u) = operate [.ref a, .int 0 u] (getItem (.ref a) (.int 0 u)) := by with_unfolding_all rfl) :
    wpAny (model prog w) A (subscriptTail value slice (.ref a) (.int 0 u)) Q E s :=
  have hL : s.heap.IsList a #[v₀, v₁, v₂] := ⟨_, (N _ hm).1, rfl, _, rfl⟩
  tail_any hL.typeIs slot_list_getitem.lookup (wpAny_getItem_list hL (by decide) (by decide) rfl h) hs
theorem day1 {prog : Program} {w : World} {A : Around} {E : Value → Shared → Prop} {s : Shared} {h₀ : Heap} {L a : Addr} {n : Nat} {news : List (Addr × Obj)} {value slice : PySem.Expr} {v₀ v₁ v₂ : Value} {u : Tok} {Q : Value → Shared → Prop} (N : News h₀ L s.heap news) (hm : (a, W.listOf #[v₀, v₁, v₂] n) ∈ news) (h : Q v₁ s)
    (hs : subscripted slice false (.ref a) (.int 1 u) = operate [.ref a, .int 1 u] (getItem (.ref a) (.int 1 u)) := by with_unfolding_all rfl) :
    wpAny (model prog w) A (subscriptTail value slice (.ref a) (.int 1 u)) Q E s :=
  have hL : s.heap.IsList a #[v₀, v₁, v₂] := ⟨_, (N _ hm).1, rfl, _, rfl⟩
  tail_any hL.typeIs slot_list_getitem.lookup (wpAny_getItem_list hL (by decide) (by decide) rfl h) hs
theorem day2 {prog : Program} {w : World} {A : Around} {E : Value → Shared → Prop} {s : Shared} {h₀ : Heap} {L a : Addr} {n : Nat} {news : List (Addr × Obj)} {value slice : PySem.Expr} {v₀ v₁ v₂ : Value} {u : Tok} {Q : Value → Shared → Prop} (N : News h₀ L s.heap news) (hm : (a, W.listOf #[v₀, v₁, v₂] n) ∈ news) (h : Q v₂ s)
    (hs : subscripted slice false (.ref a) (.int 2 u) = operate [.ref a, .int 2 u] (getItem (.ref a) (.int 2 u)) := by with_unfolding_all rfl) :
    wpAny (model prog w) A (subscriptTail value slice (.ref a) (.int 2 u)) Q E s :=
  have hL : s.heap.IsList a #[v₀, v₁, v₂] := ⟨_, (N _ hm).1, rfl, _, rfl⟩
  tail_any hL.typeIs slot_list_getitem.lookup (wpAny_getItem_list hL (by decide) (by decide) rfl h) hs
end
theorem c_parS (w : World) (mean : ExcName → Option Value) (mg mb : Str → Option Value) (e : Ent) (tail : List Nat) (ok : e.Ok) (t : Tok) : C w mean mg mb 105 24 96 [.str (PySem.Txt.slice ⟨(e.txt ++ tail).toArray⟩ none (some (((⟨e.txt.toArray⟩ : PySem.Str).length : Nat) : Int))) t] (cRead e) := by
  rw [cut_head e.txt tail (by rw [str_len])]
  exact c_par w mean mg mb e ok t
set_option maxHeartbeats 16000000 in
theorem law03 : Challenge.rw_km0087_03.Holds := by
  w_on
  o_law
  refine holds_open (q := viewK) (loose := looseL) (Xt := fun s => xlAt viewK lvL s && recOk Challenge.rw_km0087_03.row.records s) (XP := XL viewK lvL) (Yf := Hook.obs hookL) (Ya := Hook.val hookL) (YP := Hook.says hookL) (N := 3448) ?hl (Hook.of hookL) (Hook.keeps hookL) (fun s e => xl_of s (Bool.and_eq_true_iff.mp e).1) XL.keeps (by rfl) (by rfl) (by rfl) (fun s e => recFacts_of (Bool.and_eq_true_iff.mp e).2) (by rfl) (by first | assumption | decide +kernel) (by decide +kernel) ⟨rfl, rfl, rfl, rfl, rfl, by decide +kernel⟩ ?hw ?hc
  case hl => exact leftL
  case hw => w_witness2
  exact (by
  (rename_i said9; clear said9)
  delta hookL looseL lvL asL
  w_top off
  k_with_none
  (k_with "eval IfExp" => (k_here; (with_reducible show wpAny _ _ (eval (PySem.Expr.IfExp _ (PySem.Expr.Subscript _ _ _) _ _) _) _ _ _); (fail_if_success (with_reducible rename JMark => jM')); k_dflt ((refine' joinN ?wq7zF ?wq7zN ?_ ?_); (case wq7zF => k_asm); (case wq7zN => k_asm)); (rotate_left 1; (intro D9 ws9 ns9 h9 tk9 hi9 hn9 hn9' F9 N9 l1; (try dsimp only); (try k_fold); (try k_lt l1)); rotate_right 1; intro jM')))
  (k_with "JN" => (k_dflt ((refine' JN.intro ?wq7zi ?wq7z1 ?wq7z2 ?wq7zF ?wq7zN ?wq7zS ?wq7zl); (case wq7zF => k_asm); (case wq7zN => k_asm); (case wq7zS => kcf_all); (case wq7zi => first | with_reducible assumption | exact .cons _ _ .nil); (case wq7z1 => first | exact take_pos (by assumption) | decide); (case wq7z2 => first | exact take_le | decide); (case wq7zl => first | exact one_lt (And.right (by with_reducible assumption)) | exact one_lt (And.right (And.right (by with_reducible assumption))) | first | with_reducible assumption | exact lt0 (by with_reducible assumption) | exact lt0 (And.right (by with_reducible assumption)) | exact lt0 (And.right (And.right (by with_reducible assumption))) | exact lt0 (And.right (And.right (And.right (by with_reducible assumption)))) | exact lt0 (And.right (And.right (And.right (And.right (by with_reducible assumption))))) | exact lt0 (And.right (And.right (And.right (And.right (And.right (by with_reducible assumption)))))) | exact lt0 (And.right (And.right (And.right (And.right (And.right (And.right (by with_reducible assumption))))))) | exact lt0 (And.right (And.right (And.right (And.right (And.right (And.right (And.right (by with_reducible assumption)))))))) | exact ltX (by with_reducible assumption) | exact ltX (And.right (by with_reducible assumption)) | exact ltX (And.right (And.right (by with_reducible assumption))) | exact ltX (And.right (And.right (And.right (by with_reducible assumption)))) | exact ltX (And.right (And.right (And.right (And.right (by with_reducible assumption))))) | exact ltX (And.right (And.right (And.right (And.right (And.right (by with_reducible assumption)))))) | exact ltX (And.right (And.right (And.right (And.right (And.right (And.right (by with_reducible assumption))))))) | exact ltX (And.right (And.right (And.right (And.right (And.right (And.right (And.right (by with_reducible assumption))))))))))))
  (k_with "CompSrc" => (k_here; k_dflt (refine LCg.CompSrc.range (by rfl) (by k_asm) (by k_asm) (by assumption) (by exact cnt_small0 (by assumption)) (by exact cnt_range0) (by exact cnt_size (by assumption)) ?_; intro g'; (refine' ent_rest (fun k' t' I' oI' C' oC' D' m' ys' tl' h' tk' E' hlo' hhi' hC' hx' F' N' off' ne' => ?_) (fun ys' tl' es' hA' hl' hL' => ?_)))))
  (k_with "call ref" => (k_dflt ( (refine' use ?wq7c ?wq7k1 ?wq7k2 ?wq7k3 ?wq7k4 ?wq7k5 ?wq7k6 ?wq7k7 ?wq7k8 ?_); (case wq7k2 => k_asm); (case wq7k1 => k_asm); (case wq7k3 => k_asm); (case wq7k4 => k_asm); (case wq7k5 => k_asm); (case wq7c => first  | exact c_entry _ _ _ _ _ 9 _ _ true (by decide) (by decide) (fun _ => rfl) | exact c_entry _ _ _ _ _ 6 _ _ false (by decide) (by decide) (fun h => absurd h (by decide))); (case wq7k6 => first | exact rfl | assumption); (case wq7k7 => ktr_room); (case wq7k8 => ktr_units); (intro v9 new9 h9 tk9 P9 fr9 F9 N9; (try dsimp only); (try k_fold)))))
  (k_with "CompEnd" => (k_dflt (refine LCg.CompEnd.intro (by assumption) (by assumption) _ (fun _ h => h) (by first | assumption | (simp only [LCg.Off3, and_true]; assumption)) (by lcg_src) ?_)))
  (k_with "CompEnd" => (k_dflt (refine' ent_end ?wq7zP ?wq7zF ?wq7zN ?wq7zo ?wq7zf ?wq7zl; (case wq7zP => with_reducible assumption); (case wq7zF => k_asm); (case wq7zN => with_reducible assumption); (case wq7zo => with_reducible assumption); (case wq7zf => with_reducible assumption); (case wq7zl => first | exact fun _ => decide_eq_true (by omega) | exact fun h => absurd h Bool.false_ne_true))))
  (k_with "subscriptTail Name Constant ref int" => (k_here; (with_reducible rename AllHas EntIn _ _ _ => hA9); k_dflt (refine' ent_item ?wq7zN ?wq7zm hA9 ?wq7z0 ?wq7z1 ?wq7z2 ?_; (case wq7zN => k_asm); (case wq7zm => (repeat (first | (with_reducible exact List.mem_cons_self) | (with_reducible refine List.mem_cons_of_mem _ ?_) | (with_reducible refine List.mem_append_left _ ?_)))); (case wq7z0 => omega); (case wq7z1 => omega); (case wq7z2 => omega); k_whole); intro e9 a9 b9 t9 n9 vs9 dv9 he9 hE9; (try dsimp only)))
  (k_with "subscriptTail Name Name ref int" => (k_here; (with_reducible rename AllHas EntIn _ _ _ => hA9); k_dflt (refine' ent_item ?wq7zN ?wq7zm hA9 ?wq7z0 ?wq7z1 ?wq7z2 ?_; (case wq7zN => k_asm); (case wq7zm => (repeat (first | (with_reducible exact List.mem_cons_self) | (with_reducible refine List.mem_cons_of_mem _ ?_) | (with_reducible refine List.mem_append_left _ ?_)))); (case wq7z0 => omega); (case wq7z1 => omega); (case wq7z2 => omega); k_whole); intro e9 a9 b9 t9 n9 vs9 dv9 he9 hE9; (try dsimp only)))
  (k_with "subscriptTail Subscript Name Constant Constant ref int" => (k_here; (with_reducible rename EntAt _ _ _ _ _ _ _ _ => hE9); k_dflt (refine' tup_item0 ?wq7zN hE9.tup ?wq7zs ?_; (case wq7zN => k_asm); (case wq7zs => (intro p9 hp9; (simp only [List.mem_cons, List.mem_append, List.append_assoc, List.cons_append, List.nil_append, hp9, true_or, or_true]))); k_whole)))
  (k_with "subscriptTail Subscript Name Name Constant ref int" => (k_here; (with_reducible rename EntAt _ _ _ _ _ _ _ _ => hE9); k_dflt (refine' tup_item0 ?wq7zN hE9.tup ?wq7zs ?_; (case wq7zN => k_asm); (case wq7zs => (intro p9 hp9; (simp only [List.mem_cons, List.mem_append, List.append_assoc, List.cons_append, List.nil_append, hp9, true_or, or_true]))); k_whole)))
  (k_with "exec For Name Call cons nil" => (k_here; (rename Fr _ _ _ _ => lF'); (with_unfolding_all refine' For_invVF lF' ?wq7k1 ?wq7k2 ?_; (case wq7k1 => exact rfl); (case wq7k2 => exact rfl); k_whole)))
  (k_with "exec For Tuple Name cons nil" => (k_here; (rename Fr _ _ _ _ => lF'); (with_unfolding_all refine' For_invTF lF' ?_ ?wq7k2; (case wq7k2 => exact fun _ => rfl); k_whole)))
  (k_with "pyIter ref" => (k_here; (with_reducible show wpAny _ _ (pyIter (Value.ref _)) (fun it s₂ => LoopAtV _ _ _ _ _ _ _ _ _ it s₂) _ _); k_dflt (refine' loop_grow (a := PySem.Str.ofString "left") (GrowP _) ?wq7zh ?wq7zr ?wq7zs ?wq7zc ?wq7zF ?wq7zN ?wq7zl ?wq7zP ?_ ?_; (case wq7zh => exact rfl); (case wq7zF => k_asm); (case wq7zN => k_asm); (case wq7zr => assumption); (case wq7zs => exact cnt_small1 (by assumption)); (case wq7zc => exact cnt_range1 (by assumption)); (case wq7zP => exact grow0 (by assumption)); (case wq7zl => with_unfolding_all exact rfl)); (rotate_left 1; (intro T9 x9 u9 h9 tk9 hP9 F9 N9; k_dflt (obtain ⟨cs9, hc9, hm9, hT9⟩ := hP9; subst hT9); (try dsimp only); (try k_fold)); rotate_right 1; (intro i9 T9 t9 x9 h9 tk9 own9 hi9 hP9 F9 N9; (try simp only [List.cons_append, List.nil_append] at N9); (try dsimp only); (try k_fold)))))
  (k_with "pyIter ref" => (k_here; (with_reducible show wpAny _ _ (pyIter (Value.ref _)) (fun it s₂ => LoopAtT _ _ _ _ _ _ _ _ _ it s₂) _ _); (with_reducible rename AllHas EntIn _ _ _ => hA9); k_dflt (refine' loop_eat (a := PySem.Str.ofString "left") (EatP _ _) ?wq7zh ?wq7zF ?wq7zN ?wq7zm ?wq7zl ?wq7zP ?_ ?_; (case wq7zh => exact rfl); (case wq7zF => k_asm); (case wq7zN => k_asm); (case wq7zm => (repeat (first | (with_reducible exact List.mem_cons_self) | (with_reducible refine List.mem_cons_of_mem _ ?_) | (with_reducible refine List.mem_append_left _ ?_)))); (case wq7zP => exact eat0); (case wq7zl => with_unfolding_all exact rfl)); (rotate_left 1; (intro m9 h9 tk9 F9 N9; (try dsimp only); (try k_fold)); rotate_right 1; (intro i9 v9 T9 x9 m9 s9 h9 tk9 own9 hv9 hP9 F9 N9; obtain ⟨e9, a9, b9, t9, k9, vs9, dv9, tl9, rest9, ev9, eT9, ht9, hl9, hb9, hE9, hP9'⟩ := eat_turn hA9 (by assumption) (by assumption) (by assumption) (by assumption) (by assumption) (by assumption) hv9 hP9; subst ev9 eT9; have hz9 := ent_small e9; have hy9 := ent_small2 (e := e9) hb9; have ok9 := hE9.ok; (try simp only [List.cons_append, List.nil_append] at N9); replace N9 := news_pull N9 hE9.lst (by intro p9 hp9; (simp only [List.mem_cons, List.mem_append, List.append_assoc, List.cons_append, List.nil_append, hp9, true_or, or_true])); replace N9 := news_pull N9 hE9.tup (by intro p9 hp9; (simp only [List.mem_cons, List.mem_append, List.append_assoc, List.cons_append, List.nil_append, hp9, true_or, or_true])); (try dsimp only); (try k_fold)))))
  (k_with "call ref" => (k_dflt ( (refine' use ?wq7c ?wq7k1 ?wq7k2 ?wq7k3 ?wq7k4 ?wq7k5 ?wq7k6 ?wq7k7 ?wq7k8 ?_); (case wq7k2 => k_asm); (case wq7k1 => k_asm); (case wq7k3 => k_asm); (case wq7k4 => k_asm); (case wq7k5 => k_asm); (case wq7c => first  | exact c_mark _ _ _ _ _ _); (case wq7k6 => first | exact rfl | assumption); (case wq7k7 => ktr_room); (case wq7k8 => ktr_units); (intro x9 t9 h9 tk9 hx9 F9 N9; (try dsimp only); (try k_fold)))))
  (k_with "binaryOp Add str str" => (k_here; (with_reducible rename IsMark _ => hx9); (with_reducible rename EntAt _ _ _ _ _ _ _ _ => hE9); k_dflt (refine' SBL.add (hsz := ?wq7zz) ?_; (case wq7zz => exact mark_size hx9)); intro _ _; (try dsimp only); (try k_fold)))
  (k_with "inplaceOp Add str str" => (k_here; (with_reducible rename IsMark _ => hx9); (with_reducible rename GrowP _ _ _ => hP9); k_dflt (refine' SBL.iadd (hsz := ?wq7zz) ?_; (case wq7zz => exact grow_size hP9 (by omega) hx9)); intro _ _; (try dsimp only); (try k_fold)))
  (k_with "call ref" => (k_dflt ( (refine' use ?wq7c ?wq7k1 ?wq7k2 ?wq7k3 ?wq7k4 ?wq7k5 ?wq7k6 ?wq7k7 ?wq7k8 ?_); (case wq7k2 => k_asm); (case wq7k1 => k_asm); (case wq7k3 => k_asm); (case wq7k4 => k_asm); (case wq7k5 => k_asm); (case wq7c => first  | exact c_sep _ _ _ _ _ _ _ (by assumption) (by assumption) (by assumption) _); (case wq7k6 => first | exact rfl | assumption); (case wq7k7 => ktr_room); (case wq7k8 => ktr_units); (intro t9 h9 tk9 F9 N9; (try dsimp only); (try k_fold)))))
  (k_with "call ref" => (k_dflt ( (refine' use ?wq7c ?wq7k1 ?wq7k2 ?wq7k3 ?wq7k4 ?wq7k5 ?wq7k6 ?wq7k7 ?wq7k8 ?_); (case wq7k2 => k_asm); (case wq7k1 => k_asm); (case wq7k3 => k_asm); (case wq7k4 => k_asm); (case wq7k5 => k_asm); (case wq7c => first  | exact c_parS _ _ _ _ _ _ (by assumption) _); (case wq7k6 => first | exact rfl | assumption); (case wq7k7 => ktr_room); (case wq7k8 => ktr_units); (refine ⟨fun msg9 hm9 => ?_, fun hm9 => ?_⟩; (intro e8 t8 k8 h8 G8 tk8 R8 F8 U8; (with_reducible rename EntAt _ _ _ _ _ _ _ _ => hE9); k_dflt (obtain ⟨a7, k7, ed7, hm7⟩ := due_bad hE9 hm9; subst ed7); (try dsimp only); (try k_fold)); rotate_left 1; (intro l9 o9 h9 tk9 P9 F9 N9 l1; k_dflt (obtain ⟨yy, mm, dd, ty, tm, td, kk, eo, hb1, hb2, hb3, hp8, hd8⟩ := P9; subst eo); (try simp only [List.cons_append, List.nil_append] at N9); (try dsimp only); (try k_fold); (try k_lt l1)); rotate_right 1))))
  (k_with "call ref" => (k_dflt ( (refine' use ?wq7c ?wq7k1 ?wq7k2 ?wq7k3 ?wq7k4 ?wq7k5 ?wq7k6 ?wq7k7 ?wq7k8 ?_); (case wq7k2 => k_asm); (case wq7k1 => k_asm); (case wq7k3 => k_asm); (case wq7k4 => k_asm); (case wq7k5 => k_asm); (case wq7c => first  | exact c_check _ _ _ _ _ _ _ _ _ _ (by omega) (by omega) (by omega) (by omega) (by omega) (by omega)); (case wq7k6 => first | exact rfl | assumption); (case wq7k7 => ktr_room); (case wq7k8 => ktr_units); (refine ⟨fun p9 hp9 => ?_, fun hn9 => ?_⟩; (intro e8 t8 vs8 h8 G8 tk8 hv8 R8 F8 U8; (with_reducible rename EntAt _ _ _ _ _ _ _ _ => hE9); k_dflt (obtain ⟨k8, k9, ev8⟩ := hv8; subst ev8; obtain ⟨a7, k7, k7', ed7, hm7⟩ := due_two hE9 (by assumption) hp9; subst ed7); (try dsimp only); (try k_fold)); rotate_left 1; (intro v9 new9 h9 tk9 P9 fr9 F9 N9; (with_reducible rename EntAt _ _ _ _ _ _ _ _ => hE9); k_dflt (obtain ⟨t7, ed7⟩ := due_num hE9 (by assumption) hn9; subst ed7; obtain ⟨q1, q2, q3, q4, q5, q6⟩ := bc_none hn9); (try simp only [List.cons_append, List.nil_append] at N9); (try dsimp only); (try k_fold)); rotate_right 1))))
  (k_with "call ref" => (k_dflt ( (refine' use ?wq7c ?wq7k1 ?wq7k2 ?wq7k3 ?wq7k4 ?wq7k5 ?wq7k6 ?wq7k7 ?wq7k8 ?_); (case wq7k2 => k_asm); (case wq7k1 => k_asm); (case wq7k3 => k_asm); (case wq7k4 => k_asm); (case wq7k5 => k_asm); (case wq7c => first  | exact c_ymd _ _ _ _ _ _ _ _ _ _ (by assumption) (by assumption) (by assumption) (by assumption)); (case wq7k6 => first | exact rfl | assumption); (case wq7k7 => ktr_room); (case wq7k8 => ktr_units); (intro t9 h9 tk9 F9 N9; (try dsimp only); (try k_fold)))))
  (k_with "subscriptTail Name Constant ref int" => (k_here; (with_reducible show wpAny _ _ (subscriptTail _ _ (Value.ref _) (Value.int 0 _)) _ _ _); k_dflt (refine' day0 ?wq7zN ?wq7zm ?_; (case wq7zN => k_asm); (case wq7zm => (repeat (first | (with_reducible exact List.mem_cons_self) | (with_reducible refine List.mem_cons_of_mem _ ?_) | (with_reducible refine List.mem_append_left _ ?_)))); k_whole)))
  (k_with "subscriptTail Name Constant ref int" => (k_here; (with_reducible show wpAny _ _ (subscriptTail _ _ (Value.ref _) (Value.int 1 _)) _ _ _); k_dflt (refine' day1 ?wq7zN ?wq7zm ?_; (case wq7zN => k_asm); (case wq7zm => (repeat (first | (with_reducible exact List.mem_cons_self) | (with_reducible refine List.mem_cons_of_mem _ ?_) | (with_reducible refine List.mem_append_left _ ?_)))); k_whole)))
  (k_with "subscriptTail Name Constant ref int" => (k_here; (with_reducible show wpAny _ _ (subscriptTail _ _ (Value.ref _) (Value.int 2 _)) _ _ _); k_dflt (refine' day2 ?wq7zN ?wq7zm ?_; (case wq7zN => k_asm); (case wq7zm => (repeat (first | (with_reducible exact List.mem_cons_self) | (with_reducible refine List.mem_cons_of_mem _ ?_) | (with_reducible refine List.mem_append_left _ ?_)))); k_whole)))
  (k_with "noteFrame ref" => (k_here; (with_reducible show wpAny _ _ (noteFrame _ _) (fun _ s₂ => wpAny _ _ (setFlight _ none) (fun _ s₃ => wpAny _ _ (handleBy _ _ (PySem.ExceptHandler.ExceptHandler (some (PySem.Expr.Name ("ValueError" : PySem.Str) _)) (some _) _ _ :: _)) _ _ s₃) _ s₂) _ _); k_dflt (refine' caughtC ?wq7zR ?wq7zF ?wq7zK ?wq7zU ?wq7zX ?wq7zT ?wq7ze ?_; (case wq7zR => assumption); (case wq7zF => assumption); (case wq7zK => k_asm); (case wq7zU => assumption); (case wq7zX => assumption); (case wq7zT => assumption); (case wq7ze => k_is); k_whole); intro h' ot9 tk' F' n₂ N₂ G' C' N'; k_dflt (obtain ⟨cls9, dict9, data9, slots9⟩ := ot9; obtain ⟨e3', n9, e4'⟩ := C'; (dsimp only at e3' e4'); subst e3' e4'); (with_reducible rename DueAt _ _ _ => hm7); (try simp only [List.cons_append, List.nil_append] at N'); replace N' := news_pull N' hm7 (by intro p9 hp9; (simp only [List.mem_cons, List.mem_append, List.append_assoc, List.cons_append, List.nil_append, hp9, true_or, or_true])); (try dsimp only); (try k_fold)))
  (k_with "compareOp NotEq ref ref" => (k_here; (with_reducible show wpAny _ _ (compareOp CmpOp.NotEq (Value.ref _) (Value.ref _)) _ _ _); k_dflt (refine' types_ne ?wq7zN ?wq7za ?wq7zb ?wq7zu ?_; (case wq7zN => k_asm); (case wq7za => (repeat (first | (with_reducible exact List.mem_cons_self) | (with_reducible refine List.mem_cons_of_mem _ ?_) | (with_reducible refine List.mem_append_left _ ?_)))); (case wq7zb => (repeat (first | (with_reducible exact List.mem_cons_self) | (with_reducible refine List.mem_cons_of_mem _ ?_) | (with_reducible refine List.mem_append_left _ ?_)))); (case wq7zu => ke_room))))
  (k_with "compareOp NotEq ref ref" => (k_here; (with_reducible show wpAny _ _ (compareOp CmpOp.NotEq (Value.ref _) (Value.ref _)) _ _ _); k_dflt (refine' tup1_ne ?wq7zN ?wq7za ?wq7zb ?wq7zu ?_; (case wq7zN => k_asm); (case wq7za => (repeat (first | (with_reducible exact List.mem_cons_self) | (with_reducible refine List.mem_cons_of_mem _ ?_) | (with_reducible refine List.mem_append_left _ ?_)))); (case wq7zb => (repeat (first | (with_reducible exact List.mem_cons_self) | (with_reducible refine List.mem_cons_of_mem _ ?_) | (with_reducible refine List.mem_append_left _ ?_)))); (case wq7zu => ke_room))))
  (k_with "compareOp NotEq ref ref" => (k_here; (with_reducible show wpAny _ _ (compareOp CmpOp.NotEq (Value.ref _) (Value.ref _)) _ _ _); k_dflt (refine' tup2_ne ?wq7zN ?wq7za ?wq7zb ?wq7zu ?_; (case wq7zN => k_asm); (case wq7za => (repeat (first | (with_reducible exact List.mem_cons_self) | (with_reducible refine List.mem_cons_of_mem _ ?_) | (with_reducible refine List.mem_append_left _ ?_)))); (case wq7zb => (repeat (first | (with_reducible exact List.mem_cons_self) | (with_reducible refine List.mem_cons_of_mem _ ?_) | (with_reducible refine List.mem_append_left _ ?_)))); (case wq7zu => ke_room))))
  (k_with "compareOp NotEq ref ref" => (k_here; (with_reducible show wpAny _ _ (compareOp CmpOp.NotEq (Value.ref _) (Value.ref _)) _ _ _); (with_reducible rename EntAt _ _ _ _ _ _ _ _ => hE9); k_dflt (refine' parts_ne hE9 ?wq7zN ?wq7zs ?wq7zb ?wq7zu ?_ ?_; (case wq7zN => k_asm); (case wq7zb => (repeat (first | (with_reducible exact List.mem_cons_self) | (with_reducible refine List.mem_cons_of_mem _ ?_) | (with_reducible refine List.mem_append_left _ ?_)))); (case wq7zs => (intro p9 hp9; (simp only [List.mem_cons, List.mem_append, List.append_assoc, List.cons_append, List.nil_append, hp9, true_or, or_true]))); (case wq7zu => ke_room)); (intro hp9; (try dsimp only)); rotate_left 1; (intro hp9; (try dsimp only)); rotate_right 1))
  (k_with "compareOp NotEq ref ref" => (k_here; (with_reducible show wpAny _ _ (compareOp CmpOp.NotEq (Value.ref _) (Value.ref _)) _ _ _); (with_reducible rename EntAt _ _ _ _ _ _ _ _ => hE9); k_dflt (refine' day_same hE9 ?wq7zN ?wq7zs ?wq7zb ?wq7zu ?wq7zp ?wq7zn ?_; (case wq7zN => k_asm); (case wq7zb => (repeat (first | (with_reducible exact List.mem_cons_self) | (with_reducible refine List.mem_cons_of_mem _ ?_) | (with_reducible refine List.mem_append_left _ ?_)))); (case wq7zp => assumption); (case wq7zn => assumption); (case wq7zs => (intro p9 hp9; (simp only [List.mem_cons, List.mem_append, List.append_assoc, List.cons_append, List.nil_append, hp9, true_or, or_true]))); (case wq7zu => ke_room))))
  (k_with "exec Try cons cons nil nil" => (k_here; (with_reducible refine wpAny_Try_except ?_)))
  (k_with "compareOp NotEq type:int type:int" => (k_here; (with_reducible refine type_ne_int ?_)))
  (k_with "compareOp NotEq type:tuple type:tuple" => (k_here; (with_reducible refine type_ne_tuple ?_)))
  (k_with "bind" => (k_here; (with_reducible show wpAny _ _ (do bindName (envOfC _ _ _ _ _) _ Value.none; unbindBehindTheSuite (envOfC _ _ _ _ _) _ _) _ _ _); k_dflt (refine' name_goesC ?wq7zF ?wq7zN ?_; (case wq7zF => k_asm); (case wq7zN => k_asm); k_whole); intro h' v' F' N'; (try k_sweep)))
  k_go0
  all_goals try k_fold
  k_steps
  all_goals (try k_data)
  all_goals first
  | (refine' GrowPost.next ?zF ?zN ?zS ?za ?zm ?zP; (case zF => k_asm); (case zN => k_asm); (case zS => kcf_all); (case za => with_unfolding_all exact rfl); (case zm => (intro z9 hz1 hz2; simp only [if_neg hz1, if_neg hz2])); (case zP => exact growS (by assumption) (by assumption) (by assumption)))
  | (refine' EatPost.next ?zF ?zN ?zS ?za ?zP; (case zF => k_asm); (case zN => k_asm); (case zS => kcf_all); (case za => with_unfolding_all exact rfl); (case zP => exact eat_cut (by assumption) (by assumption)))
  | (exfalso; (with_reducible rename _ ≠ _ => hne9); exact hne9 rfl))
end Mine
end
theorem PySem.Challenge.cw_km0087_03_holds : PySem.Challenge.rw_km0087_03.Holds := by
  exact Mine.law03
