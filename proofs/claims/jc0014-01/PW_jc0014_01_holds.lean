import PyProof.Rows.All
import Wide.All
import OpenK.AllK
import Wide.FinOn
import KE.KxPercentT
import KE.KTryMore
import PySem.Challenge.RW_jc0014_01
open PySem PySem.W PySem.Calls PyProof.Rows
set_option Elab.async false
set_option linter.unusedVariables false
/-! ## Hd -/
section
open PySem PySem.W PySem.Calls PyProof.Rows
set_option maxRecDepth 100000
namespace Mine

noncomputable def stAt (i : Nat) : Option Stmt := PySem.Challenge.pw_jc0014_01.main.body[i]?
noncomputable def bodyAt (i : Nat) : List Stmt := match stAt i with
  | some (.FunctionDef _ _ b _ _ _ _ _ _ _) => b
  | _ => []
noncomputable def scopeAt (i : Nat) : Scope := match stAt i with
  | some (.FunctionDef _ _ _ _ _ _ sc _ _ _) => sc
  | _ => default
noncomputable def argsAt (i : Nat) : Arguments := match stAt i with
  | some (.FunctionDef _ a _ _ _ _ _ _ _ _) => a
  | _ => default
noncomputable def methAt (i j : Nat) : Option Stmt := match stAt i with
  | some (.ClassDef _ _ _ body _ _ _ _ _ _ _) => body[j]?
  | _ => none
noncomputable def mBody (i j : Nat) : List Stmt := match methAt i j with
  | some (.FunctionDef _ _ b _ _ _ _ _ _ _) => b
  | _ => []
noncomputable def mScope (i j : Nat) : Scope := match methAt i j with
  | some (.FunctionDef _ _ _ _ _ _ sc _ _ _) => sc
  | _ => default
noncomputable def mArgs (i j : Nat) : Arguments := match methAt i j with
  | some (.FunctionDef _ a _ _ _ _ _ _ _ _) => a
  | _ => default
/-! three methods' texts, written out by the elaborator -/
noncomputable def iB20 : List Stmt := by
  haveI h : ?b = mBody 20 0 := by conv => rhs; whnf
  exact ?b
noncomputable def iS20 : Scope := by
  haveI h : ?b = mScope 20 0 := by conv => rhs; whnf
  exact ?b
noncomputable def iA20 : Arguments := by
  haveI h : ?b = mArgs 20 0 := by conv => rhs; whnf
  exact ?b
noncomputable def iB6 : List Stmt := by
  haveI h : ?b = mBody 6 0 := by conv => rhs; whnf
  exact ?b
noncomputable def iS6 : Scope := by
  haveI h : ?b = mScope 6 0 := by conv => rhs; whnf
  exact ?b
noncomputable def iA6 : Arguments := by
  haveI h : ?b = mArgs 6 0 := by conv => rhs; whnf
  exact ?b
noncomputable def iB7 : List Stmt := by
  haveI h : ?b = mBody 7 0 := by conv => rhs; whnf
  exact ?b
noncomputable def iS7 : Scope := by
  haveI h : ?b = mScope 7 0 := by conv => rhs; whnf
  exact ?b
noncomputable def iA7 : Arguments := by
  haveI h : ?b = mArgs 7 0 := by conv => rhs; whnf
  exact ?b
/-- the heap behind the text's top -/
noncomputable def Kh : Params → Frag := fun P =>
  (nat_lit 2, { cls := Value.none, data := Data.dict #[{ hash := PyData.keyHash P (Str.ofString "\x69mport.loaded._sre"), key := Value.str (Str.ofString "\x69mport.loaded._sre") 183, val := Value.bool true }, { hash := PyData.keyHash P (Str.ofString "class._frozen_importlib.BuiltinImporter"), key := Value.str (Str.ofString "class._frozen_importlib.BuiltinImporter") 185, val := Value.ref 14 }, { hash := PyData.keyHash P (Str.ofString "watched.\x69mport"), key := Value.str (Str.ofString "watched.\x69mport") 206, val := Value.ref 18 }, { hash := PyData.keyHash P (Str.ofString "class._frozen_importlib.ModuleSpec"), key := Value.str (Str.ofString "class._frozen_importlib.ModuleSpec") 216, val := Value.ref 22 }, { hash := PyData.keyHash P (Str.ofString "sys.modules.booked-epoch"), key := Value.str (Str.ofString "sys.modules.booked-epoch") 245, val := Value.int 3 0 }, { hash := PyData.keyHash P (Str.ofString "\x69mport.later-laid._sre"), key := Value.str (Str.ofString "\x69mport.later-laid._sre") 270, val := Value.bool true }, { hash := PyData.keyHash P (Str.ofString "watched.library"), key := Value.str (Str.ofString "watched.library") 272, val := Value.ref 27 }, { hash := PyData.keyHash P (Str.ofString "watched.library-objects"), key := Value.str (Str.ofString "watched.library-objects") 0, val := Value.str (Str.ofString "\x0c") 0 }, { hash := PyData.keyHash P (Str.ofString "watched.library-deep._sre"), key := Value.str (Str.ofString "watched.library-deep._sre") 273, val := Value.str (Str.ofString "\x04\x00\x00\x0b\x04\x00\x00\x0b\x04\x00\x00\x03\x04\x00\x00\x0b\x08\x04dict\x02") 0 }, { hash := PyData.keyHash P (Str.ofString "type.__subclasses__.OSError.0"), key := Value.str (Str.ofString "type.__subclasses__.OSError.0") 360, val := Value.int 51 0 }, { hash := PyData.keyHash P (Str.ofString "type.__subclasses__.OSError.n"), key := Value.str (Str.ofString "type.__subclasses__.OSError.n") 361, val := Value.int 1 0 }] 11 }) ::
  (nat_lit 3, { cls := Value.type "dict", data := Data.dict #[{ hash := PyData.keyHash P (Str.ofString "__name__"), key := Value.str (Str.ofString "__name__") 165, val := Value.str (Str.ofString "law_jc0014_01") 603 }, { hash := PyData.keyHash P (Str.ofString "__doc__"), key := Value.str (Str.ofString "__doc__") 166, val := Value.none }, { hash := PyData.keyHash P (Str.ofString "__package__"), key := Value.str (Str.ofString "__package__") 167, val := Value.none }, { hash := PyData.keyHash P (Str.ofString "__loader__"), key := Value.str (Str.ofString "__loader__") 168, val := Value.builtin "__main__.__loader__#opaque" }, { hash := PyData.keyHash P (Str.ofString "__spec__"), key := Value.str (Str.ofString "__spec__") 169, val := Value.none }, { hash := PyData.keyHash P (Str.ofString "__annotations__"), key := Value.str (Str.ofString "__annotations__") 170, val := Value.ref 6 }, { hash := PyData.keyHash P (Str.ofString "__builtins__"), key := Value.str (Str.ofString "__builtins__") 171, val := Value.ref 4 }, { hash := PyData.keyHash P (Str.ofString "__file__"), key := Value.str (Str.ofString "__file__") 173, val := Value.str (Str.ofString "/claim/cut.py") 172 }, { hash := PyData.keyHash P (Str.ofString "__cached__"), key := Value.str (Str.ofString "__cached__") 174, val := Value.none }, { hash := PyData.keyHash P (Str.ofString "_sre"), key := Value.str (Str.ofString "_sre") 275, val := Value.ref 12 }, { hash := PyData.keyHash P (Str.ofString "_twin_re_1"), key := Value.str (Str.ofString "_twin_re_1") 299, val := Value.ref 36 }, { hash := PyData.keyHash P (Str.ofString "_twin_re_2"), key := Value.str (Str.ofString "_twin_re_2") 341, val := Value.ref 41 }, { hash := PyData.keyHash P (Str.ofString "CRLF"), key := Value.str (Str.ofString "CRLF") 343, val := Value.str (Str.ofString "\x0d\n") 342 }, { hash := PyData.keyHash P (Str.ofString "SMTPException"), key := Value.str (Str.ofString "SMTPException") 363, val := Value.ref 51 }, { hash := PyData.keyHash P (Str.ofString "SMTPResponseException"), key := Value.str (Str.ofString "SMTPResponseException") 391, val := Value.ref 71 }, { hash := PyData.keyHash P (Str.ofString "SMTPSenderRefused"), key := Value.str (Str.ofString "SMTPSenderRefused") 421, val := Value.ref 90 }, { hash := PyData.keyHash P (Str.ofString "SMTPDataError"), key := Value.str (Str.ofString "SMTPDataError") 437, val := Value.ref 102 }, { hash := PyData.keyHash P (Str.ofString "quotedata"), key := Value.str (Str.ofString "quotedata") 444, val := Value.ref 111 }, { hash := PyData.keyHash P (Str.ofString "lt"), key := Value.str (Str.ofString "lt") 454, val := Value.ref 118 }, { hash := PyData.keyHash P (Str.ofString "le"), key := Value.str (Str.ofString "le") 462, val := Value.ref 125 }, { hash := PyData.keyHash P (Str.ofString "eq"), key := Value.str (Str.ofString "eq") 470, val := Value.ref 132 }, { hash := PyData.keyHash P (Str.ofString "ne"), key := Value.str (Str.ofString "ne") 478, val := Value.ref 139 }, { hash := PyData.keyHash P (Str.ofString "sub"), key := Value.str (Str.ofString "sub") 486, val := Value.ref 146 }, { hash := PyData.keyHash P (Str.ofString "countOf"), key := Value.str (Str.ofString "countOf") 496, val := Value.ref 153 }, { hash := PyData.keyHash P (Str.ofString "ifloordiv"), key := Value.str (Str.ofString "ifloordiv") 504, val := Value.ref 160 }, { hash := PyData.keyHash P (Str.ofString "imod"), key := Value.str (Str.ofString "imod") 512, val := Value.ref 167 }, { hash := PyData.keyHash P (Str.ofString "TupleComp"), key := Value.str (Str.ofString "TupleComp") 556, val := Value.ref 191 }, { hash := PyData.keyHash P (Str.ofString "func_std_string"), key := Value.str (Str.ofString "func_std_string") 564, val := Value.ref 202 }, { hash := PyData.keyHash P (Str.ofString "add_func_stats"), key := Value.str (Str.ofString "add_func_stats") 582, val := Value.ref 209 }, { hash := PyData.keyHash P (Str.ofString "add_callers"), key := Value.str (Str.ofString "add_callers") 593, val := Value.ref 216 }, { hash := PyData.keyHash P (Str.ofString "count_calls"), key := Value.str (Str.ofString "count_calls") 602, val := Value.ref 223 }, { hash := PyData.keyHash P (Str.ofString "_law_cell"), key := Value.str (Str.ofString "_law_cell") 610, val := Value.ref 228 }, { hash := PyData.keyHash P (Str.ofString "_law_mail"), key := Value.str (Str.ofString "_law_mail") 616, val := Value.ref 233 }, { hash := PyData.keyHash P (Str.ofString "_law_due"), key := Value.str (Str.ofString "_law_due") 622, val := Value.ref 238 }, { hash := PyData.keyHash P (Str.ofString "_law_asked"), key := Value.str (Str.ofString "_law_asked") 632, val := Value.ref 245 }, { hash := PyData.keyHash P (Str.ofString "_law_free"), key := Value.str (Str.ofString "_law_free") 646, val := Value.ref 252 }, { hash := PyData.keyHash P (Str.ofString "_law_told"), key := Value.str (Str.ofString "_law_told") 652, val := Value.ref 257 }, { hash := PyData.keyHash P (Str.ofString "_law_movers"), key := Value.str (Str.ofString "_law_movers") 658, val := Value.ref 262 }, { hash := PyData.keyHash P (Str.ofString "_law_entry"), key := Value.str (Str.ofString "_law_entry") 664, val := Value.ref 267 }, { hash := PyData.keyHash P (Str.ofString "law"), key := Value.str (Str.ofString "law") 670, val := Value.ref 272 }] 40 }) ::
  (nat_lit 35, { cls := Value.type "tuple", data := Data.seq #[Value.int 14 0, Value.int 4 0, Value.int 0 0, Value.int 1 0, Value.int 1 0, Value.int 6 0, Value.int 1 0, Value.int 16 0, Value.int 46 0, Value.int 1 0] }) ::
  (nat_lit 36, { cls := Value.type "re.Pattern", data := Data.fields #[Value.str (Str.ofString "(?m)^\\.") 285, Value.int 40 298, Value.int 0 0, Value.none, Value.none, Value.ref 35, Value.int 0 0] }) ::
  (nat_lit 40, { cls := Value.type "tuple", data := Data.seq #[Value.int 14 0, Value.int 9 0, Value.int 4 0, Value.int 1 0, Value.int 2 0, Value.int 16 0, Value.int 10 0, Value.int 16 0, Value.int 13 0, Value.int 0 0, Value.int 7 0, Value.int 7 0, Value.int 16 0, Value.int 13 0, Value.int 16 0, Value.int 10 0, Value.int 15 0, Value.int 18 0, Value.int 5 0, Value.int 16 0, Value.int 10 0, Value.int 15 0, Value.int 13 0, Value.int 11 0, Value.int 16 0, Value.int 13 0, Value.int 5 0, Value.int 5 0, Value.int 0 0, Value.int 16 0, Value.int 10 0, Value.int 1 0, Value.int 15 0, Value.int 2 0, Value.int 0 0, Value.int 1 0] }) ::
  (nat_lit 41, { cls := Value.type "re.Pattern", data := Data.fields #[Value.str (Str.ofString "(?:\\r\\n|\\n|\\r(?!\\n))") 301, Value.int 32 340, Value.int 0 0, Value.none, Value.none, Value.ref 40, Value.int 0 0] }) ::
  (nat_lit 42, { cls := Value.type "tuple", data := Data.seq #[Value.type "OSError"] }) ::
  (nat_lit 49, { cls := Value.type "tuple", data := Data.seq #[] }) ::
  (nat_lit 50, { cls := Value.type "dict", data := Data.dict #[{ hash := PyData.keyHash P (Str.ofString "__module__"), key := Value.str (Str.ofString "__module__") 351, val := Value.str (Str.ofString "cpy313.smtplib") 282 }, { hash := PyData.keyHash P (Str.ofString "__firstlineno__"), key := Value.str (Str.ofString "__firstlineno__") 355, val := Value.int 6 354 }, { hash := PyData.keyHash P (Str.ofString "__static_attributes__"), key := Value.str (Str.ofString "__static_attributes__") 356, val := Value.ref 49 }, { hash := PyData.keyHash P (Str.ofString "__weakref__"), key := Value.str (Str.ofString "__weakref__") 358, val := Value.ref 52 }, { hash := PyData.keyHash P (Str.ofString "__doc__"), key := Value.str (Str.ofString "__doc__") 359, val := Value.none }] 3 }) ::
  (nat_lit 51, { cls := Value.type "type", data := Data.cls { name := Str.ofString "SMTPException", bases := [Value.type "OSError"], mro := [Value.ref 51, Value.type "OSError", Value.type "Exception", Value.type "BaseException", Value.type "object"], ns := 50, qualname := Str.ofString "SMTPException", subclasses := [Value.ref 71] }, slots := #[some (Value.ref 42), none, some (Value.str (Str.ofString "SMTPException") 344), some (Value.str (Str.ofString "SMTPException") 352), some (Value.builtin "OSError.__new__"), some (Value.bool true)] }) ::
  (nat_lit 52, { cls := Value.type "getset_descriptor", data := Data.fields #[Value.str (Str.ofString "__weakref__") 357, Value.ref 51, Value.builtin "ExceptionGroup.__weakref__", Value.none] }) ::
  (nat_lit 55, { cls := Value.type "tuple", data := Data.seq #[Value.ref 51] }) ::
  (nat_lit 62, { cls := Value.type "tuple", data := Data.seq #[] }) ::
  (nat_lit 64, { cls := Value.type "tuple", data := Data.seq #[Value.str (Str.ofString "self") 379, Value.str (Str.ofString "code") 380, Value.str (Str.ofString "msg") 381] }) ::
  (nat_lit 65, { cls := Value.type "tuple", data := Data.seq #[] }) ::
  (nat_lit 67, { cls := Value.type "code", data := Data.fields #[Value.str (Str.ofString "__init__") 376, Value.str (Str.ofString "SMTPResponseException.__init__") 377, Value.str (Str.ofString "/claim/cut.py") 378, Value.int 10 0, Value.int 3 0, Value.int 0 0, Value.int 0 0, Value.int 3 0, Value.ref 62, Value.bool true, Value.int 276 0, Value.ref 63, Value.none, Value.ref 64, Value.ref 65, Value.ref 66, Value.int 382 0, Value.int 10 0, Value.str (Str.ofString "/claim/cut.py") 383] }) ::
  (nat_lit 68, { cls := Value.type "function", data := Data.func { name := Str.ofString "__init__", qualname := Str.ofString "SMTPResponseException.__init__", params := iA6, body := FuncBody.stmts (iB6), scope := iS6, globals := 3, closure := [], defaults := Value.none, kwdefaults := Value.none, pyModule := Value.str (Str.ofString "cpy313.smtplib") 282, code := Value.ref 67 } }) ::
  (nat_lit 69, { cls := Value.type "tuple", data := Data.seq #[Value.str (Str.ofString "args") 385, Value.str (Str.ofString "smtp_code") 386, Value.str (Str.ofString "smtp_error") 387] }) ::
  (nat_lit 70, { cls := Value.type "dict", data := Data.dict #[{ hash := PyData.keyHash P (Str.ofString "__module__"), key := Value.str (Str.ofString "__module__") 371, val := Value.str (Str.ofString "cpy313.smtplib") 282 }, { hash := PyData.keyHash P (Str.ofString "__firstlineno__"), key := Value.str (Str.ofString "__firstlineno__") 375, val := Value.int 8 374 }, { hash := PyData.keyHash P (Str.ofString "__init__"), key := Value.str (Str.ofString "__init__") 384, val := Value.ref 68 }, { hash := PyData.keyHash P (Str.ofString "__static_attributes__"), key := Value.str (Str.ofString "__static_attributes__") 388, val := Value.ref 69 }, { hash := PyData.keyHash P (Str.ofString "__doc__"), key := Value.str (Str.ofString "__doc__") 389, val := Value.none }] 2 }) ::
  (nat_lit 71, { cls := Value.type "type", data := Data.cls { name := Str.ofString "SMTPResponseException", bases := [Value.ref 51], mro := [Value.ref 71, Value.ref 51, Value.type "OSError", Value.type "Exception", Value.type "BaseException", Value.type "object"], ns := 70, qualname := Str.ofString "SMTPResponseException", subclasses := [Value.ref 90, Value.ref 102] }, slots := #[some (Value.ref 55), none, some (Value.str (Str.ofString "SMTPResponseException") 364), some (Value.str (Str.ofString "SMTPResponseException") 372), some (Value.builtin "OSError.__new__"), some (Value.bool true)] }) ::
  (nat_lit 74, { cls := Value.type "tuple", data := Data.seq #[Value.ref 71] }) ::
  (nat_lit 81, { cls := Value.type "tuple", data := Data.seq #[] }) ::
  (nat_lit 83, { cls := Value.type "tuple", data := Data.seq #[Value.str (Str.ofString "self") 407, Value.str (Str.ofString "code") 408, Value.str (Str.ofString "msg") 409, Value.str (Str.ofString "sender") 410] }) ::
  (nat_lit 84, { cls := Value.type "tuple", data := Data.seq #[] }) ::
  (nat_lit 86, { cls := Value.type "code", data := Data.fields #[Value.str (Str.ofString "__init__") 404, Value.str (Str.ofString "SMTPSenderRefused.__init__") 405, Value.str (Str.ofString "/claim/cut.py") 406, Value.int 16 0, Value.int 4 0, Value.int 0 0, Value.int 0 0, Value.int 3 0, Value.ref 81, Value.bool true, Value.int 276 0, Value.ref 82, Value.none, Value.ref 83, Value.ref 84, Value.ref 85, Value.int 411 0, Value.int 16 0, Value.str (Str.ofString "/claim/cut.py") 412] }) ::
  (nat_lit 87, { cls := Value.type "function", data := Data.func { name := Str.ofString "__init__", qualname := Str.ofString "SMTPSenderRefused.__init__", params := iA7, body := FuncBody.stmts (iB7), scope := iS7, globals := 3, closure := [], defaults := Value.none, kwdefaults := Value.none, pyModule := Value.str (Str.ofString "cpy313.smtplib") 282, code := Value.ref 86 } }) ::
  (nat_lit 88, { cls := Value.type "tuple", data := Data.seq #[Value.str (Str.ofString "args") 414, Value.str (Str.ofString "sender") 415, Value.str (Str.ofString "smtp_code") 416, Value.str (Str.ofString "smtp_error") 417] }) ::
  (nat_lit 89, { cls := Value.type "dict", data := Data.dict #[{ hash := PyData.keyHash P (Str.ofString "__module__"), key := Value.str (Str.ofString "__module__") 399, val := Value.str (Str.ofString "cpy313.smtplib") 282 }, { hash := PyData.keyHash P (Str.ofString "__firstlineno__"), key := Value.str (Str.ofString "__firstlineno__") 403, val := Value.int 14 402 }, { hash := PyData.keyHash P (Str.ofString "__init__"), key := Value.str (Str.ofString "__init__") 413, val := Value.ref 87 }, { hash := PyData.keyHash P (Str.ofString "__static_attributes__"), key := Value.str (Str.ofString "__static_attributes__") 418, val := Value.ref 88 }, { hash := PyData.keyHash P (Str.ofString "__doc__"), key := Value.str (Str.ofString "__doc__") 419, val := Value.none }] 2 }) ::
  (nat_lit 90, { cls := Value.type "type", data := Data.cls { name := Str.ofString "SMTPSenderRefused", bases := [Value.ref 71], mro := [Value.ref 90, Value.ref 71, Value.ref 51, Value.type "OSError", Value.type "Exception", Value.type "BaseException", Value.type "object"], ns := 89, qualname := Str.ofString "SMTPSenderRefused" }, slots := #[some (Value.ref 74), none, some (Value.str (Str.ofString "SMTPSenderRefused") 392), some (Value.str (Str.ofString "SMTPSenderRefused") 400), some (Value.builtin "OSError.__new__"), some (Value.bool true)] }) ::
  (nat_lit 93, { cls := Value.type "tuple", data := Data.seq #[Value.ref 71] }) ::
  (nat_lit 100, { cls := Value.type "tuple", data := Data.seq #[] }) ::
  (nat_lit 101, { cls := Value.type "dict", data := Data.dict #[{ hash := PyData.keyHash P (Str.ofString "__module__"), key := Value.str (Str.ofString "__module__") 429, val := Value.str (Str.ofString "cpy313.smtplib") 282 }, { hash := PyData.keyHash P (Str.ofString "__firstlineno__"), key := Value.str (Str.ofString "__firstlineno__") 433, val := Value.int 21 432 }, { hash := PyData.keyHash P (Str.ofString "__static_attributes__"), key := Value.str (Str.ofString "__static_attributes__") 434, val := Value.ref 100 }, { hash := PyData.keyHash P (Str.ofString "__doc__"), key := Value.str (Str.ofString "__doc__") 435, val := Value.none }] 2 }) ::
  (nat_lit 102, { cls := Value.type "type", data := Data.cls { name := Str.ofString "SMTPDataError", bases := [Value.ref 71], mro := [Value.ref 102, Value.ref 71, Value.ref 51, Value.type "OSError", Value.type "Exception", Value.type "BaseException", Value.type "object"], ns := 101, qualname := Str.ofString "SMTPDataError" }, slots := #[some (Value.ref 93), none, some (Value.str (Str.ofString "SMTPDataError") 422), some (Value.str (Str.ofString "SMTPDataError") 430), some (Value.builtin "OSError.__new__"), some (Value.bool true)] }) ::
  (nat_lit 105, { cls := Value.type "tuple", data := Data.seq #[] }) ::
  (nat_lit 107, { cls := Value.type "tuple", data := Data.seq #[Value.str (Str.ofString "data") 441] }) ::
  (nat_lit 108, { cls := Value.type "tuple", data := Data.seq #[] }) ::
  (nat_lit 110, { cls := Value.type "code", data := Data.fields #[Value.str (Str.ofString "quotedata") 438, Value.str (Str.ofString "quotedata") 439, Value.str (Str.ofString "/claim/cut.py") 440, Value.int 23 0, Value.int 1 0, Value.int 0 0, Value.int 0 0, Value.int 3 0, Value.ref 105, Value.bool true, Value.int 276 0, Value.ref 106, Value.none, Value.ref 107, Value.ref 108, Value.ref 109, Value.int 442 0, Value.int 23 0, Value.str (Str.ofString "/claim/cut.py") 443] }) ::
  (nat_lit 111, { cls := Value.type "function", data := Data.func { name := Str.ofString "quotedata", qualname := Str.ofString "quotedata", params := argsAt 9, body := FuncBody.stmts (bodyAt 9), scope := scopeAt 9, globals := 3, closure := [], defaults := Value.none, kwdefaults := Value.none, pyModule := Value.str (Str.ofString "cpy313.smtplib") 282, code := Value.ref 110 } }) ::
  (nat_lit 112, { cls := Value.type "tuple", data := Data.seq #[] }) ::
  (nat_lit 114, { cls := Value.type "tuple", data := Data.seq #[Value.str (Str.ofString "a") 450, Value.str (Str.ofString "b") 451] }) ::
  (nat_lit 115, { cls := Value.type "tuple", data := Data.seq #[] }) ::
  (nat_lit 117, { cls := Value.type "code", data := Data.fields #[Value.str (Str.ofString "lt") 447, Value.str (Str.ofString "lt") 448, Value.str (Str.ofString "/claim/cut.py") 449, Value.int 26 0, Value.int 2 0, Value.int 0 0, Value.int 0 0, Value.int 3 0, Value.ref 112, Value.bool true, Value.int 276 0, Value.ref 113, Value.none, Value.ref 114, Value.ref 115, Value.ref 116, Value.int 452 0, Value.int 26 0, Value.str (Str.ofString "/claim/cut.py") 453] }) ::
  (nat_lit 118, { cls := Value.type "function", data := Data.func { name := Str.ofString "lt", qualname := Str.ofString "lt", params := argsAt 11, body := FuncBody.stmts (bodyAt 11), scope := scopeAt 11, globals := 3, closure := [], defaults := Value.none, kwdefaults := Value.none, pyModule := Value.str (Str.ofString "cpy313.operator") 445, code := Value.ref 117 } }) ::
  (nat_lit 119, { cls := Value.type "tuple", data := Data.seq #[] }) ::
  (nat_lit 121, { cls := Value.type "tuple", data := Data.seq #[Value.str (Str.ofString "a") 458, Value.str (Str.ofString "b") 459] }) ::
  (nat_lit 122, { cls := Value.type "tuple", data := Data.seq #[] }) ::
  (nat_lit 124, { cls := Value.type "code", data := Data.fields #[Value.str (Str.ofString "le") 455, Value.str (Str.ofString "le") 456, Value.str (Str.ofString "/claim/cut.py") 457, Value.int 28 0, Value.int 2 0, Value.int 0 0, Value.int 0 0, Value.int 3 0, Value.ref 119, Value.bool true, Value.int 276 0, Value.ref 120, Value.none, Value.ref 121, Value.ref 122, Value.ref 123, Value.int 460 0, Value.int 28 0, Value.str (Str.ofString "/claim/cut.py") 461] }) ::
  (nat_lit 125, { cls := Value.type "function", data := Data.func { name := Str.ofString "le", qualname := Str.ofString "le", params := argsAt 12, body := FuncBody.stmts (bodyAt 12), scope := scopeAt 12, globals := 3, closure := [], defaults := Value.none, kwdefaults := Value.none, pyModule := Value.str (Str.ofString "cpy313.operator") 445, code := Value.ref 124 } }) ::
  (nat_lit 126, { cls := Value.type "tuple", data := Data.seq #[] }) ::
  (nat_lit 128, { cls := Value.type "tuple", data := Data.seq #[Value.str (Str.ofString "a") 466, Value.str (Str.ofString "b") 467] }) ::
  (nat_lit 129, { cls := Value.type "tuple", data := Data.seq #[] }) ::
  (nat_lit 131, { cls := Value.type "code", data := Data.fields #[Value.str (Str.ofString "eq") 463, Value.str (Str.ofString "eq") 464, Value.str (Str.ofString "/claim/cut.py") 465, Value.int 30 0, Value.int 2 0, Value.int 0 0, Value.int 0 0, Value.int 3 0, Value.ref 126, Value.bool true, Value.int 276 0, Value.ref 127, Value.none, Value.ref 128, Value.ref 129, Value.ref 130, Value.int 468 0, Value.int 30 0, Value.str (Str.ofString "/claim/cut.py") 469] }) ::
  (nat_lit 132, { cls := Value.type "function", data := Data.func { name := Str.ofString "eq", qualname := Str.ofString "eq", params := argsAt 13, body := FuncBody.stmts (bodyAt 13), scope := scopeAt 13, globals := 3, closure := [], defaults := Value.none, kwdefaults := Value.none, pyModule := Value.str (Str.ofString "cpy313.operator") 445, code := Value.ref 131 } }) ::
  (nat_lit 133, { cls := Value.type "tuple", data := Data.seq #[] }) ::
  (nat_lit 135, { cls := Value.type "tuple", data := Data.seq #[Value.str (Str.ofString "a") 474, Value.str (Str.ofString "b") 475] }) ::
  (nat_lit 136, { cls := Value.type "tuple", data := Data.seq #[] }) ::
  (nat_lit 138, { cls := Value.type "code", data := Data.fields #[Value.str (Str.ofString "ne") 471, Value.str (Str.ofString "ne") 472, Value.str (Str.ofString "/claim/cut.py") 473, Value.int 32 0, Value.int 2 0, Value.int 0 0, Value.int 0 0, Value.int 3 0, Value.ref 133, Value.bool true, Value.int 276 0, Value.ref 134, Value.none, Value.ref 135, Value.ref 136, Value.ref 137, Value.int 476 0, Value.int 32 0, Value.str (Str.ofString "/claim/cut.py") 477] }) ::
  (nat_lit 139, { cls := Value.type "function", data := Data.func { name := Str.ofString "ne", qualname := Str.ofString "ne", params := argsAt 14, body := FuncBody.stmts (bodyAt 14), scope := scopeAt 14, globals := 3, closure := [], defaults := Value.none, kwdefaults := Value.none, pyModule := Value.str (Str.ofString "cpy313.operator") 445, code := Value.ref 138 } }) ::
  (nat_lit 140, { cls := Value.type "tuple", data := Data.seq #[] }) ::
  (nat_lit 142, { cls := Value.type "tuple", data := Data.seq #[Value.str (Str.ofString "a") 482, Value.str (Str.ofString "b") 483] }) ::
  (nat_lit 143, { cls := Value.type "tuple", data := Data.seq #[] }) ::
  (nat_lit 145, { cls := Value.type "code", data := Data.fields #[Value.str (Str.ofString "sub") 479, Value.str (Str.ofString "sub") 480, Value.str (Str.ofString "/claim/cut.py") 481, Value.int 34 0, Value.int 2 0, Value.int 0 0, Value.int 0 0, Value.int 3 0, Value.ref 140, Value.bool true, Value.int 276 0, Value.ref 141, Value.none, Value.ref 142, Value.ref 143, Value.ref 144, Value.int 484 0, Value.int 34 0, Value.str (Str.ofString "/claim/cut.py") 485] }) ::
  (nat_lit 146, { cls := Value.type "function", data := Data.func { name := Str.ofString "sub", qualname := Str.ofString "sub", params := argsAt 15, body := FuncBody.stmts (bodyAt 15), scope := scopeAt 15, globals := 3, closure := [], defaults := Value.none, kwdefaults := Value.none, pyModule := Value.str (Str.ofString "cpy313.operator") 445, code := Value.ref 145 } }) ::
  (nat_lit 147, { cls := Value.type "tuple", data := Data.seq #[] }) ::
  (nat_lit 149, { cls := Value.type "tuple", data := Data.seq #[Value.str (Str.ofString "a") 490, Value.str (Str.ofString "b") 491, Value.str (Str.ofString "count") 492, Value.str (Str.ofString "i") 493] }) ::
  (nat_lit 150, { cls := Value.type "tuple", data := Data.seq #[] }) ::
  (nat_lit 152, { cls := Value.type "code", data := Data.fields #[Value.str (Str.ofString "countOf") 487, Value.str (Str.ofString "countOf") 488, Value.str (Str.ofString "/claim/cut.py") 489, Value.int 36 0, Value.int 2 0, Value.int 0 0, Value.int 0 0, Value.int 3 0, Value.ref 147, Value.bool true, Value.int 276 0, Value.ref 148, Value.none, Value.ref 149, Value.ref 150, Value.ref 151, Value.int 494 0, Value.int 36 0, Value.str (Str.ofString "/claim/cut.py") 495] }) ::
  (nat_lit 153, { cls := Value.type "function", data := Data.func { name := Str.ofString "countOf", qualname := Str.ofString "countOf", params := argsAt 16, body := FuncBody.stmts (bodyAt 16), scope := scopeAt 16, globals := 3, closure := [], defaults := Value.none, kwdefaults := Value.none, pyModule := Value.str (Str.ofString "cpy313.operator") 445, code := Value.ref 152 } }) ::
  (nat_lit 154, { cls := Value.type "tuple", data := Data.seq #[] }) ::
  (nat_lit 156, { cls := Value.type "tuple", data := Data.seq #[Value.str (Str.ofString "a") 500, Value.str (Str.ofString "b") 501] }) ::
  (nat_lit 157, { cls := Value.type "tuple", data := Data.seq #[] }) ::
  (nat_lit 159, { cls := Value.type "code", data := Data.fields #[Value.str (Str.ofString "ifloordiv") 497, Value.str (Str.ofString "ifloordiv") 498, Value.str (Str.ofString "/claim/cut.py") 499, Value.int 42 0, Value.int 2 0, Value.int 0 0, Value.int 0 0, Value.int 3 0, Value.ref 154, Value.bool true, Value.int 276 0, Value.ref 155, Value.none, Value.ref 156, Value.ref 157, Value.ref 158, Value.int 502 0, Value.int 42 0, Value.str (Str.ofString "/claim/cut.py") 503] }) ::
  (nat_lit 160, { cls := Value.type "function", data := Data.func { name := Str.ofString "ifloordiv", qualname := Str.ofString "ifloordiv", params := argsAt 17, body := FuncBody.stmts (bodyAt 17), scope := scopeAt 17, globals := 3, closure := [], defaults := Value.none, kwdefaults := Value.none, pyModule := Value.str (Str.ofString "cpy313.operator") 445, code := Value.ref 159 } }) ::
  (nat_lit 161, { cls := Value.type "tuple", data := Data.seq #[] }) ::
  (nat_lit 163, { cls := Value.type "tuple", data := Data.seq #[Value.str (Str.ofString "a") 508, Value.str (Str.ofString "b") 509] }) ::
  (nat_lit 164, { cls := Value.type "tuple", data := Data.seq #[] }) ::
  (nat_lit 166, { cls := Value.type "code", data := Data.fields #[Value.str (Str.ofString "imod") 505, Value.str (Str.ofString "imod") 506, Value.str (Str.ofString "/claim/cut.py") 507, Value.int 45 0, Value.int 2 0, Value.int 0 0, Value.int 0 0, Value.int 3 0, Value.ref 161, Value.bool true, Value.int 276 0, Value.ref 162, Value.none, Value.ref 163, Value.ref 164, Value.ref 165, Value.int 510 0, Value.int 45 0, Value.str (Str.ofString "/claim/cut.py") 511] }) ::
  (nat_lit 167, { cls := Value.type "function", data := Data.func { name := Str.ofString "imod", qualname := Str.ofString "imod", params := argsAt 18, body := FuncBody.stmts (bodyAt 18), scope := scopeAt 18, globals := 3, closure := [], defaults := Value.none, kwdefaults := Value.none, pyModule := Value.str (Str.ofString "cpy313.operator") 445, code := Value.ref 166 } }) ::
  (nat_lit 175, { cls := Value.type "tuple", data := Data.seq #[] }) ::
  (nat_lit 177, { cls := Value.type "tuple", data := Data.seq #[Value.str (Str.ofString "self") 530, Value.str (Str.ofString "comp_select_list") 531] }) ::
  (nat_lit 178, { cls := Value.type "tuple", data := Data.seq #[] }) ::
  (nat_lit 180, { cls := Value.type "code", data := Data.fields #[Value.str (Str.ofString "__init__") 527, Value.str (Str.ofString "TupleComp.__init__") 528, Value.str (Str.ofString "/claim/cut.py") 529, Value.int 51 0, Value.int 2 0, Value.int 0 0, Value.int 0 0, Value.int 3 0, Value.ref 175, Value.bool true, Value.int 276 0, Value.ref 176, Value.none, Value.ref 177, Value.ref 178, Value.ref 179, Value.int 532 0, Value.int 51 0, Value.str (Str.ofString "/claim/cut.py") 533] }) ::
  (nat_lit 181, { cls := Value.type "function", data := Data.func { name := Str.ofString "__init__", qualname := Str.ofString "TupleComp.__init__", params := iA20, body := FuncBody.stmts (iB20), scope := iS20, globals := 3, closure := [], defaults := Value.none, kwdefaults := Value.none, pyModule := Value.str (Str.ofString "cpy313.pstats") 513, code := Value.ref 180 } }) ::
  (nat_lit 182, { cls := Value.type "tuple", data := Data.seq #[] }) ::
  (nat_lit 184, { cls := Value.type "tuple", data := Data.seq #[Value.str (Str.ofString "self") 538, Value.str (Str.ofString "left") 539, Value.str (Str.ofString "right") 540, Value.str (Str.ofString "index") 541, Value.str (Str.ofString "direction") 542, Value.str (Str.ofString "l") 543, Value.str (Str.ofString "r") 544] }) ::
  (nat_lit 185, { cls := Value.type "tuple", data := Data.seq #[] }) ::
  (nat_lit 187, { cls := Value.type "code", data := Data.fields #[Value.str (Str.ofString "compare") 535, Value.str (Str.ofString "TupleComp.compare") 536, Value.str (Str.ofString "/claim/cut.py") 537, Value.int 54 0, Value.int 3 0, Value.int 0 0, Value.int 0 0, Value.int 3 0, Value.ref 182, Value.bool true, Value.int 276 0, Value.ref 183, Value.none, Value.ref 184, Value.ref 185, Value.ref 186, Value.int 545 0, Value.int 54 0, Value.str (Str.ofString "/claim/cut.py") 546] }) ::
  (nat_lit 188, { cls := Value.type "function", data := Data.func { name := Str.ofString "compare", qualname := Str.ofString "TupleComp.compare", params := mArgs 20 1, body := FuncBody.stmts (mBody 20 1), scope := mScope 20 1, globals := 3, closure := [], defaults := Value.none, kwdefaults := Value.none, pyModule := Value.str (Str.ofString "cpy313.pstats") 513, code := Value.ref 187 } }) ::
  (nat_lit 189, { cls := Value.type "tuple", data := Data.seq #[Value.str (Str.ofString "comp_select_list") 548] }) ::
  (nat_lit 190, { cls := Value.type "dict", data := Data.dict #[{ hash := PyData.keyHash P (Str.ofString "__module__"), key := Value.str (Str.ofString "__module__") 522, val := Value.str (Str.ofString "cpy313.pstats") 513 }, { hash := PyData.keyHash P (Str.ofString "__firstlineno__"), key := Value.str (Str.ofString "__firstlineno__") 526, val := Value.int 49 525 }, { hash := PyData.keyHash P (Str.ofString "__init__"), key := Value.str (Str.ofString "__init__") 534, val := Value.ref 181 }, { hash := PyData.keyHash P (Str.ofString "compare"), key := Value.str (Str.ofString "compare") 547, val := Value.ref 188 }, { hash := PyData.keyHash P (Str.ofString "__static_attributes__"), key := Value.str (Str.ofString "__static_attributes__") 549, val := Value.ref 189 }, { hash := PyData.keyHash P (Str.ofString "__dict__"), key := Value.str (Str.ofString "__dict__") 551, val := Value.ref 192 }, { hash := PyData.keyHash P (Str.ofString "__weakref__"), key := Value.str (Str.ofString "__weakref__") 553, val := Value.ref 193 }, { hash := PyData.keyHash P (Str.ofString "__doc__"), key := Value.str (Str.ofString "__doc__") 554, val := Value.none }] 4 }) ::
  (nat_lit 191, { cls := Value.type "type", data := Data.cls { name := Str.ofString "TupleComp", bases := [Value.type "object"], mro := [Value.ref 191, Value.type "object"], ns := 190, qualname := Str.ofString "TupleComp" }, slots := #[none, none, some (Value.str (Str.ofString "TupleComp") 515), some (Value.str (Str.ofString "TupleComp") 523), some (Value.builtin "object.__new__"), some (Value.bool true)] }) ::
  (nat_lit 192, { cls := Value.type "getset_descriptor", data := Data.fields #[Value.str (Str.ofString "__dict__") 550, Value.ref 191, Value.builtin "function.__dict__", Value.builtin "function.__dict__#set"] }) ::
  (nat_lit 193, { cls := Value.type "getset_descriptor", data := Data.fields #[Value.str (Str.ofString "__weakref__") 552, Value.ref 191, Value.builtin "ExceptionGroup.__weakref__", Value.none] }) ::
  (nat_lit 196, { cls := Value.type "tuple", data := Data.seq #[] }) ::
  (nat_lit 198, { cls := Value.type "tuple", data := Data.seq #[Value.str (Str.ofString "func_name") 560, Value.str (Str.ofString "name") 561] }) ::
  (nat_lit 199, { cls := Value.type "tuple", data := Data.seq #[] }) ::
  (nat_lit 201, { cls := Value.type "code", data := Data.fields #[Value.str (Str.ofString "func_std_string") 557, Value.str (Str.ofString "func_std_string") 558, Value.str (Str.ofString "/claim/cut.py") 559, Value.int 63 0, Value.int 1 0, Value.int 0 0, Value.int 0 0, Value.int 3 0, Value.ref 196, Value.bool true, Value.int 276 0, Value.ref 197, Value.none, Value.ref 198, Value.ref 199, Value.ref 200, Value.int 562 0, Value.int 63 0, Value.str (Str.ofString "/claim/cut.py") 563] }) ::
  (nat_lit 202, { cls := Value.type "function", data := Data.func { name := Str.ofString "func_std_string", qualname := Str.ofString "func_std_string", params := argsAt 21, body := FuncBody.stmts (bodyAt 21), scope := scopeAt 21, globals := 3, closure := [], defaults := Value.none, kwdefaults := Value.none, pyModule := Value.str (Str.ofString "cpy313.pstats") 513, code := Value.ref 201 } }) ::
  (nat_lit 203, { cls := Value.type "tuple", data := Data.seq #[] }) ::
  (nat_lit 205, { cls := Value.type "tuple", data := Data.seq #[Value.str (Str.ofString "target") 568, Value.str (Str.ofString "source") 569, Value.str (Str.ofString "cc") 570, Value.str (Str.ofString "nc") 571, Value.str (Str.ofString "tt") 572, Value.str (Str.ofString "ct") 573, Value.str (Str.ofString "callers") 574, Value.str (Str.ofString "t_cc") 575, Value.str (Str.ofString "t_nc") 576, Value.str (Str.ofString "t_tt") 577, Value.str (Str.ofString "t_ct") 578, Value.str (Str.ofString "t_callers") 579] }) ::
  (nat_lit 206, { cls := Value.type "tuple", data := Data.seq #[] }) ::
  (nat_lit 208, { cls := Value.type "code", data := Data.fields #[Value.str (Str.ofString "add_func_stats") 565, Value.str (Str.ofString "add_func_stats") 566, Value.str (Str.ofString "/claim/cut.py") 567, Value.int 72 0, Value.int 2 0, Value.int 0 0, Value.int 0 0, Value.int 3 0, Value.ref 203, Value.bool true, Value.int 276 0, Value.ref 204, Value.none, Value.ref 205, Value.ref 206, Value.ref 207, Value.int 580 0, Value.int 72 0, Value.str (Str.ofString "/claim/cut.py") 581] }) ::
  (nat_lit 209, { cls := Value.type "function", data := Data.func { name := Str.ofString "add_func_stats", qualname := Str.ofString "add_func_stats", params := argsAt 22, body := FuncBody.stmts (bodyAt 22), scope := scopeAt 22, globals := 3, closure := [], defaults := Value.none, kwdefaults := Value.none, pyModule := Value.str (Str.ofString "cpy313.pstats") 513, code := Value.ref 208 } }) ::
  (nat_lit 210, { cls := Value.type "tuple", data := Data.seq #[] }) ::
  (nat_lit 212, { cls := Value.type "tuple", data := Data.seq #[Value.str (Str.ofString "target") 586, Value.str (Str.ofString "source") 587, Value.str (Str.ofString "new_callers") 588, Value.str (Str.ofString "func") 589, Value.str (Str.ofString "caller") 590] }) ::
  (nat_lit 213, { cls := Value.type "tuple", data := Data.seq #[] }) ::
  (nat_lit 215, { cls := Value.type "code", data := Data.fields #[Value.str (Str.ofString "add_callers") 583, Value.str (Str.ofString "add_callers") 584, Value.str (Str.ofString "/claim/cut.py") 585, Value.int 76 0, Value.int 2 0, Value.int 0 0, Value.int 0 0, Value.int 3 0, Value.ref 210, Value.bool true, Value.int 276 0, Value.ref 211, Value.none, Value.ref 212, Value.ref 213, Value.ref 214, Value.int 591 0, Value.int 76 0, Value.str (Str.ofString "/claim/cut.py") 592] }) ::
  (nat_lit 216, { cls := Value.type "function", data := Data.func { name := Str.ofString "add_callers", qualname := Str.ofString "add_callers", params := argsAt 23, body := FuncBody.stmts (bodyAt 23), scope := scopeAt 23, globals := 3, closure := [], defaults := Value.none, kwdefaults := Value.none, pyModule := Value.str (Str.ofString "cpy313.pstats") 513, code := Value.ref 215 } }) ::
  (nat_lit 217, { cls := Value.type "tuple", data := Data.seq #[] }) ::
  (nat_lit 219, { cls := Value.type "tuple", data := Data.seq #[Value.str (Str.ofString "callers") 597, Value.str (Str.ofString "nc") 598, Value.str (Str.ofString "calls") 599] }) ::
  (nat_lit 220, { cls := Value.type "tuple", data := Data.seq #[] }) ::
  (nat_lit 222, { cls := Value.type "code", data := Data.fields #[Value.str (Str.ofString "count_calls") 594, Value.str (Str.ofString "count_calls") 595, Value.str (Str.ofString "/claim/cut.py") 596, Value.int 89 0, Value.int 1 0, Value.int 0 0, Value.int 0 0, Value.int 3 0, Value.ref 217, Value.bool true, Value.int 276 0, Value.ref 218, Value.none, Value.ref 219, Value.ref 220, Value.ref 221, Value.int 600 0, Value.int 89 0, Value.str (Str.ofString "/claim/cut.py") 601] }) ::
  (nat_lit 223, { cls := Value.type "function", data := Data.func { name := Str.ofString "count_calls", qualname := Str.ofString "count_calls", params := argsAt 24, body := FuncBody.stmts (bodyAt 24), scope := scopeAt 24, globals := 3, closure := [], defaults := Value.none, kwdefaults := Value.none, pyModule := Value.str (Str.ofString "cpy313.pstats") 513, code := Value.ref 222 } }) ::
  (nat_lit 224, { cls := Value.type "tuple", data := Data.seq #[] }) ::
  (nat_lit 227, { cls := Value.type "code", data := Data.fields #[Value.str (Str.ofString "_law_cell") 605, Value.str (Str.ofString "_law_cell") 606, Value.str (Str.ofString "/claim/cut.py") 607, Value.int 95 0, Value.int 3 0, Value.int 0 0, Value.int 0 0, Value.int 3 0, Value.ref 224, Value.bool true, Value.int 276 0, Value.ref 225, Value.none, Value.none, Value.none, Value.ref 226, Value.int 608 0, Value.int 95 0, Value.str (Str.ofString "/claim/cut.py") 609] }) ::
  (nat_lit 228, { cls := Value.type "function", data := Data.func { name := Str.ofString "_law_cell", qualname := Str.ofString "_law_cell", params := argsAt 26, body := FuncBody.stmts (bodyAt 26), scope := scopeAt 26, globals := 3, closure := [], defaults := Value.none, kwdefaults := Value.none, pyModule := Value.str (Str.ofString "law_jc0014_01") 603, code := Value.ref 227 } }) ::
  (nat_lit 229, { cls := Value.type "tuple", data := Data.seq #[] }) ::
  (nat_lit 232, { cls := Value.type "code", data := Data.fields #[Value.str (Str.ofString "_law_mail") 611, Value.str (Str.ofString "_law_mail") 612, Value.str (Str.ofString "/claim/cut.py") 613, Value.int 97 0, Value.int 2 0, Value.int 0 0, Value.int 0 0, Value.int 3 0, Value.ref 229, Value.bool true, Value.int 276 0, Value.ref 230, Value.none, Value.none, Value.none, Value.ref 231, Value.int 614 0, Value.int 97 0, Value.str (Str.ofString "/claim/cut.py") 615] }) ::
  (nat_lit 233, { cls := Value.type "function", data := Data.func { name := Str.ofString "_law_mail", qualname := Str.ofString "_law_mail", params := argsAt 27, body := FuncBody.stmts (bodyAt 27), scope := scopeAt 27, globals := 3, closure := [], defaults := Value.none, kwdefaults := Value.none, pyModule := Value.str (Str.ofString "law_jc0014_01") 603, code := Value.ref 232 } }) ::
  (nat_lit 234, { cls := Value.type "tuple", data := Data.seq #[] }) ::
  (nat_lit 237, { cls := Value.type "code", data := Data.fields #[Value.str (Str.ofString "_law_due") 617, Value.str (Str.ofString "_law_due") 618, Value.str (Str.ofString "/claim/cut.py") 619, Value.int 105 0, Value.int 2 0, Value.int 0 0, Value.int 0 0, Value.int 3 0, Value.ref 234, Value.bool true, Value.int 276 0, Value.ref 235, Value.none, Value.none, Value.none, Value.ref 236, Value.int 620 0, Value.int 105 0, Value.str (Str.ofString "/claim/cut.py") 621] }) ::
  (nat_lit 238, { cls := Value.type "function", data := Data.func { name := Str.ofString "_law_due", qualname := Str.ofString "_law_due", params := argsAt 28, body := FuncBody.stmts (bodyAt 28), scope := scopeAt 28, globals := 3, closure := [], defaults := Value.none, kwdefaults := Value.none, pyModule := Value.str (Str.ofString "law_jc0014_01") 603, code := Value.ref 237 } }) ::
  (nat_lit 239, { cls := Value.type "tuple", data := Data.seq #[] }) ::
  (nat_lit 241, { cls := Value.type "tuple", data := Data.seq #[Value.str (Str.ofString "place") 626, Value.str (Str.ofString "own") 627, Value.str (Str.ofString "heard") 628, Value.str (Str.ofString "row") 629] }) ::
  (nat_lit 242, { cls := Value.type "tuple", data := Data.seq #[] }) ::
  (nat_lit 244, { cls := Value.type "code", data := Data.fields #[Value.str (Str.ofString "_law_asked") 623, Value.str (Str.ofString "_law_asked") 624, Value.str (Str.ofString "/claim/cut.py") 625, Value.int 109 0, Value.int 4 0, Value.int 0 0, Value.int 0 0, Value.int 3 0, Value.ref 239, Value.bool true, Value.int 276 0, Value.ref 240, Value.none, Value.ref 241, Value.ref 242, Value.ref 243, Value.int 630 0, Value.int 109 0, Value.str (Str.ofString "/claim/cut.py") 631] }) ::
  (nat_lit 245, { cls := Value.type "function", data := Data.func { name := Str.ofString "_law_asked", qualname := Str.ofString "_law_asked", params := argsAt 29, body := FuncBody.stmts (bodyAt 29), scope := scopeAt 29, globals := 3, closure := [], defaults := Value.none, kwdefaults := Value.none, pyModule := Value.str (Str.ofString "law_jc0014_01") 603, code := Value.ref 244 } }) ::
  (nat_lit 246, { cls := Value.type "tuple", data := Data.seq #[] }) ::
  (nat_lit 248, { cls := Value.type "tuple", data := Data.seq #[Value.str (Str.ofString "dots") 636, Value.str (Str.ofString "told") 637, Value.str (Str.ofString "rows") 638, Value.str (Str.ofString "free") 639, Value.str (Str.ofString "k") 640, Value.str (Str.ofString "heard") 641, Value.str (Str.ofString "row") 642, Value.str (Str.ofString "refusal") 643] }) ::
  (nat_lit 249, { cls := Value.type "tuple", data := Data.seq #[] }) ::
  (nat_lit 251, { cls := Value.type "code", data := Data.fields #[Value.str (Str.ofString "_law_free") 633, Value.str (Str.ofString "_law_free") 634, Value.str (Str.ofString "/claim/cut.py") 635, Value.int 114 0, Value.int 3 0, Value.int 0 0, Value.int 0 0, Value.int 3 0, Value.ref 246, Value.bool true, Value.int 276 0, Value.ref 247, Value.none, Value.ref 248, Value.ref 249, Value.ref 250, Value.int 644 0, Value.int 114 0, Value.str (Str.ofString "/claim/cut.py") 645] }) ::
  (nat_lit 252, { cls := Value.type "function", data := Data.func { name := Str.ofString "_law_free", qualname := Str.ofString "_law_free", params := argsAt 30, body := FuncBody.stmts (bodyAt 30), scope := scopeAt 30, globals := 3, closure := [], defaults := Value.none, kwdefaults := Value.none, pyModule := Value.str (Str.ofString "law_jc0014_01") 603, code := Value.ref 251 } }) ::
  (nat_lit 253, { cls := Value.type "tuple", data := Data.seq #[] }) ::
  (nat_lit 256, { cls := Value.type "code", data := Data.fields #[Value.str (Str.ofString "_law_told") 647, Value.str (Str.ofString "_law_told") 648, Value.str (Str.ofString "/claim/cut.py") 649, Value.int 129 0, Value.int 3 0, Value.int 0 0, Value.int 0 0, Value.int 3 0, Value.ref 253, Value.bool true, Value.int 276 0, Value.ref 254, Value.none, Value.none, Value.none, Value.ref 255, Value.int 650 0, Value.int 129 0, Value.str (Str.ofString "/claim/cut.py") 651] }) ::
  (nat_lit 257, { cls := Value.type "function", data := Data.func { name := Str.ofString "_law_told", qualname := Str.ofString "_law_told", params := argsAt 31, body := FuncBody.stmts (bodyAt 31), scope := scopeAt 31, globals := 3, closure := [], defaults := Value.none, kwdefaults := Value.none, pyModule := Value.str (Str.ofString "law_jc0014_01") 603, code := Value.ref 256 } }) ::
  (nat_lit 258, { cls := Value.type "tuple", data := Data.seq #[] }) ::
  (nat_lit 261, { cls := Value.type "code", data := Data.fields #[Value.str (Str.ofString "_law_movers") 653, Value.str (Str.ofString "_law_movers") 654, Value.str (Str.ofString "/claim/cut.py") 655, Value.int 135 0, Value.int 6 0, Value.int 0 0, Value.int 0 0, Value.int 3 0, Value.ref 258, Value.bool true, Value.int 276 0, Value.ref 259, Value.none, Value.none, Value.none, Value.ref 260, Value.int 656 0, Value.int 135 0, Value.str (Str.ofString "/claim/cut.py") 657] }) ::
  (nat_lit 262, { cls := Value.type "function", data := Data.func { name := Str.ofString "_law_movers", qualname := Str.ofString "_law_movers", params := argsAt 32, body := FuncBody.stmts (bodyAt 32), scope := scopeAt 32, globals := 3, closure := [], defaults := Value.none, kwdefaults := Value.none, pyModule := Value.str (Str.ofString "law_jc0014_01") 603, code := Value.ref 261 } }) ::
  (nat_lit 263, { cls := Value.type "tuple", data := Data.seq #[] }) ::
  (nat_lit 266, { cls := Value.type "code", data := Data.fields #[Value.str (Str.ofString "_law_entry") 659, Value.str (Str.ofString "_law_entry") 660, Value.str (Str.ofString "/claim/cut.py") 661, Value.int 147 0, Value.int 1 0, Value.int 0 0, Value.int 0 0, Value.int 3 0, Value.ref 263, Value.bool true, Value.int 276 0, Value.ref 264, Value.none, Value.none, Value.none, Value.ref 265, Value.int 662 0, Value.int 147 0, Value.str (Str.ofString "/claim/cut.py") 663] }) ::
  (nat_lit 267, { cls := Value.type "function", data := Data.func { name := Str.ofString "_law_entry", qualname := Str.ofString "_law_entry", params := argsAt 33, body := FuncBody.stmts (bodyAt 33), scope := scopeAt 33, globals := 3, closure := [], defaults := Value.none, kwdefaults := Value.none, pyModule := Value.str (Str.ofString "law_jc0014_01") 603, code := Value.ref 266 } }) ::
  (nat_lit 268, { cls := Value.type "tuple", data := Data.seq #[] }) ::
  (nat_lit 271, { cls := Value.type "code", data := Data.fields #[Value.str (Str.ofString "law") 665, Value.str (Str.ofString "law") 666, Value.str (Str.ofString "/claim/cut.py") 667, Value.int 152 0, Value.int 1 0, Value.int 0 0, Value.int 0 0, Value.int 3 0, Value.ref 268, Value.bool true, Value.int 276 0, Value.ref 269, Value.none, Value.none, Value.none, Value.ref 270, Value.int 668 0, Value.int 152 0, Value.str (Str.ofString "/claim/cut.py") 669] }) ::
  (nat_lit 272, { cls := Value.type "function", data := Data.func { name := Str.ofString "law", qualname := Str.ofString "law", params := argsAt 34, body := FuncBody.stmts (bodyAt 34), scope := { kind := ScopeKind.function, names := [(Str.ofString "script", NameKind.local), (Str.ofString "drawn", NameKind.cell), (Str.ofString "kind", NameKind.local), (Str.ofString "lot", NameKind.local), (Str.ofString "k", NameKind.local), (Str.ofString "dots", NameKind.cell), (Str.ofString "ring", NameKind.cell), (Str.ofString "judge", NameKind.local), (Str.ofString "book", NameKind.local), (Str.ofString "alone", NameKind.local), (Str.ofString "seen", NameKind.local), (Str.ofString "due", NameKind.local), (Str.ofString "turn", NameKind.local), (Str.ofString "rows", NameKind.local), (Str.ofString "told", NameKind.local), (Str.ofString "free", NameKind.local), (Str.ofString "count", NameKind.local), (Str.ofString "movers", NameKind.cell), (Str.ofString "order", NameKind.local), (Str.ofString "come", NameKind.cell), (Str.ofString "after", NameKind.cell), (Str.ofString "lone", NameKind.local), (Str.ofString "gap", NameKind.local), (Str.ofString "moves", NameKind.cell), (Str.ofString "ways", NameKind.cell), (Str.ofString "_law_cell", NameKind.globalImplicit), (Str.ofString "range", NameKind.globalImplicit), (Str.ofString "TupleComp", NameKind.globalImplicit), (Str.ofString "quotedata", NameKind.globalImplicit), (Str.ofString "_law_mail", NameKind.globalImplicit), (Str.ofString "_law_due", NameKind.globalImplicit), (Str.ofString "_law_free", NameKind.globalImplicit), (Str.ofString "len", NameKind.globalImplicit), (Str.ofString "le", NameKind.globalImplicit), (Str.ofString "count_calls", NameKind.globalImplicit), (Str.ofString "imod", NameKind.globalImplicit), (Str.ofString "ifloordiv", NameKind.globalImplicit), (Str.ofString "_law_movers", NameKind.globalImplicit), (Str.ofString "sorted", NameKind.globalImplicit), (Str.ofString "add_func_stats", NameKind.globalImplicit), (Str.ofString "list", NameKind.globalImplicit), (Str.ofString "_law_entry", NameKind.globalImplicit), (Str.ofString "sub", NameKind.globalImplicit)], isGenerator := false, isCoroutine := false, more := [(Str.ofString "fast", Const.str (Str.ofString "script")), (Str.ofString "fast", Const.str (Str.ofString "drawn")), (Str.ofString "fast", Const.str (Str.ofString "kind")), (Str.ofString "fast", Const.str (Str.ofString "lot")), (Str.ofString "fast", Const.str (Str.ofString "k")), (Str.ofString "fast", Const.str (Str.ofString "dots")), (Str.ofString "fast", Const.str (Str.ofString "ring")), (Str.ofString "fast", Const.str (Str.ofString "judge")), (Str.ofString "fast", Const.str (Str.ofString "book")), (Str.ofString "fast", Const.str (Str.ofString "alone")), (Str.ofString "fast", Const.str (Str.ofString "seen")), (Str.ofString "fast", Const.str (Str.ofString "due")), (Str.ofString "fast", Const.str (Str.ofString "turn")), (Str.ofString "fast", Const.str (Str.ofString "rows")), (Str.ofString "fast", Const.str (Str.ofString "row")), (Str.ofString "fast", Const.str (Str.ofString "told")), (Str.ofString "fast", Const.str (Str.ofString "free")), (Str.ofString "fast", Const.str (Str.ofString "count")), (Str.ofString "fast", Const.str (Str.ofString "movers")), (Str.ofString "fast", Const.str (Str.ofString "order")), (Str.ofString "fast", Const.str (Str.ofString "come")), (Str.ofString "fast", Const.str (Str.ofString "after")), (Str.ofString "fast", Const.str (Str.ofString "lone")), (Str.ofString "fast", Const.str (Str.ofString "gap")), (Str.ofString "fast", Const.str (Str.ofString "n")), (Str.ofString "fast", Const.str (Str.ofString "moves")), (Str.ofString "fast", Const.str (Str.ofString "ways"))] }, globals := 3, closure := [], defaults := Value.none, kwdefaults := Value.none, pyModule := Value.str (Str.ofString "law_jc0014_01") 603, code := Value.ref 271 } }) :: []
noncomputable def Ka : List Addr := [2, 3, 35, 36, 40, 41, 42, 49, 50, 51, 52, 55, 62, 64, 65, 67, 68, 69, 70, 71, 74, 81, 83, 84, 86, 87, 88, 89, 90, 93, 100, 101, 102, 105, 107, 108, 110, 111, 112, 114, 115, 117, 118, 119, 121, 122, 124, 125, 126, 128, 129, 131, 132, 133, 135, 136, 138, 139, 140, 142, 143, 145, 146, 147, 149, 150, 152, 153, 154, 156, 157, 159, 160, 161, 163, 164, 166, 167, 175, 177, 178, 180, 181, 182, 184, 185, 187, 188, 189, 190, 191, 192, 193, 196, 198, 199, 201, 202, 203, 205, 206, 208, 209, 210, 212, 213, 215, 216, 217, 219, 220, 222, 223, 224, 227, 228, 229, 232, 233, 234, 237, 238, 239, 241, 242, 244, 245, 246, 248, 249, 251, 252, 253, 256, 257, 258, 261, 262, 263, 266, 267, 268, 271, 272]
/-- the view: the law's def alone; every other name is loose -/
noncomputable def Vw : Program := view PySem.Challenge.pw_jc0014_01 [34]
noncomputable def Ls : List Str := ["_sre", "_twin_re_1", "_twin_re_2", "CRLF", "SMTPException", "SMTPResponseException", "SMTPSenderRefused", "SMTPDataError", "quotedata", "lt", "le", "eq", "ne", "sub", "countOf", "ifloordiv", "imod", "TupleComp", "func_std_string", "add_func_stats", "add_callers", "count_calls", "_law_cell", "_law_mail", "_law_due", "_law_asked", "_law_free", "_law_told", "_law_movers", "_law_entry"].map Str.ofString
noncomputable def Hk : Hook := kmHook Kh Ka (fun _ => by kernel_rfl) [269]
set_option maxHeartbeats 0 in
theorem hd0 : LeftO PySem.Challenge.pw_jc0014_01 Vw Ls (fun s => xlAt Vw [] s && recOk [] s) Hk.obs Hk.val 2151 := fun w => by
  unfold openEnds fencedOpening
  unfold topFrom
  rw [Fast.te4187177175401517315, Fast.te5923862056798008813, Fast.te14364793385576792824, Fast.te14082659384304107361, Fast.te10274390034422433532]
  kernel_rfl
end Mine
end
/-! ## B1 -/
section
open PySem PySem.W PySem.Calls PyProof.Rows
set_option maxRecDepth 100000
namespace Mine

/-! ## reading data off the heap -/
noncomputable def valInt : Value → Option Int
  | .int i _ => some i
  | _ => none
theorem valInt_some {v : Value} {i : Int} (h : valInt v = some i) : ∃ t, v = .int i t := by
  cases v <;> cases h
  exact ⟨_, rfl⟩
theorem dictOf_mono {prog : Program} {w : World} {h h' : Heap} {a : Addr} {kvs : List (Int × Value)} (k : h.StaysIn h') (d : h.DictOf (intKind prog w) a kvs) : h'.DictOf (intKind prog w) a kvs := by
  obtain ⟨o, es, ep, ho, r⟩ := d
  exact ⟨o, es, ep, k _ _ ho, r⟩
mutual
noncomputable def flat : PyData → Bool
  | .dict _ => false
  | .list xs => flats xs
  | .tuple xs => flats xs
  | _ => true
noncomputable def flats : List PyData → Bool
  | [] => true
  | x :: xs => flat x && flats xs
end
mutual
inductive Rd (h : Heap) : Value → PyData → Prop
  | none : Rd h .none .none
  | bool (b : Bool) : Rd h (.bool b) (.bool b)
  | int (i : Int) (t : Tok) : Rd h (.int i t) (.int i)
  | str (x : Str) (t : Tok) : Rd h (.str x t) (.str x)
  | list {a : Addr} {o : Obj} {vs : Array Value} {n : Nat} {ds : List PyData} : h.get? a = some o → o.cls = .type "list" → o.data = .seq vs n → o.dict = none → RdA h vs.toList ds → Rd h (.ref a) (.list ds)
  | bare {a : Addr} {o : Obj} {vs : Array Value} {n : Nat} {ds : List PyData} : h.get? a = some o → o.cls = .type "list" → o.data = .seq vs n → RdA h vs.toList ds → Rd h (.ref a) (.dict [(.list ds, .none)])
  | dict {a : Addr} {kvs : List (Int × Value)} {js : List (Int × Int)} : (a == sysModules) = false → (∀ prog w, h.DictOf (intKind prog w) a kvs) → kvs.map (fun p => (p.1, valInt p.2)) = js.map (fun p => (p.1, some p.2)) → Rd h (.ref a) (.dict ((.none, .none) :: js.map fun p => (.int p.1, .int p.2)))
  | tuple {a : Addr} {o : Obj} {vs : Array Value} {n : Nat} {ds : List PyData} : h.get? a = some o → o.cls = .type "tuple" → o.data = .seq vs n → RdA h vs.toList ds → Rd h (.ref a) (.tuple ds)
  | inst {a dx C : Addr} {hsh : Int} {t' : Tok} {n : Nat} {v : Value} {d : PyData} : h.get? a = some ⟨.ref C, some dx, .plain, #[]⟩ → h.get? dx = some (dictOf [⟨hsh, .str (Str.ofString "comp_select_list") t', v⟩] n) → Rd h v d → Rd h (.ref a) (.dict [(.bool true, .int C), (.bool true, d)])
inductive RdA (h : Heap) : List Value → List PyData → Prop
  | nil : RdA h [] []
  | cons {v : Value} {d : PyData} {vs : List Value} {ds : List PyData} : Rd h v d → RdA h vs ds → RdA h (v :: vs) (d :: ds)
end

theorem Rd.mono {h h' : Heap} (k : h.StaysIn h') {v : Value} {d : PyData} (r : Rd h v d) : Rd h' v d :=
  Rd.rec (motive_1 := fun v d _ => Rd h' v d) (motive_2 := fun vs ds _ => RdA h' vs ds) .none .bool .int .str (fun e c q p _ ih => .list (k _ _ e) c q p ih) (fun e c q _ ih => .bare (k _ _ e) c q ih) (fun n d e => .dict n (fun prog w => dictOf_mono k (d prog w)) e) (fun e c q _ ih => .tuple (k _ _ e) c q ih) (fun e₁ e₂ _ ih => .inst (k _ _ e₁) (k _ _ e₂) ih) .nil (fun _ _ a b => .cons a b) r
theorem RdA.mono {h h' : Heap} (k : h.StaysIn h') {vs : List Value} {ds : List PyData} (r : RdA h vs ds) : RdA h' vs ds :=
  RdA.rec (motive_1 := fun _ _ _ => True) (motive_2 := fun vs ds _ => RdA h' vs ds) trivial (fun _ => trivial) (fun _ _ => trivial) (fun _ _ => trivial) (fun _ _ _ _ _ _ => trivial) (fun _ _ _ _ _ => trivial) (fun _ _ _ => trivial) (fun _ _ _ _ _ => trivial) (fun _ _ _ _ => trivial) .nil (fun a _ _ b => .cons (a.mono k) b) r
theorem Rd.reads {h : Heap} {v : Value} {d : PyData} (r : Rd h v d) : flat d = true → ∃ as, Reads h v d as :=
  Rd.rec (motive_1 := fun v d _ => flat d = true → ∃ as, Reads h v d as) (motive_2 := fun vs ds _ => flats ds = true → ∃ as, ReadsAll h vs ds as) (fun _ => ⟨_, .none⟩) (fun b _ => ⟨_, .bool b⟩) (fun i t _ => ⟨_, .int i t⟩) (fun x t _ => ⟨_, .str x t⟩)
    (fun e c q p _ ih f => let ⟨_, z⟩ := ih f; ⟨_, .list e c q z⟩) (fun _ _ _ _ _ f => Bool.noConfusion (f : false = true)) (fun _ _ _ f => Bool.noConfusion (f : false = true)) (fun e c q _ ih f => let ⟨_, z⟩ := ih f; ⟨_, .tuple e c q z⟩) (fun _ _ _ _ f => Bool.noConfusion (f : false = true)) (fun _ => ⟨_, .nil⟩)
    (fun _ _ a b f => let ⟨f1, f2⟩ := Bool.and_eq_true_iff.mp f; let ⟨_, z⟩ := a f1; let ⟨_, y⟩ := b f2; ⟨_, .cons z y⟩) r
theorem RdA.length {h : Heap} {vs : List Value} {ds : List PyData} (r : RdA h vs ds) : vs.length = ds.length :=
  RdA.rec (motive_1 := fun _ _ _ => True) (motive_2 := fun vs ds _ => vs.length = ds.length) trivial (fun _ => trivial) (fun _ _ => trivial) (fun _ _ => trivial) (fun _ _ _ _ _ _ => trivial) (fun _ _ _ _ _ => trivial) (fun _ _ _ => trivial) (fun _ _ _ _ _ => trivial) (fun _ _ _ _ => trivial) rfl (fun _ _ _ b => congrArg Nat.succ b) r
theorem RdA.append {h : Heap} {vs ws : List Value} {ds es : List PyData} (r : RdA h vs ds) (k : RdA h ws es) : RdA h (vs ++ ws) (ds ++ es) :=
  RdA.rec (motive_1 := fun _ _ _ => True) (motive_2 := fun vs ds _ => RdA h (vs ++ ws) (ds ++ es)) trivial (fun _ => trivial) (fun _ _ => trivial) (fun _ _ => trivial) (fun _ _ _ _ _ _ => trivial) (fun _ _ _ _ _ => trivial) (fun _ _ _ => trivial) (fun _ _ _ _ _ => trivial) (fun _ _ _ _ => trivial) k (fun a _ _ b => .cons a b) r
theorem RdA.get {h : Heap} : ∀ {vs : List Value} {ds : List PyData} {i : Nat} {d : PyData}, RdA h vs ds → ds[i]? = some d → ∃ v, vs[i]? = some v ∧ Rd h v d
  | _, _, _, _, .nil, e => by simp at e
  | _, _, 0, _, .cons a r, e => by simp at e; subst e; exact ⟨_, rfl, a⟩
  | _, _, i + 1, _, .cons a r, e => by simpa using RdA.get r (by simpa using e)
theorem RdA.get' {h : Heap} : ∀ {vs : List Value} {ds : List PyData} {i : Nat} {v : Value}, RdA h vs ds → vs[i]? = some v → ∃ d, ds[i]? = some d ∧ Rd h v d
  | _, _, _, _, .nil, e => by simp at e
  | _, _, 0, _, .cons a r, e => by simp at e; subst e; exact ⟨_, rfl, a⟩
  | _, _, i + 1, _, .cons a r, e => by simpa using RdA.get' r (by simpa using e)
theorem RdA.take {h : Heap} : ∀ {vs : List Value} {ds : List PyData} (n : Nat), RdA h vs ds → RdA h (vs.take n) (ds.take n)
  | _, _, 0, _ => .nil
  | _, _, _ + 1, .nil => .nil
  | _, _, n + 1, .cons a r => by simpa using RdA.cons a (RdA.take n r)

/-! ## what a state becomes -/
/-- pure: all objects of s stay; g' is what may be read, its new part is new in s -/
structure Gr (g : Heap) (s : Shared) (g' : Heap) (s' : Shared) : Prop where
  gg : g.StaysIn g'
  gs : g'.StaysIn s'.heap
  ss : s.heap.StaysIn s'.heap
  fr : ∀ a o, g'.get? a = some o → g.get? a = some o ∨ s.heap.get? a = none
  rest : ∃ h' tk, s' = { s with heap := h', toks := tk }

theorem stays_refl (h : Heap) : h.StaysIn h := fun _ _ e => e
theorem stays_trans {a b c : Heap} (x : a.StaysIn b) (y : b.StaysIn c) : a.StaysIn c := fun b o e => y b o (x b o e)

theorem Gr.refl {g : Heap} {s : Shared} (k : g.StaysIn s.heap) : Gr g s g s := ⟨stays_refl _, k, stays_refl _, fun _ _ e => .inl e, _, _, rfl⟩
theorem Gr.trans {g g₁ g₂ : Heap} {s s₁ s₂ : Shared} (x : Gr g s g₁ s₁) (y : Gr g₁ s₁ g₂ s₂) : Gr g s g₂ s₂ := by
  refine ⟨stays_trans x.gg y.gg, y.gs, stays_trans x.ss y.ss, fun a o e => ?_, ?_⟩
  · rcases y.fr a o e with q | q
    · exact x.fr a o q
    · right
      cases z : s.heap.get? a with
      | none => rfl
      | some o' => rw [x.ss a o' z] at q; cases q
  · obtain ⟨h₁, t₁, rfl⟩ := x.rest
    obtain ⟨h₂, t₂, rfl⟩ := y.rest
    exact ⟨_, _, rfl⟩
theorem Gr.toks {g : Heap} {s : Shared} (k : g.StaysIn s.heap) (tk : Nat) : Gr g s g { s with toks := tk } := ⟨stays_refl _, k, stays_refl _, fun _ _ e => .inl e, _, _, rfl⟩

/-- g with one more object of h on top (hiding nothing else): we use the heap that hides what is not wanted -/
theorem push_stays (h : Heap) (o : Obj) : h.StaysIn (h.push o) := fun _ _ e => Heap.get?_push_of_some _ e

/-! ## names -/
noncomputable def Vr (env : Env) (h : Heap) (x : Str) (v : Value) : Prop :=
  (env.kindOf x = some .local ∧ ∃ m, h.Ns env.locals m ∧ m x = some v) ∨
  ((env.kindOf x = some .cell ∨ (env.kindOf x = some .free ∧ (x == ("__classdict__" : Str)) = false)) ∧ ∃ c, env.cells.lookup x = some c ∧ h.IsCell c (some v))
theorem Vr.mono {env : Env} {h h' : Heap} {x : Str} {v : Value} (k : h.StaysIn h') (r : Vr env h x v) : Vr env h' x v := by
  rcases r with ⟨a, m, hn, e⟩ | ⟨a, c, e, hc⟩
  · exact .inl ⟨a, m, hn.keeps k, e⟩
  · refine .inr ⟨a, c, e, ?_⟩
    obtain ⟨o, ho, r⟩ := hc
    exact ⟨o, k _ _ ho, r⟩

structure St (env : Env) (ρ : List (Str × PyData)) (g : Heap) (s : Shared) : Prop where
  fn : env.scope.kind = .function
  gl : env.globals = mainGlobals
  bl : env.builtins = builtinsNs
  gs : g.StaysIn s.heap
  tk : 1 ≤ s.toks
  vars : ∀ x d, ρ.lookup x = some d → ∃ v, Vr env s.heap x v ∧ Rd g v d

theorem St.grow {env : Env} {ρ : List (Str × PyData)} {g g' : Heap} {s s' : Shared} (S : St env ρ g s) (G : Gr g s g' s') (t : 1 ≤ s'.toks) : St env ρ g' s' :=
  ⟨S.fn, S.gl, S.bl, G.gs, t, fun x d e => let ⟨v, a, b⟩ := S.vars x d e; ⟨v, a.mono G.ss, b.mono G.gg⟩⟩

/-- what all proofs lean on: the program's own part of the heap -/
structure Cx where
  prog : Program
  w : World
  g0 : Heap

/-- expression e is the data d, whatever the state -/
noncomputable def Ev (c : Cx) (A : Around) (env : Env) (ρ : List (Str × PyData)) (e : Expr) (d : PyData) : Prop :=
  ∀ (g : Heap) (s : Shared) (Q E : Value → Shared → Prop), c.g0.StaysIn g → St env ρ g s →
    (∀ v g' s', Gr g s g' s' → Rd g' v d → Q v s') → wpAny (model c.prog c.w) A (eval e env) Q E s

/-- the same of a test -/
noncomputable def Tr (c : Cx) (A : Around) (env : Env) (ρ : List (Str × PyData)) (e : Expr) (b : Bool) : Prop :=
  ∀ (g : Heap) (s : Shared) (Q : Bool → Shared → Prop) (E : Value → Shared → Prop), c.g0.StaysIn g → St env ρ g s →
    (∀ g' s', Gr g s g' s' → Q b s') → wpAny (model c.prog c.w) A (isTrue e env (eval e env)) Q E s

theorem Ev.tk {c : Cx} {A : Around} {env : Env} {ρ : List (Str × PyData)} {e : Expr} {d : PyData} (h : Ev c A env ρ e d) (g : Heap) (s : Shared) (Q E : Value → Shared → Prop) (hg : c.g0.StaysIn g) (S : St env ρ g s)
    (hQ : ∀ v g' s', Gr g s g' s' → Rd g' v d → 1 ≤ s'.toks → Q v s') : wpAny (model c.prog c.w) A (eval e env) Q E s := wpAny_with_toks S.tk (h g s _ _ hg S fun v g' s' G r t => hQ v g' s' G r t)
theorem Tr.tk {c : Cx} {A : Around} {env : Env} {ρ : List (Str × PyData)} {e : Expr} {b : Bool} (h : Tr c A env ρ e b) (g : Heap) (s : Shared) (Q : Bool → Shared → Prop) (E : Value → Shared → Prop) (hg : c.g0.StaysIn g) (S : St env ρ g s)
    (hQ : ∀ g' s', Gr g s g' s' → 1 ≤ s'.toks → Q b s') : wpAny (model c.prog c.w) A (isTrue e env (eval e env)) Q E s := wpAny_with_toks S.tk (h g s _ _ hg S fun g' s' G t => hQ g' s' G t)
section
variable {c : Cx} {A : Around} {env : Env} {ρ : List (Str × PyData)}

theorem ev_name {x : Str} {pos : Pos} {d : PyData} (h : ρ.lookup x = some d) (hd : (x == ("__debug__" : Str)) = false := by decide) : Ev c A env ρ (.Name x pos) d := by
  intro g s Q E hg S hQ
  obtain ⟨v, a, b⟩ := S.vars x d h
  refine wpAny_Name ?_ hd
  rcases a with ⟨hk, m, hn, e⟩ | ⟨hk, cc, e, hc⟩
  · exact wpAny_loadName_local S.fn hk hn e (hQ _ _ _ (Gr.refl S.gs) b)
  · rcases hk with hk | ⟨hk, hx⟩
    · exact wpAny_loadName_cell S.fn hk e hc (hQ _ _ _ (Gr.refl S.gs) b)
    · exact wpAny_loadName_free S.fn hk e hc (hQ _ _ _ (Gr.refl S.gs) b) hx
theorem ev_int {i : Int} {k : Nat} {pos : Pos} : Ev c A env ρ (.Constant (.int i) k pos) (.int i) := fun g s Q E hg S hQ =>
  wpAny_Constant_int (hQ _ _ _ (Gr.toks S.gs _) (.int i _))
theorem ev_str {x : Str} {k : Nat} {pos : Pos} : Ev c A env ρ (.Constant (.str x) k pos) (.str x) := fun g s Q E hg S hQ =>
  wpAny_Constant_str (hQ _ _ _ (Gr.toks S.gs _) (.str x _))
theorem ev_bool {b : Bool} {k : Nat} {pos : Pos} : Ev c A env ρ (.Constant (.bool b) k pos) (.bool b) := fun g s Q E hg S hQ =>
  wpAny_Constant_bool (hQ _ _ _ (Gr.refl S.gs) (.bool b))

/-- two values of data, then a pure operation -/
noncomputable def Op2 (c : Cx) (A : Around) (op : Value → Value → Sem Value) (d₁ d₂ d : PyData) : Prop :=
  ∀ (g : Heap) (s : Shared) (v₁ v₂ : Value) (Q E : Value → Shared → Prop), c.g0.StaysIn g → g.StaysIn s.heap → Rd g v₁ d₁ → Rd g v₂ d₂ →
    (∀ v g' s', Gr g s g' s' → Rd g' v d → Q v s') → wpAny (model c.prog c.w) A (op v₁ v₂) Q E s

theorem ev_bin {l r : Expr} {op : Operator} {pos : Pos} {d₁ d₂ d : PyData} (h₁ : Ev c A env ρ l d₁) (h₂ : Ev c A env ρ r d₂) (h : Op2 c A (binaryOp op) d₁ d₂ d) : Ev c A env ρ (.BinOp l op r pos) d := by
  intro g s Q E hg S hQ
  refine wpAny_BinOp (h₁.tk g s _ _ hg S fun v₁ g₁ s₁ G₁ r₁ t₁ => h₂ g₁ s₁ _ _ (stays_trans hg G₁.gg) (S.grow G₁ t₁) fun v₂ g₂ s₂ G₂ r₂ => ?_)
  exact h g₂ s₂ v₁ v₂ _ _ (stays_trans hg (stays_trans G₁.gg G₂.gg)) G₂.gs (r₁.mono G₂.gg) r₂ fun v g₃ s₃ G₃ r₃ => hQ v g₃ s₃ ((G₁.trans G₂).trans G₃) r₃
theorem ev_cmp {l r : Expr} {op : CmpOp} {pos : Pos} {d₁ d₂ d : PyData} (h₁ : Ev c A env ρ l d₁) (h₂ : Ev c A env ρ r d₂) (h : Op2 c A (compareOp op) d₁ d₂ d)
    (hm : behindInMarks op r = false := by with_unfolding_all rfl) : Ev c A env ρ (.Compare l [op] [r] pos) d := by
  intro g s Q E hg S hQ
  refine wpAny_Compare1 (h₁.tk g s _ _ hg S fun v₁ g₁ s₁ G₁ r₁ t₁ => h₂ g₁ s₁ _ _ (stays_trans hg G₁.gg) (S.grow G₁ t₁) fun v₂ g₂ s₂ G₂ r₂ => ?_) hm
  exact h g₂ s₂ v₁ v₂ _ _ (stays_trans hg (stays_trans G₁.gg G₂.gg)) G₂.gs (r₁.mono G₂.gg) r₂ fun v g₃ s₃ G₃ r₃ => hQ v g₃ s₃ ((G₁.trans G₂).trans G₃) r₃
end
theorem rdI {h : Heap} {v : Value} {i : Int} (r : Rd h v (.int i)) : ∃ t, v = .int i t := by
  cases r with | int _ t => exact ⟨t, rfl⟩
theorem rdS {h : Heap} {v : Value} {x : Str} (r : Rd h v (.str x)) : ∃ t, v = .str x t := by
  cases r with | str _ t => exact ⟨t, rfl⟩
theorem rdC {h : Heap} {vs : List Value} {d : PyData} {ds : List PyData} (r : RdA h vs (d :: ds)) : ∃ v vs', vs = v :: vs' ∧ Rd h v d ∧ RdA h vs' ds := by
  cases r with | cons a b => exact ⟨_, _, rfl, a, b⟩
theorem rdN {h : Heap} {vs : List Value} (r : RdA h vs []) : vs = [] := by
  cases r with | nil => rfl
theorem rdL {h : Heap} {v : Value} {ds : List PyData} {G : Prop} (r : Rd h v (.list ds)) (k : ∀ a o vs n, v = .ref a → h.get? a = some o → o.cls = .type "list" → o.data = .seq vs n → o.dict = none → RdA h vs.toList ds → G) : G := by
  cases r with | list e hc hd hp r => exact k _ _ _ _ rfl e hc hd hp r
theorem rdT {h : Heap} {v : Value} {ds : List PyData} {G : Prop} (r : Rd h v (.tuple ds)) (k : ∀ a o vs n, v = .ref a → h.get? a = some o → o.cls = .type "tuple" → o.data = .seq vs n → RdA h vs.toList ds → G) : G := by
  cases r with | tuple e hc hd r => exact k _ _ _ _ rfl e hc hd r
theorem rdU {h : Heap} {v : Value} {ds : List PyData} {G : Prop} (r : Rd h v (.dict [(.list ds, .none)])) (k : ∀ a o vs n, v = .ref a → h.get? a = some o → o.cls = .type "list" → o.data = .seq vs n → RdA h vs.toList ds → G) : G := by
  cases r with | bare e hc hd r => exact k _ _ _ _ rfl e hc hd r
theorem rdB {h : Heap} {v : Value} {b : Bool} (r : Rd h v (.bool b)) : v = .bool b := by
  cases r with | bool _ => rfl
theorem op2I {c : Cx} {A : Around} {op : Value → Value → Sem Value} {a b : Int} {d : PyData} (h : ∀ (g : Heap) (s : Shared) (t u : Tok) (Q E : Value → Shared → Prop), g.StaysIn s.heap → (∀ v g' s', Gr g s g' s' → Rd g' v d → Q v s') → wpAny (model c.prog c.w) A (op (.int a t) (.int b u)) Q E s) : Op2 c A op (.int a) (.int b) d := fun g s v₁ v₂ Q E _ k r₁ r₂ hQ => by
  obtain ⟨t, rfl⟩ := rdI r₁
  obtain ⟨u, rfl⟩ := rdI r₂
  exact h g s t u Q E k hQ
theorem op2S {c : Cx} {A : Around} {op : Value → Value → Sem Value} {a b : Str} {d : PyData} (h : ∀ (g : Heap) (s : Shared) (t u : Tok) (Q E : Value → Shared → Prop), g.StaysIn s.heap → (∀ v g' s', Gr g s g' s' → Rd g' v d → Q v s') → wpAny (model c.prog c.w) A (op (.str a t) (.str b u)) Q E s) : Op2 c A op (.str a) (.str b) d := fun g s v₁ v₂ Q E _ k r₁ r₂ hQ => by
  obtain ⟨t, rfl⟩ := rdS r₁
  obtain ⟨u, rfl⟩ := rdS r₂
  exact h g s t u Q E k hQ
theorem op2B {c : Cx} {A : Around} {op : Value → Value → Sem Value} {a b : Bool} {d : PyData} (h : ∀ (g : Heap) (s : Shared) (Q E : Value → Shared → Prop), g.StaysIn s.heap → (∀ v g' s', Gr g s g' s' → Rd g' v d → Q v s') → wpAny (model c.prog c.w) A (op (.bool a) (.bool b)) Q E s) : Op2 c A op (.bool a) (.bool b) d := fun g s v₁ v₂ Q E _ k r₁ r₂ hQ => by
  rw [rdB r₁, rdB r₂]
  exact h g s Q E k hQ
theorem is_bool {a b : Bool} : (Value.bool a == Value.bool b) = (a == b) := by cases a <;> cases b <;> rfl
theorem bind_via {P : Arguments} {G : FuncData → Prop} (k : ∀ fd : FuncData, G { fd with params := P, defaults := .none }) (fd : FuncData) (h : fd.params = P) (h' : fd.defaults = .none) : G fd := by
  have := k fd
  rw [← h, ← h'] at this
  exact this
theorem vsS {n : Nat} {P : List Value → Prop} (h : ∀ a l, l.length = n → P (a :: l)) (vs : List Value) (e : vs.length = n + 1) : P vs := by
  cases vs with
  | nil => exact absurd e (Nat.succ_ne_zero n).symm
  | cons a l => exact h a l (Nat.succ.inj e)
theorem vs1 {P : List Value → Prop} (h : ∀ a, P [a]) : ∀ vs : List Value, vs.length = 1 → P vs := vsS fun a l e => by rw [List.length_eq_zero_iff.mp e]; exact h a
theorem vs2 {P : List Value → Prop} (h : ∀ a b, P [a, b]) : ∀ vs : List Value, vs.length = 2 → P vs := vsS fun a => vs1 (P := fun l => P (a :: l)) (h a)
theorem vs3 {P : List Value → Prop} (h : ∀ a b c, P [a, b, c]) : ∀ vs : List Value, vs.length = 3 → P vs := vsS fun a => vs2 (P := fun l => P (a :: l)) (h a)
theorem vs4 {P : List Value → Prop} (h : ∀ a b c d, P [a, b, c, d]) : ∀ vs : List Value, vs.length = 4 → P vs := vsS fun a => vs3 (P := fun l => P (a :: l)) (h a)
theorem vs6 {P : List Value → Prop} (h : ∀ a b c d e f, P [a, b, c, d, e, f]) : ∀ vs : List Value, vs.length = 6 → P vs := vsS fun a => vsS fun b => vs4 (P := fun l => P (a :: b :: l)) (h a b)
end Mine
end
/-! ## B2 -/
section
open PySem PySem.W PySem.Calls PyProof.Rows
set_option maxRecDepth 100000
namespace Mine
open Classical in
/-- h, but only what p takes -/
noncomputable def only (h : Heap) (p : Addr → Prop) : Heap := ⟨h.objs.mapIdx fun i o => if p i then o else { o with data := .freed }, h.life⟩
theorem only_get {h : Heap} {p : Addr → Prop} {a : Addr} {o : Obj} : (only h p).get? a = some o ↔ p a ∧ h.get? a = some o := by
  rw [Heap.get?_some_iff, Heap.get?_some_iff]
  unfold only
  simp only [Array.getElem?_mapIdx]
  constructor
  · rintro ⟨e, f⟩
    cases q : h.objs[a]? with
    | none => rw [q] at e; cases e
    | some o' =>
      rw [q] at e
      simp only [Option.map_some, Option.some.injEq] at e
      by_cases hp : p a
      · rw [if_pos hp] at e; subst e; exact ⟨hp, rfl, f⟩
      · rw [if_neg hp] at e; subst e; cases f
  · rintro ⟨hp, e, f⟩
    rw [e]
    simp [hp, f]
/-- what a pure step may hand on: all that is new -/
theorem grow {g : Heap} {s : Shared} {h' : Heap} (k : g.StaysIn s.heap) (st : s.heap.StaysIn h') (tk : Nat) :
    ∃ g', Gr g s g' { s with heap := h', toks := tk } ∧ ∀ a o, s.heap.get? a = none → h'.get? a = some o → g'.get? a = some o := by
  refine ⟨only h' fun a => (∃ o, g.get? a = some o) ∨ s.heap.get? a = none, ⟨fun a o e => only_get.mpr ⟨.inl ⟨o, e⟩, st _ _ (k _ _ e)⟩, fun a o e => (only_get.mp e).2, st, fun a o e => ?_, _, _, rfl⟩, fun a o e e' => only_get.mpr ⟨.inr e, e'⟩⟩
  obtain ⟨q, e'⟩ := only_get.mp e
  rcases q with ⟨o', q⟩ | q
  · have := st _ _ (k _ _ q)
    rw [e'] at this
    cases this
    exact .inl q
  · exact .inr q
theorem none_at_size (h : Heap) : h.get? h.objs.size = none := by
  cases e : h.get? h.objs.size with
  | none => rfl
  | some o => exact absurd (Heap.lt_size e) (Nat.lt_irrefl _)
/-- one object is made -/
theorem grow1 {g : Heap} {s : Shared} (k : g.StaysIn s.heap) (o : Obj) (hf : o.isFreed = false) (tk : Nat) :
    ∃ g', Gr g s g' { s with heap := s.heap.push o, toks := tk } ∧ g'.get? s.heap.objs.size = some o := by
  obtain ⟨g', G, h⟩ := grow k (push_stays s.heap o) tk
  exact ⟨g', G, h _ _ (none_at_size _) (Heap.get?_push_size _ hf)⟩

noncomputable def Op1 (c : Cx) (A : Around) (op : Value → Sem Value) (d₁ d : PyData) : Prop :=
  ∀ (g : Heap) (s : Shared) (v₁ : Value) (Q E : Value → Shared → Prop), c.g0.StaysIn g → g.StaysIn s.heap → Rd g v₁ d₁ →
    (∀ v g' s', Gr g s g' s' → Rd g' v d → Q v s') → wpAny (model c.prog c.w) A (op v₁) Q E s

section
variable {c : Cx} {A : Around} {env : Env} {ρ : List (Str × PyData)}
theorem op_add {a b : Int} : Op2 c A (binaryOp .Add) (.int a) (.int b) (.int (a + b)) := op2I fun g s t u Q E k hQ =>
  add_int (hQ _ _ _ (Gr.toks k _) (.int _ _))
theorem op_sub {a b : Int} : Op2 c A (binaryOp .Sub) (.int a) (.int b) (.int (a - b)) := op2I fun g s t u Q E k hQ =>
  sub_int (hQ _ _ _ (Gr.toks k _) (.int _ _))
theorem op_mul {a b : Int} (hm : IntMulOk a b) : Op2 c A (binaryOp .Mult) (.int a) (.int b) (.int (a * b)) := op2I fun g s t u Q E k hQ =>
  mul_int (hQ _ _ _ (Gr.toks k _) (.int _ _)) hm
theorem op_mod {a b : Int} (hb : b ≠ 0) : Op2 c A (binaryOp .Mod) (.int a) (.int b) (.int (a.fmod b)) := op2I fun g s t u Q E k hQ =>
  mod_int' hb (hQ _ _ _ (Gr.toks k _) (.int _ _))
theorem op_div {a b : Int} (hh : A.handled = none) (hb : b ≠ 0) (hl : b.natAbs.log2 < 9000) : Op2 c A (binaryOp .FloorDiv) (.int a) (.int b) (.int (a.fdiv b)) := op2I fun g s t u Q E k hQ =>
  floordiv_int_or hh (fun e => absurd e hb) (fun _ => hQ _ _ _ (Gr.toks k _) (.int _ _)) (fun _ => .inl (PyProof.noPylong_of_log2 hl))
theorem op_pow {a n : Int} (hn : 0 ≤ n) (hb : (Builtin.Int.intBits a : Int) * n ≤ 2 ^ 27) : Op2 c A (binaryOp .Pow) (.int a) (.int n) (.int (a ^ n.toNat)) := op2I fun g s t u Q E k hQ =>
  pow_int hn hb (hQ _ _ _ (Gr.toks k _) (.int _ _))
theorem op_lt {a b : Int} : Op2 c A (compareOp .Lt) (.int a) (.int b) (.bool (decide (a < b))) := op2I fun g s t u Q E k hQ =>
  lt_int (hQ _ _ _ (Gr.refl k) (.bool _))
theorem op_gt {a b : Int} : Op2 c A (compareOp .Gt) (.int a) (.int b) (.bool (decide (b < a))) := op2I fun g s t u Q E k hQ =>
  gt_int (hQ _ _ _ (Gr.refl k) (.bool _))
theorem op_le {a b : Int} : Op2 c A (compareOp .LtE) (.int a) (.int b) (.bool (decide (a ≤ b))) := op2I fun g s t u Q E k hQ =>
  le_int (hQ _ _ _ (Gr.refl k) (.bool _))
theorem op_eq {d₁ d₂ : PyData} (h₁ : d₁.canLay0 = true) (h₂ : d₂.canLay0 = true) (hu : A.units + min d₁.depth d₂.depth < cLine) (f₁ : flat d₁ = true := by rfl) (f₂ : flat d₂ = true := by rfl) : Op2 c A (compareOp .Eq) d₁ d₂ (.bool (PyData.eqv d₁ d₂)) := by
  intro g s v₁ v₂ Q E hg k r₁ r₂ hQ
  obtain ⟨_, q₁⟩ := (r₁.mono k).reads f₁
  obtain ⟨_, q₂⟩ := (r₂.mono k).reads f₂
  exact SeqAt.compareEq_reads q₁ q₂ h₁ h₂ hu (hQ _ _ _ (Gr.refl k) (.bool _))
theorem op_ne {d₁ d₂ : PyData} (h₁ : d₁.canLay0 = true) (h₂ : d₂.canLay0 = true) (hu : A.units + min d₁.depth d₂.depth < cLine) (f₁ : flat d₁ = true := by rfl) (f₂ : flat d₂ = true := by rfl) : Op2 c A (compareOp .NotEq) d₁ d₂ (.bool (!PyData.eqv d₁ d₂)) := by
  intro g s v₁ v₂ Q E hg k r₁ r₂ hQ
  obtain ⟨_, q₁⟩ := (r₁.mono k).reads f₁
  obtain ⟨_, q₂⟩ := (r₂.mono k).reads f₂
  exact SeqAt.compareNe_reads q₁ q₂ h₁ h₂ hu (hQ _ _ _ (Gr.refl k) (.bool _))
/-- bools are one: 'is' tells them -/
theorem op_is_bool {a b : Bool} : Op2 c A (compareOp .Is) (.bool a) (.bool b) (.bool (a == b)) := op2B fun g s Q E k hQ => by
  refine wpAny_is_plain rfl ?_
  rw [is_bool]
  exact hQ _ _ _ (Gr.refl k) (.bool _)
theorem op_isNot_bool {a b : Bool} : Op2 c A (compareOp .IsNot) (.bool a) (.bool b) (.bool (!(a == b))) := op2B fun g s Q E k hQ => by
  refine wpAny_isNot_plain rfl ?_
  rw [is_bool]
  exact hQ _ _ _ (Gr.refl k) (.bool _)
theorem op_add_str {x y : Str} (hl : x.length + y.length ≤ sizeLine) : Op2 c A (binaryOp .Add) (.str x) (.str y) (.str (x ++ y)) := op2S fun g s t u Q E k hQ =>
  add_str (fun t' tk => hQ _ _ _ (Gr.toks k _) (.str _ _)) hl
theorem op_mul_str {x : Str} {n : Int} (hm : MulOk x n) : Op2 c A (binaryOp .Mult) (.str x) (.int n) (.str (Txt.mul x n)) := by
  intro g s v₁ v₂ Q E hg k r₁ r₂ hQ
  obtain ⟨_, rfl⟩ := rdS r₁
  obtain ⟨_, rfl⟩ := rdI r₂
  exact SB.mul hm (fun t' tk => hQ _ _ _ (Gr.toks k _) (.str _ _))
theorem op_neg {a : Int} : Op1 c A (unaryOp .USub) (.int a) (.int (-a)) := by
  intro g s v₁ Q E hg k r₁ hQ
  first | (obtain ⟨_, rfl⟩ := rdI r₁) | (obtain ⟨_, rfl⟩ := rdS r₁) | (obtain rfl := rdN r₁) | cases r₁
  exact neg_int (hQ _ _ _ (Gr.toks k _) (.int _ _))
theorem ev_un {e : Expr} {op : UnaryOp} {pos : Pos} {d₁ d : PyData} (h₁ : Ev c A env ρ e d₁) (h : Op1 c A (unaryOp op) d₁ d) : Ev c A env ρ (.UnaryOp op e pos) d := by
  intro g s Q E hg S hQ
  refine wpAny_UnaryOp (h₁.tk g s _ _ hg S fun v₁ g₁ s₁ G₁ r₁ t₁ => ?_)
  exact h g₁ s₁ v₁ _ _ (stays_trans hg G₁.gg) G₁.gs r₁ fun v g₂ s₂ G₂ r₂ => hQ v g₂ s₂ (G₁.trans G₂) r₂

/-! displays -/
noncomputable def Evs (c : Cx) (A : Around) (env : Env) (ρ : List (Str × PyData)) (es : List Expr) (ds : List PyData) : Prop :=
  ∀ (pos : Pos) (g : Heap) (s : Shared) (Q : List Value → Shared → Prop) (E : Value → Shared → Prop), c.g0.StaysIn g → St env ρ g s →
    (∀ vs g' s', Gr g s g' s' → RdA g' vs ds → Q vs s') → wpAny (model c.prog c.w) A (spliced (backTo pos (starEach es env))) Q E s
theorem evs_nil : Evs c A env ρ [] [] := fun pos g s Q E hg S hQ => wpAny_items_nil (hQ _ _ _ (Gr.refl S.gs) .nil)
theorem Evs.tk {es : List Expr} {ds : List PyData} (h : Evs c A env ρ es ds) (pos : Pos) (g : Heap) (s : Shared) (Q : List Value → Shared → Prop) (E : Value → Shared → Prop) (hg : c.g0.StaysIn g) (S : St env ρ g s)
    (hQ : ∀ vs g' s', Gr g s g' s' → RdA g' vs ds → 1 ≤ s'.toks → Q vs s') : wpAny (model c.prog c.w) A (spliced (backTo pos (starEach es env))) Q E s := wpAny_with_toks S.tk (h pos g s _ _ hg S fun vs g' s' G r t => hQ vs g' s' G r t)
theorem evs_cons {e : Expr} {es : List Expr} {d : PyData} {ds : List PyData} (h : Ev c A env ρ e d) (hs : Evs c A env ρ es ds)
    (he : starEach (e :: es) env = (false, eval e env) :: starEach es env := by rfl) : Evs c A env ρ (e :: es) (d :: ds) := by
  intro pos g s Q E hg S hQ
  refine wpAny_items_cons (h.tk g s _ _ hg S fun v g₁ s₁ G₁ r₁ t₁ => hs pos g₁ s₁ _ _ (stays_trans hg G₁.gg) (S.grow G₁ t₁) fun vs g₂ s₂ G₂ r₂ => ?_) he
  exact hQ _ _ _ (G₁.trans G₂) (.cons (r₁.mono G₂.gg) r₂)
theorem ev_tuple {es : List Expr} {k : Nat} {pos : Pos} {ds : List PyData} (h : Evs c A env ρ es ds) (hl : ds.length ≤ sizeLine) : Ev c A env ρ (.Tuple es k pos) (.tuple ds) := by
  intro g s Q E hg S hQ
  refine wpAny_Tuple (h pos g s _ _ hg S fun vs g₁ s₁ G₁ r₁ => ⟨by rw [r₁.length]; exact hl, ?_⟩)
  obtain ⟨g₂, G₂, e⟩ := grow1 G₁.gs { cls := .type "tuple", data := .seq vs.toArray } rfl s₁.toks
  exact hQ _ g₂ _ (G₁.trans G₂) (.tuple e rfl rfl (r₁.mono G₂.gg))
theorem ev_list {es : List Expr} {pos : Pos} {ds : List PyData} (h : Evs c A env ρ es ds) (hl : ds.length ≤ sizeLine) : Ev c A env ρ (.List es pos) (.list ds) := by
  intro g s Q E hg S hQ
  refine wpAny_List (h pos g s _ _ hg S fun vs g₁ s₁ G₁ r₁ => ⟨by rw [r₁.length]; exact hl, ?_⟩)
  obtain ⟨g₂, G₂, e⟩ := grow1 G₁.gs { cls := .type "list", data := .seq vs.toArray } rfl s₁.toks
  exact hQ _ g₂ _ (G₁.trans G₂) (.list e rfl rfl rfl (r₁.mono G₂.gg))

/-! truth -/
noncomputable def truth : PyData → Option Bool
  | .none => some false
  | .bool b => some b
  | .int i => some (i != 0)
  | .list xs => some (!xs.isEmpty)
  | _ => none
theorem truthy_rd {g : Heap} {s : Shared} {v : Value} {d : PyData} {b : Bool} {Q : Bool → Shared → Prop} {E : Value → Shared → Prop} (k : g.StaysIn s.heap) (r : Rd g v d) (hb : truth d = some b) (hl : ∀ xs, d = .list xs → xs.length < 2 ^ 62)
    (h : ∀ tk, Q b { s with toks := tk }) : wpAny (model c.prog c.w) A (truthy v) Q E s := by
  cases r with
  | none => cases hb; exact wpAny_pure (h s.toks)
  | bool b' => cases hb; exact wpAny_truthy_bool (h s.toks)
  | int i t => cases hb; exact truthy_int (h s.toks)
  | str x t => cases hb
  | @list a o vs n ds e hc hd hp r =>
    have hll := hl _ rfl
    have hz := r.length
    rw [Array.length_toList] at hz
    refine wpAny_truthy_list (items := vs) ⟨o, k _ _ e, hc, n, hd⟩ (by lia) ?_
    have : (!vs.isEmpty) = b := by
      cases hb
      obtain ⟨l⟩ := vs
      cases r <;> rfl
    rw [this]
    exact h _
  | tuple => cases hb
  | bare => cases hb
  | dict => cases hb
  | inst => cases hb
end
end Mine
end
/-! ## B3 -/
section
open PySem PySem.W PySem.Calls PyProof.Rows
set_option maxRecDepth 100000
namespace Mine
section
variable {c : Cx} {A : Around} {env : Env} {ρ : List (Str × PyData)}

/-! tests -/
theorem tr_val {e : Expr} {d : PyData} {b : Bool} (h : Ev c A env ρ e d) (hb : truth d = some b) (hl : ∀ xs, d = .list xs → xs.length < 2 ^ 62)
    (he : isTrue e env (eval e env) = (do let v ← eval e env; standAt e.pos; holding [v] (truthy v)) := by rfl) : Tr c A env ρ e b := by
  intro g s Q E hg S hQ
  refine wpAny_isTrue_value (h.tk g s _ _ hg S fun v g₁ s₁ G₁ r₁ t₁ => ?_) he
  exact truthy_rd (c := c) G₁.gs r₁ hb hl fun tk => hQ _ _ (G₁.trans (Gr.toks G₁.gs tk))
theorem tr_cmp {l r : Expr} {op : CmpOp} {pos : Pos} {d₁ d₂ : PyData} {b : Bool} (h₁ : Ev c A env ρ l d₁) (h₂ : Ev c A env ρ r d₂) (h : Op2 c A (compareOp op) d₁ d₂ (.bool b))
    (hm : behindInMarks op r = false := by with_unfolding_all rfl) : Tr c A env ρ (.Compare l [op] [r] pos) b := by
  intro g s Q E hg S hQ
  refine wpAny_isTrue_Compare1 (h₁.tk g s _ _ hg S fun v₁ g₁ s₁ G₁ r₁ t₁ => h₂ g₁ s₁ _ _ (stays_trans hg G₁.gg) (S.grow G₁ t₁) fun v₂ g₂ s₂ G₂ r₂ => ?_) hm
  refine h g₂ s₂ v₁ v₂ _ _ (stays_trans hg (stays_trans G₁.gg G₂.gg)) G₂.gs (r₁.mono G₂.gg) r₂ fun v g₃ s₃ G₃ r₃ => ?_
  first | (obtain ⟨_, rfl⟩ := rdI r₃) | (obtain ⟨_, rfl⟩ := rdS r₃) | (obtain rfl := rdN r₃) | cases r₃
  exact wpAny_truthy_bool (hQ _ _ ((G₁.trans G₂).trans G₃))
theorem tr_not {e : Expr} {pos : Pos} {b : Bool} (h : Tr c A env ρ e b) : Tr c A env ρ (.UnaryOp .Not e pos) (!b) := by
  intro g s Q E hg S hQ
  exact wpAny_isTrue_Not (h g s _ _ hg S fun g₁ s₁ G₁ => hQ _ _ G₁)
/-- all of them | one of them, as Python looks at them -/
noncomputable def Al (c : Cx) (A : Around) (env : Env) (ρ : List (Str × PyData)) (op : BoolOp) (es : List Expr) (b : Bool) : Prop :=
  ∀ (g : Heap) (s : Shared) (Q : Bool → Shared → Prop) (E : Value → Shared → Prop), c.g0.StaysIn g → St env ρ g s →
    (∀ g' s', Gr g s g' s' → Q b s') → wpAny (model c.prog c.w) A (allTrue op es env) Q E s
theorem al_and_nil : Al c A env ρ .And [] true := fun g s Q E hg S hQ => wpAny_allTrue_And_nil (hQ _ _ (Gr.refl S.gs))
theorem al_or_nil : Al c A env ρ .Or [] false := fun g s Q E hg S hQ => wpAny_allTrue_Or_nil (hQ _ _ (Gr.refl S.gs))
theorem al_and {e : Expr} {es : List Expr} {b₁ b₂ : Bool} (h₁ : Tr c A env ρ e b₁) (h₂ : b₁ = true → Al c A env ρ .And es b₂) : Al c A env ρ .And (e :: es) (b₁ && b₂) := by
  intro g s Q E hg S hQ
  refine wpAny_allTrue_And_cons (h₁.tk g s _ _ hg S fun g₁ s₁ G₁ t₁ => ?_)
  cases b₁ with
  | false => exact hQ _ _ G₁
  | true => exact h₂ rfl g₁ s₁ _ _ (stays_trans hg G₁.gg) (S.grow G₁ t₁) fun g₂ s₂ G₂ => hQ _ _ (G₁.trans G₂)
theorem al_or {e : Expr} {es : List Expr} {b₁ b₂ : Bool} (h₁ : Tr c A env ρ e b₁) (h₂ : b₁ = false → Al c A env ρ .Or es b₂) : Al c A env ρ .Or (e :: es) (b₁ || b₂) := by
  intro g s Q E hg S hQ
  refine wpAny_allTrue_Or_cons (h₁.tk g s _ _ hg S fun g₁ s₁ G₁ t₁ => ?_)
  cases b₁ with
  | true => exact hQ _ _ G₁
  | false => exact h₂ rfl g₁ s₁ _ _ (stays_trans hg G₁.gg) (S.grow G₁ t₁) fun g₂ s₂ G₂ => hQ _ _ (G₁.trans G₂)
theorem tr_bool {op : BoolOp} {es : List Expr} {pos : Pos} {b : Bool} (h : Al c A env ρ op es b) : Tr c A env ρ (.BoolOp op es pos) b := fun g s Q E hg S hQ =>
  wpAny_isTrue_BoolOp (h g s _ _ hg S hQ)
theorem ev_ifexp {t x y : Expr} {pos : Pos} {b : Bool} {d : PyData} (h : Tr c A env ρ t b) (h₁ : b = true → Ev c A env ρ x d) (h₂ : b = false → Ev c A env ρ y d) : Ev c A env ρ (.IfExp t x y pos) d := by
  intro g s Q E hg S hQ
  refine wpAny_IfExp (h.tk g s _ _ hg S fun g₁ s₁ G₁ t₁ => ?_)
  cases b with
  | true => exact h₁ rfl g₁ s₁ _ _ (stays_trans hg G₁.gg) (S.grow G₁ t₁) fun v g₂ s₂ G₂ r => hQ _ _ _ (G₁.trans G₂) r
  | false => exact h₂ rfl g₁ s₁ _ _ (stays_trans hg G₁.gg) (S.grow G₁ t₁) fun v g₂ s₂ G₂ r => hQ _ _ _ (G₁.trans G₂) r

/-! items -/
theorem isTup_of {g : Heap} {s : Shared} {a : Addr} {o : Obj} {vs : Array Value} {n : Nat} (k : g.StaysIn s.heap) (e : g.get? a = some o) (hc : o.cls = .type "tuple") (hd : o.data = .seq vs n) : IsTup s.heap a vs := ⟨o, k _ _ e, hc, n, hd⟩
theorem isList_of {g : Heap} {s : Shared} {a : Addr} {o : Obj} {vs : Array Value} {n : Nat} (k : g.StaysIn s.heap) (e : g.get? a = some o) (hc : o.cls = .type "list") (hd : o.data = .seq vs n) : s.heap.IsList a vs := ⟨o, k _ _ e, hc, n, hd⟩

theorem op_item_list {ds : List PyData} {k : Int} {j : Nat} {d : PyData} (hj : seqIndex? k ds.length = some j) (hd : ds[j]? = some d) (h1 : -(2 ^ 63) ≤ k) (h2 : k < 2 ^ 63) : Op2 c A getItem (.list ds) (.int k) d := by
  intro g s v₁ v₂ Q E hg kk r₁ r₂ hQ
  first | (obtain ⟨_, rfl⟩ := rdI r₂) | (obtain ⟨_, rfl⟩ := rdS r₂) | (obtain rfl := rdN r₂) | cases r₂
  have zq := r₁; clear r₁; refine rdL zq fun a o vs n ev e hc hdd hp r => ?_
  subst ev
  obtain ⟨v, hv, rv⟩ := r.get hd
  have hz := r.length
  rw [Array.length_toList] at hz
  rw [Array.getElem?_toList] at hv
  unfold seqIndex? at hj
  by_cases h0 : k < 0
  · rw [if_pos h0] at hj
    dsimp only at hj
    split at hj
    · rename_i hb
      cases hj
      simp only [Bool.and_eq_true, decide_eq_true_eq] at hb
      exact wpAny_getItem_list_neg (isList_of kk e hc hdd) h0 (by lia) (by lia) (by rw [hz]; exact hv) (hQ _ _ _ (Gr.refl kk) rv)
    · cases hj
  · rw [if_neg h0] at hj
    dsimp only at hj
    split at hj
    · rename_i hb
      cases hj
      exact wpAny_getItem_list (isList_of kk e hc hdd) (by lia) (by lia) hv (hQ _ _ _ (Gr.refl kk) rv)
    · cases hj
theorem op_item_tuple {ds : List PyData} {k : Int} {j : Nat} {d : PyData} (hj : seqIndex? k ds.length = some j) (hd : ds[j]? = some d) (h1 : -(2 ^ 63) ≤ k) (h2 : k < 2 ^ 63) : Op2 c A getItem (.tuple ds) (.int k) d := by
  intro g s v₁ v₂ Q E hg kk r₁ r₂ hQ
  first | (obtain ⟨_, rfl⟩ := rdI r₂) | (obtain ⟨_, rfl⟩ := rdS r₂) | (obtain rfl := rdN r₂) | cases r₂
  have zq := r₁; clear r₁; refine rdT zq fun a o vs n ev e hc hdd r => ?_
  subst ev
  obtain ⟨v, hv, rv⟩ := r.get hd
  have hz := r.length
  rw [Array.length_toList] at hz
  rw [Array.getElem?_toList] at hv
  exact getItem_tuple (isTup_of kk e hc hdd) h1 h2 (by rw [hz]; exact hj) hv (hQ _ _ _ (Gr.refl kk) rv)
theorem op_item_str {x : Str} {k : Int} {ch : Nat} (hj : (seqIndex? k x.length).bind (x.cps[·]?) = some ch) (h1 : -(2 ^ 63) ≤ k) (h2 : k < 2 ^ 63) : Op2 c A getItem (.str x) (.int k) (.str ⟨#[ch]⟩) := by
  intro g s v₁ v₂ Q E hg kk r₁ r₂ hQ
  first | (obtain ⟨_, rfl⟩ := rdI r₂) | (obtain ⟨_, rfl⟩ := rdS r₂) | (obtain rfl := rdN r₂) | cases r₂
  first | (obtain ⟨_, rfl⟩ := rdI r₁) | (obtain ⟨_, rfl⟩ := rdS r₁) | (obtain rfl := rdN r₁) | cases r₁
  refine P.getItem_str ?_ hj (hQ _ _ _ (Gr.toks kk _) (.str _ _))
  rw [Bool.or_eq_false_iff]
  exact ⟨decide_eq_false (by lia), decide_eq_false (by lia)⟩
/-- the kinds that have items -/
noncomputable def seqT : PyData → Option String
  | .list _ => some "list"
  | .tuple _ => some "tuple"
  | .str _ => some "str"
  | _ => none
theorem rd_type {g : Heap} {s : Shared} {v : Value} {d : PyData} {T : String} (k : g.StaysIn s.heap) (r : Rd g v d) (h : seqT d = some T) : s.TypeIs v T := by
  cases r with
  | none => cases h
  | bool => cases h
  | int => cases h
  | str x t => cases h; exact typeIs_str s x t
  | list e hc hd hp r => cases h; exact ⟨_, k _ _ e, hc⟩
  | tuple e hc hd r => cases h; exact ⟨_, k _ _ e, hc⟩
  | bare => cases h
  | dict => cases h
  | inst => cases h
theorem seq_lookup {T : String} (h : T = "list" ∨ T = "tuple" ∨ T = "str") : ∃ id, typeLookup (.type T) "__getitem__" = pure (some (.builtin id)) := by
  rcases h with rfl | rfl | rfl
  · exact ⟨_, slot_list_getitem.lookup⟩
  · exact ⟨_, slot_tuple_getitem.lookup⟩
  · exact ⟨_, F.slot_str_getitem.lookup⟩
theorem seqT_is {d : PyData} {T : String} (h : seqT d = some T) : T = "list" ∨ T = "tuple" ∨ T = "str" := by
  cases d <;> cases h <;> simp
theorem ev_item {value slice : Expr} {pos : Pos} {d₁ d₂ d : PyData} {T : String} (h₁ : Ev c A env ρ value d₁) (h₂ : Ev c A env ρ slice d₂) (h : Op2 c A getItem d₁ d₂ d) (hT : seqT d₁ = some T)
    (hs : ∀ o i, subscripted slice false o i = operate [o, i] (getItem o i) := by intro _ _; with_unfolding_all rfl) : Ev c A env ρ (.Subscript value slice pos) d := by
  intro g s Q E hg S hQ
  obtain ⟨id, hid⟩ := seq_lookup (seqT_is hT)
  refine Subscript_ (h₁.tk g s _ _ hg S fun v₁ g₁ s₁ G₁ r₁ t₁ => h₂ g₁ s₁ _ _ (stays_trans hg G₁.gg) (S.grow G₁ t₁) fun v₂ g₂ s₂ G₂ r₂ => ?_)
  refine tail_any (rd_type G₂.gs (r₁.mono G₂.gg) hT) hid ?_ (hs _ _)
  exact h g₂ s₂ v₁ v₂ _ _ (stays_trans hg (stays_trans G₁.gg G₂.gg)) G₂.gs (r₁.mono G₂.gg) r₂ fun v g₃ s₃ G₃ r₃ => hQ v g₃ s₃ ((G₁.trans G₂).trans G₃) r₃

theorem grow2 {g : Heap} {s : Shared} (k : g.StaysIn s.heap) (o₁ o₂ : Obj) (hf : o₂.isFreed = false) (tk : Nat) :
    ∃ g', Gr g s g' { s with heap := (s.heap.push o₁).push o₂, toks := tk } ∧ g'.get? (s.heap.objs.size + 1) = some o₂ := by
  obtain ⟨g', G, h⟩ := grow k (stays_trans (push_stays s.heap o₁) (push_stays _ o₂)) tk
  refine ⟨g', G, h _ _ ?_ ?_⟩
  · cases q : s.heap.get? (s.heap.objs.size + 1) with
    | none => rfl
    | some o' => exact absurd (Nat.lt_of_succ_lt (Heap.lt_size q)) (Nat.lt_irrefl _)
  · have := Heap.get?_push_size (s.heap.push o₁) (o := o₂) hf
    rw [Heap.size_push] at this
    exact this
/-! slices: [:n] of a list -/
theorem ev_upto_list {value : Expr} {up : Expr} {p pos : Pos} {ds : List PyData} {n : Nat} (h₁ : Ev c A env ρ value (.list ds)) (h₂ : Ev c A env ρ up (.int n)) (hl : ds.length ≤ sizeLine)
    (hn : ∀ o r, letTemporaryGo value o r = pure () := by intro _ _; rfl) :
    Ev c A env ρ (.Subscript value (.Slice none (some up) none p) pos) (.list (ds.take n)) := by
  intro g s Q E hg S hQ
  refine wpAny_Subscript_list_slice (h₁.tk g s _ _ hg S fun v₁ g₁ s₁ G₁ r₁ t₁ => ?_) hn
  rw [evalPart_none]
  refine wpAny_pure ?_
  rw [evalPart_some]
  refine h₂ g₁ s₁ _ _ (stays_trans hg G₁.gg) (S.grow G₁ t₁) fun v₂ g₂ s₂ G₂ r₂ => ?_
  obtain ⟨u, rfl⟩ := rdI r₂
  have zq := r₁; clear r₁; refine rdL zq fun a o vs m ev e hc hd hp r => ?_
  subst ev
  have hz := r.length
  rw [Array.length_toList] at hz
  refine ⟨a, vs, none, some (n : Int), rfl, isList_of G₂.gs (G₂.gg _ _ e) hc hd, by lia, .none, .int _ _, ?_⟩
  obtain ⟨g₃, G₃, hget⟩ := grow2 G₂.gs { cls := .type "slice", data := .fields #[Value.none, .int (n : Int) u, .none] } { cls := .type "list", data := .seq (slicePick vs none (some (n : Int)) none) } rfl s₂.toks
  refine hQ _ g₃ _ ((G₁.trans G₂).trans G₃) (.list hget rfl rfl rfl ?_)
  rw [slicePick_upto']
  exact (r.take n).mono (stays_trans G₂.gg G₃.gg)
end
end Mine
end
/-! ## B4 -/
section
open PySem PySem.W PySem.Calls PyProof.Rows
set_option maxRecDepth 100000
namespace Mine

/-- room for n more calls -/
structure Rm (n : Nat) (A : Around) : Prop where
  h : A.handled = none
  d : A.depth + n < 900
  u : A.units + 10 * n < 9000
theorem Rm.deeper {n : Nat} {A : Around} {env : Env} (r : Rm (n + 1) A) : Rm n (A.deeper env) :=
  ⟨r.h, by have := r.d; show A.depth + 1 + n < 900; lia, by have := r.u; show A.units + 3 + 10 * n < 9000; lia⟩
theorem Rm.less {n m : Nat} {A : Around} (r : Rm n A) (h : m ≤ n) : Rm m A := ⟨r.h, by have := r.d; lia, by have := r.u; lia⟩
theorem Rm.room {n : Nat} {A : Around} (r : Rm n A) : A.depth < recursionLimit := by have := r.d; show A.depth < 1000; lia
theorem Rm.line {n : Nat} {A : Around} (r : Rm n A) (k : Nat) (hk : k ≤ 900) : A.units + k < cLine := by have := r.u; show A.units + k < 9900; lia

/-- a name of the top -/
noncomputable def GN (c : Cx) (x : Str) (v : Value) : Prop :=
  ∀ (A : Around) (env : Env) (s : Shared) (Q E : Value → Shared → Prop), env.scope.kind = .function → env.kindOf x = some .globalImplicit → env.globals = mainGlobals → env.builtins = builtinsNs →
    c.g0.StaysIn s.heap → Q v s → wpAny (model c.prog c.w) A (loadName env x) Q E s

/-- a def of the top -/
structure Df (c : Cx) (x : Str) (fa : Addr) (fd : FuncData) : Prop where
  name : GN c x (.ref fa)
  there : ∃ o, c.g0.get? fa = some o ∧ o.data = .func fd
  code : c.g0.CodeRec fd.code fd.qualname
  lim : c.g0.NoLimit
  clo : fd.closure = []
  glob : fd.globals = mainGlobals
  bi : fd.builtins = builtinsNs

/-- the call of the function at fa upon data ds is the data d -/
noncomputable def Fn (c : Cx) (n : Nat) (fa : Addr) (ds : List PyData) (d : PyData) : Prop :=
  ∀ (A : Around) (g : Heap) (s : Shared) (vs : List Value) (Q E : Value → Shared → Prop), Rm n A → c.g0.StaysIn g → g.StaysIn s.heap → 1 ≤ s.toks → RdA g vs ds →
    (∀ v g' s', Gr g s g' s' → Rd g' v d → Q v s') → wpAny (model c.prog c.w) A (call (.ref fa) vs) Q E s
theorem Fn.less {c : Cx} {n m : Nat} {fa : Addr} {ds : List PyData} {d : PyData} (h : Fn c n fa ds d) (k : n ≤ m) : Fn c m fa ds d := fun A g s vs Q E r => h A g s vs Q E (r.less k)

section
variable {c : Cx} {A : Around} {env : Env} {ρ : List (Str × PyData)}
theorem name_GN {x : Str} {v : Value} {p : Pos} {g : Heap} {s : Shared} {Q E : Value → Shared → Prop} (h : GN c x v) (hk : env.kindOf x = some .globalImplicit) (hg : c.g0.StaysIn g) (S : St env ρ g s) (hQ : Q v s)
    (hd : (x == ("__debug__" : Str)) = false := by decide) : wpAny (model c.prog c.w) A (eval (.Name x p) env) Q E s :=
  wpAny_Name (h A env s Q E S.fn hk S.gl S.bl (stays_trans hg S.gs) hQ) hd
theorem ev_call {x : Str} {fa : Addr} {fd : FuncData} {n : Nat} {e : Expr} {es : List Expr} {ds : List PyData} {d : PyData} {p pos : Pos} (D : Df c x fa fd) (hk : env.kindOf x = some .globalImplicit) (ha : Evs c A env ρ (e :: es) ds)
    (hf : Fn c n fa ds d) (hr : Rm n A) (he : starEach (e :: es) env = (false, eval e env) :: starEach es env := by rfl) (hd : (x == ("__debug__" : Str)) = false := by decide) : Ev c A env ρ (.Call (.Name x p) (e :: es) [] pos) d := by
  intro g s Q E hg S hQ
  refine wpAny_Call_NameR (name_GN D.name hk hg S ?_ hd)
  obtain ⟨o, ho, hdat⟩ := D.there
  refine callWith_function (o := o) (fd := fd) ?_
  have := ha.tk pos g s (fun vs s' => (s'.heap.get? fa = some o ∧ o.data = .func fd) ∧ wpAny (model c.prog c.w) A (call (.ref fa) ([] ++ vs) []) Q E s') E hg S fun vs g₁ s₁ G₁ r₁ t₁ =>
    ⟨⟨stays_trans (stays_trans hg G₁.gg) G₁.gs _ _ ho, hdat⟩, hf A g₁ s₁ vs Q E hr (stays_trans hg G₁.gg) G₁.gs t₁ r₁ fun v g₂ s₂ G₂ r₂ => hQ v g₂ s₂ (G₁.trans G₂) r₂⟩
  rw [he] at this ⊢
  exact evalArgs_plain this
/-- a built-in of the top, called -/
theorem ev_callb {x : Str} {id : String} {e : Expr} {es : List Expr} {ds : List PyData} {d : PyData} {p pos : Pos} (hx : GN c x (.builtin id)) (hk : env.kindOf x = some .globalImplicit) (ha : Evs c A env ρ (e :: es) ds)
    (hf : ∀ (g : Heap) (s : Shared) (vs : List Value) (Q E : Value → Shared → Prop), c.g0.StaysIn g → g.StaysIn s.heap → RdA g vs ds → (∀ v g' s', Gr g s g' s' → Rd g' v d → Q v s') → wpAny (model c.prog c.w) A (call (.builtin id) vs) Q E s)
    (he : starEach (e :: es) env = (false, eval e env) :: starEach es env := by rfl) (hpl : (backTo pos ((false, eval e env) :: starEach es env)).any (·.1) = false := by rfl) (hd : (x == ("__debug__" : Str)) = false := by decide) : Ev c A env ρ (.Call (.Name x p) (e :: es) [] pos) d := by
  intro g s Q E hg S hQ
  refine wpAny_Call_NameR (name_GN hx hk hg S ?_ hd)
  have := ha pos g s (fun vs s' => wpAny (model c.prog c.w) A (call (.builtin id) ([] ++ vs) []) Q E s') E hg S fun vs g₁ s₁ G₁ r₁ =>
    hf g₁ s₁ vs Q E (stays_trans hg G₁.gg) G₁.gs r₁ fun v g₂ s₂ G₂ r₂ => hQ v g₂ s₂ (G₁.trans G₂) r₂
  rw [he] at this ⊢
  exact callWith_builtin hpl (evalArgs_plain this)
theorem ev_len {e : Expr} {p pos : Pos} {ds : List PyData} {n : Int} (hx : GN c (Str.ofString "len") (.builtin "len")) (hk : env.kindOf (Str.ofString "len") = some .globalImplicit) (h : Ev c A env ρ e (.list ds)) (hl : ds.length < 2 ^ 62) (hn : n = ds.length)
    (he : starEach [e] env = (false, eval e env) :: starEach [] env := by rfl) : Ev c A env ρ (.Call (.Name (Str.ofString "len") p) [e] [] pos) (.int n) := by
  refine ev_callb hx hk (evs_cons h evs_nil he) (fun g s vs Q E hg k r hQ => ?_) he rfl
  have zq := rdC r; clear r; obtain ⟨_, _, rfl, r, r'⟩ := zq
  first | (obtain ⟨_, rfl⟩ := rdI r') | (obtain ⟨_, rfl⟩ := rdS r') | (obtain rfl := rdN r') | cases r'
  have zq := r; clear r; refine rdL zq fun a o vs n ev e hc hd hp r => ?_
  subst ev
  have hz := r.length
  rw [Array.length_toList] at hz
  refine len_list (isList_of k e hc hd) (by lia) ?_
  rw [hz, ← hn]
  exact hQ _ _ _ (Gr.toks k _) (.int _ _)
end

/-! ## a frame -/
structure Frm (c : Cx) (g₀ : Heap) (s₀ : Shared) (k : Heap) (env : Env) (ν : List (Str × Value)) (ρ : List (Str × PyData)) (g : Heap) (s : Shared) : Prop where
  fn : env.scope.kind = .function
  gl : env.globals = mainGlobals
  bl : env.builtins = builtinsNs
  base : c.g0.StaysIn g₀
  gg : g₀.StaysIn g
  gs : g.StaysIn s.heap
  fr : ∀ a o, g.get? a = some o → g₀.get? a = some o ∨ s₀.heap.get? a = none
  noL : g.get? env.locals = none
  ks : k.StaysIn s.heap
  kL : k.get? env.locals = none
  kC : ∀ n a, env.cells.lookup n = some a → k.get? a = none
  noC : ∀ n a, env.cells.lookup n = some a → g.get? a = none
  gk : ∀ a, g.get? a = none ∨ k.get? a = none
  tk : 1 ≤ s.toks
  fre : ∃ m cm, InCallC s₀ env.locals m env.cells cm s ∧
    (∀ x v, ν.lookup x = some v → ((env.kindOf x = some .local ∧ m x = some v) ∨ (env.kindOf x = some .cell ∧ (∃ a, env.cells.lookup x = some a) ∧ cm x = some v))) ∧
    ∀ x d, ρ.lookup x = some d → ∃ v, Rd g v d ∧ ((env.kindOf x = some .local ∧ m x = some v) ∨ (env.kindOf x = some .cell ∧ (∃ a, env.cells.lookup x = some a) ∧ cm x = some v))

theorem Frm.st {c : Cx} {g₀ : Heap} {s₀ : Shared} {k : Heap} {env : Env} {ν : List (Str × Value)} {ρ : List (Str × PyData)} {g : Heap} {s : Shared} (F : Frm c g₀ s₀ k env ν ρ g s) : St env ρ g s := by
  refine ⟨F.fn, F.gl, F.bl, F.gs, F.tk, fun x d e => ?_⟩
  obtain ⟨m, cm, I, _, h⟩ := F.fre
  obtain ⟨v, r, q⟩ := h x d e
  refine ⟨v, ?_, r⟩
  rcases q with ⟨k, e⟩ | ⟨k, ⟨a, ea⟩, e⟩
  · exact .inl ⟨k, m, I.toInCall.ns, e⟩
  · exact .inr ⟨.inl k, a, ea, e ▸ I.cell x a ea⟩
theorem Frm.gr {c : Cx} {g₀ : Heap} {s₀ : Shared} {k : Heap} {env : Env} {ν : List (Str × Value)} {ρ : List (Str × PyData)} {g : Heap} {s : Shared} (F : Frm c g₀ s₀ k env ν ρ g s) : Gr g₀ s₀ g s := by
  obtain ⟨m, cm, I, h⟩ := F.fre
  exact ⟨F.gg, F.gs, I.toInCall.keep, F.fr, I.toInCall.same⟩
theorem Frm.bg {c : Cx} {g₀ : Heap} {s₀ : Shared} {k : Heap} {env : Env} {ν : List (Str × Value)} {ρ : List (Str × PyData)} {g : Heap} {s : Shared} (F : Frm c g₀ s₀ k env ν ρ g s) : c.g0.StaysIn g := stays_trans F.base F.gg
theorem inCallC_keeps {s₀ s s' : Shared} {L : Addr} {m cm : Str → Option Value} {cs : List (Str × Addr)} (I : InCallC s₀ L m cs cm s) (k : s.heap.StaysIn s'.heap) (e : ∃ h tk, s' = { s with heap := h, toks := tk }) : InCallC s₀ L m cs cm s' := by
  obtain ⟨h, tk, rfl⟩ := e
  obtain ⟨h₁, tk₁, rfl⟩ := I.toInCall.same
  exact ⟨⟨⟨h, tk, rfl⟩, I.toInCall.ns.keeps k, fun b o e => k _ _ (I.toInCall.keep b o e), I.toInCall.fresh⟩, fun n a e => (I.cell n a e).keeps k, I.apart, I.above⟩
/-- a pure step within the frame -/
theorem Frm.step {c : Cx} {g₀ : Heap} {s₀ : Shared} {k : Heap} {env : Env} {ν : List (Str × Value)} {ρ : List (Str × PyData)} {g g' : Heap} {s s' : Shared} (F : Frm c g₀ s₀ k env ν ρ g s) (G : Gr g s g' s') (t : 1 ≤ s'.toks) : Frm c g₀ s₀ k env ν ρ g' s' := by
  have T := F.gr.trans G
  obtain ⟨m, cm, I, hv, h⟩ := F.fre
  refine ⟨F.fn, F.gl, F.bl, F.base, T.gg, G.gs, T.fr, ?_, stays_trans F.ks G.ss, F.kL, F.kC, fun n a e => ?_, fun a => ?_, t, m, cm, inCallC_keeps I G.ss G.rest, hv, fun x d e => let ⟨v, r, q⟩ := h x d e; ⟨v, r.mono G.gg, q⟩⟩
  · cases q : g'.get? env.locals with
    | none => rfl
    | some o =>
      rcases G.fr _ _ q with z | z
      · rw [F.noL] at z; cases z
      · obtain ⟨oL, _, _, hL, _⟩ := I.toInCall.ns
        rw [hL] at z; cases z
  · cases q : g'.get? a with
    | none => rfl
    | some o =>
      rcases G.fr _ _ q with z | z
      · rw [F.noC n a e] at z; cases z
      · obtain ⟨oc, hc, _⟩ := I.cell n a e
        rw [hc] at z; cases z
  · cases q : g'.get? a with
    | none => exact .inl rfl
    | some o =>
      rcases G.fr _ _ q with z | z
      · exact .inr ((F.gk a).resolve_left (by rw [z]; exact fun e => nomatch e))
      · exact .inr (by
          cases qk : k.get? a with
          | none => rfl
          | some o' => rw [F.ks a o' qk] at z; cases z)
/-- the frame, told less -/
theorem Frm.weaken {c : Cx} {g₀ : Heap} {s₀ : Shared} {k : Heap} {env : Env} {ν : List (Str × Value)} {ρ ρ' : List (Str × PyData)} {g : Heap} {s : Shared} (F : Frm c g₀ s₀ k env ν ρ g s) (h : ∀ x d, ρ'.lookup x = some d → ρ.lookup x = some d) : Frm c g₀ s₀ k env ν ρ' g s := by
  obtain ⟨m, cm, I, hv, q⟩ := F.fre
  exact ⟨F.fn, F.gl, F.bl, F.base, F.gg, F.gs, F.fr, F.noL, F.ks, F.kL, F.kC, F.noC, F.gk, F.tk, m, cm, I, hv, fun x d e => q x d (h x d e)⟩
/-- the name x now holds d -/
noncomputable def setρ : List (Str × PyData) → Str → PyData → List (Str × PyData)
  | [], x, d => [(x, d)]
  | (y, e) :: r, x, d => if y == x then (y, d) :: r else (y, e) :: setρ r x d
theorem setρ_lookup (x : Str) (d : PyData) (y : Str) : ∀ ρ : List (Str × PyData), (setρ ρ x d).lookup y = if y = x then some d else ρ.lookup y
  | [] => by
    unfold setρ
    by_cases h : y = x
    · subst h; simp
    · rw [if_neg h, List.lookup_cons, beq_eq_false_iff_ne.mpr h]
  | (z, e) :: r => by
    unfold setρ
    have ih := setρ_lookup x d y r
    by_cases hz : z = x
    · subst hz
      simp only [beq_self_eq_true, if_true]
      by_cases h : y = z
      · subst h; simp
      · rw [if_neg h, List.lookup_cons, List.lookup_cons, beq_eq_false_iff_ne.mpr h]
    · rw [if_neg (by simpa using hz), List.lookup_cons, List.lookup_cons]
      by_cases h : y = z
      · subst h
        simp only [beq_self_eq_true]
        rw [if_neg hz]
      · rw [beq_eq_false_iff_ne.mpr h]
        exact ih
/-- a name is bound: a local or a cell -/
theorem wp_store {c : Cx} {A : Around} {g₀ : Heap} {s₀ : Shared} {k : Heap} {env : Env} {ν : List (Str × Value)} {ρ : List (Str × PyData)} {g : Heap} {s : Shared} {x : Str} {v : Value} {d : PyData} {Q : Unit → Shared → Prop} {E : Value → Shared → Prop} (F : Frm c g₀ s₀ k env ν ρ g s) (r : Rd g v d)
    (hk : env.kindOf x = some .local ∨ (env.kindOf x = some .cell ∧ ∃ a, env.cells.lookup x = some a))
    (hν : ν.lookup x = none) (h : ∀ s', Frm c g₀ s₀ k env ν (setρ ρ x d) g s' → Q () s') : wpAny (model c.prog c.w) A (storeName env x v) Q E s := by
  obtain ⟨m, cm, I, hv, q⟩ := F.fre
  have hne : ∀ y u, ν.lookup y = some u → y ≠ x := fun y u e z => by subst z; rw [hν] at e; cases e
  have stay : ∀ s' : Shared, (∀ b o, g.get? b = some o → s'.heap.get? b = some o) → g.StaysIn s'.heap := fun _ h => h
  have keepL : ∀ (h' : Heap), Heap.SameBut env.locals s.heap h' → g.StaysIn h' := fun h' hs b o e => (hs.2 b (fun z => by subst z; rw [F.noL] at e; cases e)).trans (F.gs b o e)
  rcases hk with hk | ⟨hk, a, ha⟩
  · refine wpAny_storeName_local hk I.toInCall.ns (fun h' hn' hs' => h _ ⟨F.fn, F.gl, F.bl, F.base, F.gg, keepL h' hs', F.fr, F.noL, (fun b o e => (hs'.2 b (fun z => by subst z; rw [F.kL] at e; cases e)).trans (F.ks b o e)), F.kL, F.kC, F.noC, F.gk, Nat.succ_le_succ (Nat.zero_le _), (fun y => if y = x then some v else m y), cm,
      ⟨⟨?_, hn', fun b o e => ?_, I.toInCall.fresh⟩, fun k c' hc => ?_, I.apart, I.above⟩, fun y u e => (hv y u e).imp (fun z => ⟨z.1, (if_neg (hne y u e)).trans z.2⟩) id, fun y e he => ?_⟩) (by rw [F.fn]; rfl)
    · obtain ⟨h₁, tk, rfl⟩ := I.toInCall.same
      exact ⟨h', _, rfl⟩
    · exact hs'.extBut b o (Nat.ne_of_lt (Nat.lt_of_lt_of_le (Heap.lt_size e) I.toInCall.fresh)) (I.toInCall.keep b o e)
    · exact (I.cell k c' hc).sameBut hs' (Nat.ne_of_gt (I.above k c' (PySem.mem_of_lookup hc)))
    · rw [setρ_lookup] at he
      by_cases hy : y = x
      · subst hy
        rw [if_pos rfl] at he
        cases he
        exact ⟨v, r, .inl ⟨hk, by simp⟩⟩
      · rw [if_neg hy] at he
        obtain ⟨u, ru, qu⟩ := q y e he
        refine ⟨u, ru, ?_⟩
        rcases qu with ⟨k1, k2⟩ | k1
        · exact .inl ⟨k1, (if_neg hy).trans k2⟩
        · exact .inr k1
  · have hLa := I.above x a (PySem.mem_of_lookup ha)
    refine wpAny_storeName_cell F.fn hk ha (I.cell x a ha) fun h' hc' hs' => h _ ⟨F.fn, F.gl, F.bl, F.base, F.gg, ?_, F.fr, F.noL, (fun b o e => (hs'.2 b (fun z => by subst z; rw [F.kC x _ ha] at e; cases e)).trans (F.ks b o e)), F.kL, F.kC, F.noC, F.gk, F.tk, m, (fun y => if y = x then some v else cm y),
      ⟨⟨?_, I.toInCall.ns.sameBut hs' (Nat.ne_of_lt hLa), fun b o e => ?_, I.toInCall.fresh⟩, fun k c' hk' => ?_, I.apart, I.above⟩, fun y u e => (hv y u e).imp id (fun z => ⟨z.1, z.2.1, (if_neg (hne y u e)).trans z.2.2⟩), fun y e he => ?_⟩
    · exact fun b o e => (hs'.2 b (fun z => by subst z; rw [F.noC x _ ha] at e; cases e)).trans (F.gs b o e)
    · obtain ⟨h₁, tk, rfl⟩ := I.toInCall.same
      exact ⟨h', _, rfl⟩
    · exact hs'.extBut b o (Nat.ne_of_lt (Nat.lt_trans (Nat.lt_of_lt_of_le (Heap.lt_size e) I.toInCall.fresh) hLa)) (I.toInCall.keep b o e)
    · by_cases hkn : k = x
      · subst hkn
        rw [ha] at hk'; cases hk'
        simpa using hc'
      · rw [if_neg hkn]
        exact (I.cell k c' hk').sameBut hs' fun e => hkn (name_of_addr I.apart (PySem.mem_of_lookup hk') (e ▸ PySem.mem_of_lookup ha))
    · rw [setρ_lookup] at he
      by_cases hy : y = x
      · subst hy
        rw [if_pos rfl] at he
        cases he
        exact ⟨v, r, .inr ⟨hk, ⟨a, ha⟩, by simp⟩⟩
      · rw [if_neg hy] at he
        obtain ⟨u, ru, qu⟩ := q y e he
        refine ⟨u, ru, ?_⟩
        rcases qu with k1 | ⟨k1, k2, k3⟩
        · exact .inl k1
        · exact .inr ⟨k1, k2, (if_neg hy).trans k3⟩

/-! statements -/
inductive Out where
  | next (ρ : List (Str × PyData))
  | ret (d : PyData)
noncomputable def Post (c : Cx) (g₀ : Heap) (s₀ : Shared) (k : Heap) (env : Env) (ν : List (Str × Value)) (Q : Flow → Shared → Prop) : Out → Prop
  | .next ρ => ∀ g s, Frm c g₀ s₀ k env ν ρ g s → Q .next s
  | .ret d => ∀ v g s, Gr g₀ s₀ g s → Rd g v d → Q (.ret v) s
noncomputable def X1 (c : Cx) (A : Around) (env : Env) (ν : List (Str × Value)) (ρ : List (Str × PyData)) (st : Stmt) (o : Out) : Prop :=
  ∀ (g₀ : Heap) (s₀ : Shared) (k : Heap) (g : Heap) (s : Shared) (Q : Flow → Shared → Prop) (E : Value → Shared → Prop), Frm c g₀ s₀ k env ν ρ g s → Post c g₀ s₀ k env ν Q o → wpAny (model c.prog c.w) A (exec st env) Q E s
noncomputable def X (c : Cx) (A : Around) (env : Env) (ν : List (Str × Value)) (ρ : List (Str × PyData)) (sts : List Stmt) (o : Out) : Prop :=
  ∀ (g₀ : Heap) (s₀ : Shared) (k : Heap) (g : Heap) (s : Shared) (Q : Flow → Shared → Prop) (E : Value → Shared → Prop), Frm c g₀ s₀ k env ν ρ g s → Post c g₀ s₀ k env ν Q o → wpAny (model c.prog c.w) A (execs sts env) Q E s
section
variable {c : Cx} {A : Around} {env : Env} {ν : List (Str × Value)} {ρ : List (Str × PyData)}
theorem x_nil : X c A env ν ρ [] (.next ρ) := fun g₀ s₀ k g s Q E F hQ => wpAny_execs_nil (hQ g s F)
theorem x_cons {st : Stmt} {sts : List Stmt} {ρ' : List (Str × PyData)} {o : Out} (h : X1 c A env ν ρ st (.next ρ')) (hs : X c A env ν ρ' sts o) : X c A env ν ρ (st :: sts) o := fun g₀ s₀ k g s Q E F hQ =>
  wpAny_execs_cons (h g₀ s₀ k g s _ _ F fun g' s' F' => hs g₀ s₀ k g' s' Q E F' hQ)
theorem x_ret {st : Stmt} {sts : List Stmt} {d : PyData} (h : X1 c A env ν ρ st (.ret d)) : X c A env ν ρ (st :: sts) (.ret d) := fun g₀ s₀ k g s Q E F hQ =>
  wpAny_execs_cons (h g₀ s₀ k g s _ _ F fun v g' s' G r => hQ v g' s' G r)
theorem x_return {e : Expr} {pos : Pos} {d : PyData} (h : Ev c A env ρ e d) : X1 c A env ν ρ (.Return (some e) pos) (.ret d) := fun g₀ s₀ k g s Q E F hQ =>
  wpAny_Return_some (h g s _ _ F.bg F.st fun v g' s' G r => hQ v g' s' (F.gr.trans G) r)
noncomputable def Names (env : Env) (x : Str) : Prop := env.kindOf x = some .local ∨ (env.kindOf x = some .cell ∧ ∃ a, env.cells.lookup x = some a)
theorem x_assign {x : Str} {p pos : Pos} {e : Expr} {d : PyData} (h : Ev c A env ρ e d) (hk : Names env x) (hν : ν.lookup x = none := by rfl) (hs : swapsWith e (some (.Name x p)) pos.line env = pure false := by rfl) : X1 c A env ν ρ (.Assign [.Name x p] e pos) (.next (setρ ρ x d)) := fun g₀ s₀ k g s Q E F hQ =>
  wpAny_Assign_Name (h.tk g s _ _ F.bg F.st fun v g' s' G r t => wp_store (F.step G t) r hk hν fun s'' F' => hQ g' s'' F') hs
theorem x_if {t : Expr} {body orelse : List Stmt} {pos : Pos} {b : Bool} {o : Out} (h : Tr c A env ρ t b) (h₁ : b = true → X c A env ν ρ body o) (h₂ : b = false → X c A env ν ρ orelse o) : X1 c A env ν ρ (.If t body orelse pos) o := fun g₀ s₀ k g s Q E F hQ =>
  wpAny_If (h.tk g s _ _ F.bg F.st fun g' s' G t => by
    cases b with
    | true => exact h₁ rfl g₀ s₀ k g' s' Q E (F.step G t) hQ
    | false => exact h₂ rfl g₀ s₀ k g' s' Q E (F.step G t) hQ)
theorem x_next {sts : List Stmt} {ρ₁ ρ₂ : List (Str × PyData)} (h : X c A env ν ρ sts (.next ρ₁)) (hw : ∀ x d, ρ₂.lookup x = some d → ρ₁.lookup x = some d) : X c A env ν ρ sts (.next ρ₂) := fun g₀ s₀ k g s Q E F hQ => h g₀ s₀ k g s Q E F fun g' s' F' => hQ g' s' (F'.weaken hw)
/-- the two sides of an in-place operation -/
theorem x_aug {x : Str} {p pos : Pos} {op : Operator} {e : Expr} {d₀ d₁ d : PyData} (hx : ρ.lookup x = some d₀) (h : Ev c A env ρ e d₁) (ho : Op2 c A (inplaceOp op) d₀ d₁ d) (hk : Names env x) (hν : ν.lookup x = none := by rfl) (hd : (x == ("__debug__" : Str)) = false := by decide) :
    X1 c A env ν ρ (.AugAssign (.Name x p) op e pos) (.next (setρ ρ x d)) := fun g₀ s₀ k g s Q E F hQ => by
  refine wpAny_AugAssign_Name ?_
  have fin : ∀ v, Vr env s.heap x v → Rd g v d₀ → wpAny (model c.prog c.w) A (eval e env) (fun u s₂ => wpAny (model c.prog c.w) A (inplaceOp op v u) (fun r s₃ => wpAny (model c.prog c.w) A (storeName env x r) (fun _ => Q .next) E s₃) E s₂) E s := fun v hv r =>
    h.tk g s _ _ F.bg F.st fun u g₁ s₁ G₁ r₁ t₁ => wpAny_with_toks t₁ (ho g₁ s₁ v u _ _ (stays_trans F.bg G₁.gg) G₁.gs (r.mono G₁.gg) r₁ fun z g₂ s₂ G₂ r₂ t₂ =>
      wp_store (F.step (G₁.trans G₂) t₂) r₂ hk hν fun s'' F' => hQ g₂ s'' F')
  obtain ⟨v, a, b⟩ := F.st.vars x d₀ hx
  rcases a with ⟨hk', m, hn, e'⟩ | ⟨hk', cc, e', hc⟩
  · exact wpAny_loadName_local F.fn hk' hn e' (fin v (.inl ⟨hk', m, hn, e'⟩) b)
  · rcases hk' with hk' | ⟨hk', hx'⟩
    · exact wpAny_loadName_cell F.fn hk' e' hc (fin v (.inr ⟨.inl hk', cc, e', hc⟩) b)
    · exact wpAny_loadName_free F.fn hk' e' hc (fin v (.inr ⟨.inr ⟨hk', hx'⟩, cc, e', hc⟩) b) hx'
end

/-! the call of a def, by its body -/
theorem bindL_at {k : Str → Option NameKind} {x : Str} {v : Value} (hk : k x = some .local) : ∀ (binds : List (Str × Value)) (m : Str → Option Value), (binds.map (·.1)).Nodup →
    (binds.lookup x = some v → bindL k binds m x = some v) ∧ (x ∉ binds.map (·.1) → bindL k binds m x = m x)
  | [], m, _ => ⟨fun e => by simp at e, fun _ => rfl⟩
  | (n, u) :: r, m, hn => by
    rw [List.map_cons, List.nodup_cons] at hn
    have ih := fun m' => bindL_at (v := v) hk r m' hn.2
    unfold bindL
    by_cases h : x = n
    · subst h
      refine ⟨fun e => ?_, fun e => absurd (by simp) e⟩
      simp only [List.lookup_cons, beq_self_eq_true] at e
      cases e
      rw [(ih _).2 hn.1, if_pos hk]
      simp
    · refine ⟨fun e => ?_, fun e => ?_⟩
      · rw [List.lookup_cons, beq_eq_false_iff_ne.mpr h] at e
        exact (ih _).1 e
      · have h' : x ∉ r.map (·.1) := fun q => e (by simp [q])
        rw [(ih _).2 h']
        split
        · exact if_neg h
        · rfl
theorem bindC_at {k : Str → Option NameKind} {x : Str} {v : Value} (hk : k x ≠ some .local) : ∀ (binds : List (Str × Value)) (m : Str → Option Value), (binds.map (·.1)).Nodup →
    (binds.lookup x = some v → bindC k binds m x = some v) ∧ (x ∉ binds.map (·.1) → bindC k binds m x = m x)
  | [], m, _ => ⟨fun e => by simp at e, fun _ => rfl⟩
  | (n, u) :: r, m, hn => by
    rw [List.map_cons, List.nodup_cons] at hn
    have ih := fun m' => bindC_at (v := v) hk r m' hn.2
    unfold bindC
    by_cases h : x = n
    · subst h
      refine ⟨fun e => ?_, fun e => absurd (by simp) e⟩
      simp only [List.lookup_cons, beq_self_eq_true] at e
      cases e
      rw [(ih _).2 hn.1, if_neg hk]
      simp
    · refine ⟨fun e => ?_, fun e => ?_⟩
      · rw [List.lookup_cons, beq_eq_false_iff_ne.mpr h] at e
        exact (ih _).1 e
      · have h' : x ∉ r.map (·.1) := fun q => e (by simp [q])
        rw [(ih _).2 h']
        split
        · rfl
        · exact if_neg h
theorem zip_lookup {g : Heap} : ∀ {ns : List Str} {vs : List Value} {ds : List PyData} {x : Str} {d : PyData}, RdA g vs ds → (ns.zip ds).lookup x = some d → ∃ v, (ns.zip vs).lookup x = some v ∧ Rd g v d
  | [], _, _, _, _, _, e => by simp at e
  | n :: ns, _, _, x, d, .nil, e => by simp at e
  | n :: ns, _, _, x, d, .cons a r, e => by
    simp only [List.zip_cons_cons, List.lookup_cons] at e ⊢
    cases h : x == n with
    | true => rw [h] at e; cases e; exact ⟨_, rfl, a⟩
    | false => rw [h] at e; exact zip_lookup r e
theorem zip_names {α β : Type} : ∀ (ns : List α) (vs : List β), vs.length = ns.length → (ns.zip vs).map (·.1) = ns
  | [], _, _ => by simp
  | n :: ns, [], h => by simp at h
  | n :: ns, v :: vs, h => by simp only [List.zip_cons_cons, List.map_cons, zip_names ns vs (by simpa using h)]

theorem call_cells_tk {prog : Program} {w : World} {A : Around} {s : Shared} {R : Result → Shared → Prop} {a : Addr} {o : Obj} {fd : FuncData} {body : List Stmt} {vals : List Value} {binds : List (Str × Value)}
    (hroom : A.depth < recursionLimit) (ho : s.heap.get? a = some o) (hdata : o.data = .func fd) (hlim : s.heap.NoLimit) (hcd : s.heap.CodeRec fd.code fd.qualname)
    (hbody : fd.body = .stmts body) (hbind : bindArgs fd ⟨vals, []⟩ = pure binds) (hclo : fd.closure = []) {n : Nat} (ht : n ≤ s.toks)
    (hkind : ∀ x ∈ binds, fd.scope.names.lookup x.1 = some .local ∨ (fd.scope.names.lookup x.1 = some .cell ∧ ((cellsFrom (s.heap.objs.size + 1) fd.scope.names []).lookup x.1).isSome = true))
    (h : ∀ s₁, n ≤ s₁.toks → InCallC s (callEnvC fd s.heap.objs.size a).locals (bindL (callEnvC fd s.heap.objs.size a).kindOf binds fun _ => none) (callEnvC fd s.heap.objs.size a).cells
        (bindC (callEnvC fd s.heap.objs.size a).kindOf binds fun _ => none) s₁ →
      wpAny (model prog w) (A.deeper (callEnvC fd s.heap.objs.size a)) (execs body (callEnvC fd s.heap.objs.size a)) (fun f s' => R (.ok (.ret (match f with | .ret v => v | _ => .none))) s')
        (fun e s' => wpAny (model prog w) (A.deeper (callEnvC fd s.heap.objs.size a)) (leaving (callEnvC fd s.heap.objs.size a) e) (fun _ s'' => R (.error e) s'') (fun e' s'' => R (.error e') s'') s') s₁)
    (hco : fd.scope.isCoroutine = false) (hgen : fd.scope.isGenerator = false) (hk : fd.scope.kind = .function) :
    codeAny (model prog w) A (.call (.ref a) ⟨vals, []⟩) R s := by
  refine codeAny_call_function hroom ho hdata hco hgen hbody hcd ?_
  rw [hbind, hclo]
  refine wpAny_pure (wpAny_with_toks ht (wpAny_newFunctionEnv_cells hk hkind fun env he s' x t => ?_))
  subst he
  exact ⟨hlim.keeps x.toInCall.keep, codeAny_func (h s' t x)⟩
theorem fn_of {c : Cx} {n : Nat} {x : Str} {fa : Addr} {fd : FuncData} {ns : List Str} {body : List Stmt} {ds : List PyData} {d : PyData} (D : Df c x fa fd) (hbody : fd.body = .stmts body) (hlen : ds.length = ns.length)
    (hbind : ∀ vs : List Value, vs.length = ns.length → bindArgs fd ⟨vs, []⟩ = pure (ns.zip vs)) (hnd : ns.Nodup)
    (hkind : ∀ x ∈ ns, fd.scope.names.lookup x = some .local ∨ (fd.scope.names.lookup x = some .cell ∧ ∀ k, ((cellsFrom k fd.scope.names []).lookup x).isSome = true))
    (hX : ∀ (A : Around) (L : Addr), Rm n A → X c A (callEnvC fd L fa) [] (ns.zip ds) body (.ret d))
    (hco : fd.scope.isCoroutine = false) (hgen : fd.scope.isGenerator = false) (hk : fd.scope.kind = .function) : Fn c (n + 1) fa ds d := by
  intro A g s vs Q E hr hg k tk r hQ
  obtain ⟨o, ho, hdat⟩ := D.there
  have st := stays_trans hg k
  have hvl : vs.length = ns.length := by rw [r.length, hlen]
  refine wpAny_call (call_cells_tk (binds := ns.zip vs) hr.room (st _ _ ho) hdat (D.lim.keeps st) (D.code.keeps st) hbody (hbind vs hvl) D.clo tk (fun p hp => ?_) (fun s₁ tk₁ I => ?_) hco hgen hk)
  · obtain ⟨y, v⟩ := p
    rcases hkind y (List.of_mem_zip hp).1 with h | ⟨h, h'⟩
    · exact .inl h
    · exact .inr ⟨h, h' _⟩
  · have names := zip_names ns vs hvl
    have F : Frm c g s ({} : Heap) (callEnvC fd s.heap.objs.size fa) [] (ns.zip ds) g s₁ := by
      refine ⟨hk, D.glob, D.bi, hg, stays_refl _, stays_trans k I.toInCall.keep, fun a o e => .inl e, ?_, (fun _ _ e => (nomatch e)), rfl, (fun _ _ _ => rfl), (fun y a e => ?_), (fun _ => .inr rfl), tk₁, _, _, I, (fun _ _ e => nomatch e), fun y e he => ?_⟩
      · cases q : g.get? (callEnvC fd s.heap.objs.size fa).locals with
        | none => rfl
        | some o => exact absurd (Heap.lt_size (k _ _ q)) (Nat.not_lt.mpr I.toInCall.fresh)
      · cases q : g.get? a with
        | none => rfl
        | some o => exact absurd (Heap.lt_size (k _ _ q)) (Nat.not_lt.mpr (Nat.le_trans I.toInCall.fresh (Nat.le_of_lt (I.above y a (PySem.mem_of_lookup e)))))
      · obtain ⟨v, hv, rv⟩ := zip_lookup r he
        refine ⟨v, rv, ?_⟩
        have hy : y ∈ ns := (List.of_mem_zip (PySem.mem_of_lookup he)).1
        rcases hkind y hy with h | ⟨h, h'⟩
        · exact .inl ⟨h, (bindL_at h _ _ (by rw [names]; exact hnd)).1 hv⟩
        · refine .inr ⟨h, Option.isSome_iff_exists.mp (h' _), (bindC_at ?_ _ _ (by rw [names]; exact hnd)).1 hv⟩
          rw [show (callEnvC fd s.heap.objs.size fa).kindOf y = some .cell from h]
          decide
    refine hX _ s.heap.objs.size hr.deeper g s ({} : Heap) g s₁ _ _ F fun v g' s' G rv => ?_
    exact hQ v g' s' G rv
end Mine
end
/-! ## B5 -/
section
open PySem PySem.W PySem.Calls PyProof.Rows
set_option maxRecDepth 100000
namespace Mine

/-- an iterator at I over the data ds, that g bears -/
structure Itr (c : Cx) (A : Around) (I : Addr) (ds : List PyData) (g : Heap) (Sx : Nat → Heap → Prop) : Prop where
  there : ∀ i h, Sx i h → ∃ o, h.get? I = some o
  frame : ∀ i h h', Sx i h → (∀ o, h.get? I = some o → h'.get? I = some o) → Sx i h'
  item : ∀ (i : Nat) (d : PyData) (s : Shared) (Q : Option Value → Shared → Prop) (E : Value → Shared → Prop), ds[i]? = some d → Sx i s.heap → g.StaysIn s.heap →
    (∀ v h' tk, Rd g v d → Sx (i + 1) h' → Heap.ExtBut I s.heap h' → Q (some v) { s with heap := h', toks := tk }) → wpAny (model c.prog c.w) A (pyNext (.ref I)) Q E s
  done : ∀ (i : Nat) (s : Shared) (Q : Option Value → Shared → Prop) (E : Value → Shared → Prop), ds.length ≤ i → Sx i s.heap → g.StaysIn s.heap →
    (∀ h' tk, Heap.ExtBut I s.heap h' → Q none { s with heap := h', toks := tk }) → wpAny (model c.prog c.w) A (pyNext (.ref I)) Q E s
  self : ∀ (i : Nat) (s : Shared) (Q : Value → Shared → Prop) (E : Value → Shared → Prop), Sx i s.heap → Q (.ref I) s → wpAny (model c.prog c.w) A (pyIter (.ref I)) Q E s
  letgo : ∀ (i : Nat) (s : Shared) (tgt : Expr) (v : Value) (Q : Unit → Shared → Prop) (E : Value → Shared → Prop), Sx i s.heap → Q () s → wpAny (model c.prog c.w) A (letOwnedTupleGo tgt (.ref I) v) Q E s

theorem letgo_cls {c : Cx} {A : Around} {I : Addr} {o : Obj} {T : String} {s : Shared} {tgt : Expr} {v : Value} {Q : Unit → Shared → Prop} {E : Value → Shared → Prop} (ho : s.heap.get? I = some o) (hc : o.cls = .type T)
    (hT : (["enumerate", "zip", "dict_itemiterator", "dict_reverseitemiterator", "odict_iterator", "itertools.zip_longest", "itertools.pairwise"] : List String).contains T = false) (h : Q () s) :
    wpAny (model c.prog c.w) A (letOwnedTupleGo tgt (.ref I) v) Q E s := by
  have key : ∀ a, wpAny (model c.prog c.w) A (do
      let o ← load I
      match o.cls, o.data with
      | .type n, .fields vs =>
        if (["enumerate", "zip", "dict_itemiterator", "dict_reverseitemiterator", "odict_iterator", "itertools.zip_longest", "itertools.pairwise"] : List String).contains n && vs[0]? == some (rawInt a) then
          rule "for.unpacks-the-owned-tuple"
          updateField I 0 .none
      | _, _ => pure ()) Q E s := by
    intro a
    refine wpAny_bind (wpAny_load ho ?_)
    rw [hc]
    cases o.data with
    | fields vs =>
      dsimp only
      rw [hT, Bool.false_and]
      exact wpAny_pure h
    | _ => exact wpAny_pure h
  unfold letOwnedTupleGo
  split
  · cases v with
    | ref a => exact key a
    | _ => exact wpAny_pure h
  · cases v with
    | ref a => exact key a
    | _ => exact wpAny_pure h
  · exact wpAny_pure h

theorem itr_list {c : Cx} {A : Around} {I ax : Addr} {g : Heap} {o : Obj} {vs : Array Value} {n : Nat} {ds : List PyData} (hh : A.handled = none) (e : g.get? ax = some o) (hc : o.cls = .type "list") (hd : o.data = .seq vs n) (r : RdA g vs.toList ds) (hne : ax ≠ I) :
    Itr c A I ds g (fun i h => h.IsListIter I ax i) where
  there := fun i h ⟨o, ho, _⟩ => ⟨o, ho⟩
  frame := fun i h h' st k => st.at k
  item := fun i d s Q E hi st k hQ => by
    obtain ⟨v, hv, rv⟩ := r.get hi
    rw [Array.getElem?_toList] at hv
    exact wpAny_pyNext_list_item st (isList_of k e hc hd) hv fun h' st' hs' => hQ v h' s.toks rv st' hs'.extBut
  done := fun i s Q E hi st k hQ => by
    have hz := r.length
    rw [Array.length_toList] at hz
    exact wpAny_pyNext_list_end hh st (isList_of k e hc hd) (by rw [Array.getElem?_eq_none_iff]; lia) fun h' he => hQ h' s.toks he
  self := fun i s Q E st hQ => wpAny_pyIter_listiter st hQ
  letgo := fun i s tgt v Q E st hQ => let ⟨o, ho, hc, _⟩ := st; letgo_cls ho hc (by decide) hQ
theorem itr_tuple {c : Cx} {A : Around} {I ax : Addr} {g : Heap} {o : Obj} {vs : Array Value} {n : Nat} {ds : List PyData} (hh : A.handled = none) (e : g.get? ax = some o) (hc : o.cls = .type "tuple") (hd : o.data = .seq vs n) (r : RdA g vs.toList ds) (hne : ax ≠ I) :
    Itr c A I ds g (fun i h => h.IsTupleIter I ax i) where
  there := fun i h ⟨o, ho, _⟩ => ⟨o, ho⟩
  frame := fun i h h' st k => st.at k
  item := fun i d s Q E hi st k hQ => by
    obtain ⟨v, hv, rv⟩ := r.get hi
    rw [Array.getElem?_toList] at hv
    exact wpAny_pyNext_tuple_item st (isTup_of k e hc hd) hv fun h' st' hs' => hQ v h' s.toks rv st' hs'.extBut
  done := fun i s Q E hi st k hQ => by
    have hz := r.length
    rw [Array.length_toList] at hz
    exact wpAny_pyNext_tuple_end hh st (isTup_of k e hc hd) (by rw [Array.getElem?_eq_none_iff]; lia) fun h' he => hQ h' s.toks he
  self := fun i s Q E st hQ => wpAny_pyIter_tupleiter st hQ
  letgo := fun i s tgt v Q E st hQ => let ⟨o, ho, hc, _⟩ := st; letgo_cls ho hc (by decide) hQ
/-- the ints of a range -/
noncomputable def rangeD (a b : Int) (n : Nat) : List PyData := (List.range n).map fun (i : Nat) => PyData.int (a + (i : Int) * b)
theorem itr_range {c : Cx} {A : Around} {I : Addr} {g : Heap} {a b : Int} {n : Nat} (hh : A.handled = none) :
    Itr c A I (rangeD a b n) g (fun i h => IsRangeIter h I (a + (i : Nat) * b) ((n : Int) - (i : Nat)) b) where
  there := fun i h st => ⟨_, st⟩
  frame := fun i h h' st k => k _ st
  item := fun i d s Q E hi st k hQ => by
    unfold rangeD at hi
    rw [List.getElem?_map] at hi
    have hlt : i < n := by
      rcases Nat.lt_or_ge i n with h | h
      · exact h
      · rw [List.getElem?_eq_none (by simpa using h)] at hi; cases hi
    rw [List.getElem?_range hlt] at hi
    cases hi
    refine wpAny_pyNext_range_item st (by lia) fun h' hit' hs' => hQ _ h' _ (.int _ _) ?_ hs'.extBut
    have e1 : a + ((i + 1 : Nat) : Int) * b = a + (i : Int) * b + b := by push_cast; rw [Int.add_mul, Int.one_mul, Int.add_assoc]
    have e2 : (n : Int) - ((i + 1 : Nat) : Int) = (n : Int) - (i : Int) - 1 := by push_cast; lia
    rw [e1, e2]; exact hit'
  done := fun i s Q E hi st k hQ => by
    unfold rangeD at hi
    rw [List.length_map, List.length_range] at hi
    exact wpAny_pyNext_range_end hh st (by lia) fun h' he' => hQ h' s.toks he'
  self := fun i s Q E st hQ => wpAny_pyIter_rangeiter st hQ
  letgo := fun i s tgt v Q E st hQ => letgo_cls st rfl (by decide) hQ

/-- an expression that may be walked, and what it yields -/
noncomputable def It (c : Cx) (A : Around) (env : Env) (ρ : List (Str × PyData)) (e : Expr) (ds : List PyData) : Prop :=
  ∀ (g : Heap) (s : Shared) (Q E : Value → Shared → Prop), c.g0.StaysIn g → St env ρ g s →
    (∀ I Sx g' s', Gr g s g' s' → Itr c A I ds g' Sx → Sx 0 s'.heap → g'.get? I = none → s.heap.get? I = none → Q (.ref I) s') →
    wpAny (model c.prog c.w) A (eval e env) (fun x s₁ => wpAny (model c.prog c.w) A (pyIter x) Q E s₁) E s
section
variable {c : Cx} {A : Around} {env : Env} {ρ : List (Str × PyData)}
theorem gr_push {g : Heap} {s : Shared} (k : g.StaysIn s.heap) (o : Obj) : Gr g s g { s with heap := s.heap.push o } := ⟨stays_refl _, stays_trans k (push_stays _ _), push_stays _ _, fun _ _ e => .inl e, _, _, rfl⟩
theorem gr_pusht {g : Heap} {s : Shared} (k : g.StaysIn s.heap) (o : Obj) (tk : Nat) : Gr g s g { s with heap := s.heap.push o, toks := tk } := ⟨stays_refl _, stays_trans k (push_stays _ _), push_stays _ _, fun _ _ e => .inl e, _, _, rfl⟩
theorem none_of_stays {h h' : Heap} {a : Addr} (k : h.StaysIn h') (e : h'.get? a = none) : h.get? a = none := by
  cases q : h.get? a with
  | none => rfl
  | some o => rw [k _ _ q] at e; cases e
theorem it_list {e : Expr} {ds : List PyData} (hh : A.handled = none) (h : Ev c A env ρ e (.list ds)) : It c A env ρ e ds := by
  intro g s Q E hg S hQ
  refine h g s _ _ hg S fun v g₁ s₁ G₁ r₁ => ?_
  have zq := r₁; clear r₁; refine rdL zq fun a o vs n ev e hc hd hp r => ?_
  subst ev
  refine wpAny_pyIter_list (isList_of G₁.gs e hc hd) ?_
  have hn := none_of_stays G₁.gs (none_at_size s₁.heap)
  exact hQ _ _ g₁ _ (G₁.trans (gr_push G₁.gs _)) (itr_list hh e hc hd r (fun z => by subst z; rw [e] at hn; cases hn)) ⟨_, Heap.get?_push_size _ rfl, rfl, rfl⟩ hn (none_of_stays G₁.ss (none_at_size s₁.heap))
theorem it_tuple {e : Expr} {ds : List PyData} (hh : A.handled = none) (h : Ev c A env ρ e (.tuple ds)) : It c A env ρ e ds := by
  intro g s Q E hg S hQ
  refine h g s _ _ hg S fun v g₁ s₁ G₁ r₁ => ?_
  have zq := r₁; clear r₁; refine rdT zq fun a o vs n ev e hc hd r => ?_
  subst ev
  refine wpAny_pyIter_tuple (isTup_of G₁.gs e hc hd) ?_
  have hn := none_of_stays G₁.gs (none_at_size s₁.heap)
  exact hQ _ _ g₁ _ (G₁.trans (gr_push G₁.gs _)) (itr_tuple hh e hc hd r (fun z => by subst z; rw [e] at hn; cases hn)) ⟨_, Heap.get?_push_size _ rfl, rfl, rfl⟩ hn (none_of_stays G₁.ss (none_at_size s₁.heap))
theorem It.tk {e : Expr} {ds : List PyData} (h : It c A env ρ e ds) (g : Heap) (s : Shared) (Q E : Value → Shared → Prop) (hg : c.g0.StaysIn g) (S : St env ρ g s)
    (hQ : ∀ I Sx g' s', Gr g s g' s' → Itr c A I ds g' Sx → Sx 0 s'.heap → g'.get? I = none → s.heap.get? I = none → 1 ≤ s'.toks → Q (.ref I) s') :
    wpAny (model c.prog c.w) A (eval e env) (fun x s₁ => wpAny (model c.prog c.w) A (pyIter x) Q E s₁) E s := by
  refine wpAny_mono (wpAny_toks_of S.tk (h g s (fun v s' => 1 ≤ s'.toks → Q v s') E hg S fun I Sx g' s' G W h0 h1 h2 t => hQ I Sx g' s' G W h0 h1 h2 t)) (fun x s₁ h₁ => ?_) (fun _ _ e => e.2)
  exact wpAny_with_toks h₁.1 (wpAny_mono h₁.2 (fun _ _ a => a) fun _ _ e _ => e)
theorem itr_of_range {g : Heap} {s : Shared} {r : Addr} {a b k : Int} {t u v : Tok} {Q E : Value → Shared → Prop} (hh : A.handled = none) (st : g.StaysIn s.heap) (hr : IsRange s.heap r a b k t u v) (hsm : Builtin.Range.small a b k = true)
    (hQ : ∀ I Sx g' s', Gr g s g' s' → Itr c A I (rangeD a k (Builtin.Range.rangeSize a b k).toNat) g' Sx → Sx 0 s'.heap → g'.get? I = none → s.heap.get? I = none → Q (.ref I) s') : wpAny (model c.prog c.w) A (pyIter (.ref r)) Q E s := by
  refine wpAny_pyIter_range hr hsm ?_
  have hn := none_of_stays st (none_at_size s.heap)
  refine hQ _ _ g _ (gr_push st _) (itr_range hh) ?_ hn (none_at_size _)
  have e1 : a + ((0 : Nat) : Int) * k = a := by simp
  have e2 : ((Builtin.Range.rangeSize a b k).toNat : Int) - ((0 : Nat) : Int) = Builtin.Range.rangeSize a b k := by rw [← rangeSize_toNat]; simp
  show IsRangeIter _ _ (a + ((0 : Nat) : Int) * k) (((Builtin.Range.rangeSize a b k).toNat : Int) - ((0 : Nat) : Int)) k
  rw [e1, e2]
  exact Heap.get?_push_size _ rfl
theorem it_range1 {e : Expr} {p pos : Pos} {N : Int} (hh : A.handled = none) (hx : GN c (Str.ofString "range") (.type "range")) (hk : env.kindOf (Str.ofString "range") = some .globalImplicit) (h : Ev c A env ρ e (.int N)) (hlo : -(2 ^ 62) ≤ N) (hhi : N < 2 ^ 62)
    (he : backTo pos (starEach [e] env) = [(false, eval e env)] := by rfl) : It c A env ρ (.Call (.Name (Str.ofString "range") p) [e] [] pos) (rangeD 0 1 N.toNat) := by
  intro g s Q E hg S hQ
  refine wpAny_Call_NameR (name_GN hx hk hg S ?_)
  rw [he]
  refine PyProof.Rows.callWith_type rfl (evalArgs_plain (spliced_cons (h g s _ _ hg S fun v g₁ s₁ G₁ r₁ => spliced_nil ?_)))
  first | (obtain ⟨_, rfl⟩ := rdI r₁) | (obtain ⟨_, rfl⟩ := rdS r₁) | (obtain rfl := rdN r₁) | cases r₁
  refine call_range_1 ?_
  have hsz : (Builtin.Range.rangeSize 0 N 1).toNat = N.toNat := by rw [rangeSize_one]; split <;> lia
  refine itr_of_range (c := c) (g := g₁) hh (stays_trans G₁.gs (push_stays _ _)) (IsRange.new ..) (small_one (by decide) (by decide) hlo hhi) fun I Sx g' s' G hI h0 hn hn' => ?_
  rw [hsz] at hI
  exact hQ I Sx g' s' (G₁.trans ((gr_pusht G₁.gs _ _).trans G)) hI h0 hn (none_of_stays (stays_trans G₁.ss (push_stays _ _)) hn')
theorem it_range3 {e₁ e₂ e₃ : Expr} {p pos : Pos} {a b k : Int} {n : Nat} (hh : A.handled = none) (hx : GN c (Str.ofString "range") (.type "range")) (hk : env.kindOf (Str.ofString "range") = some .globalImplicit) (h₁ : Ev c A env ρ e₁ (.int a)) (h₂ : Ev c A env ρ e₂ (.int b)) (h₃ : Ev c A env ρ e₃ (.int k))
    (hsm : Builtin.Range.small a b k = true) (hk0 : k ≠ 0) (hp : Builtin.divisionGoesByPylong (b - a) k = false) (hn : (Builtin.Range.rangeSize a b k).toNat = n)
    (he : backTo pos (starEach [e₁, e₂, e₃] env) = [(false, eval e₁ env), (false, eval e₂ env), (false, eval e₃ env)] := by rfl) : It c A env ρ (.Call (.Name (Str.ofString "range") p) [e₁, e₂, e₃] [] pos) (rangeD a k n) := by
  intro g s Q E hg S hQ
  refine wpAny_Call_NameR (name_GN hx hk hg S ?_)
  rw [he]
  refine PyProof.Rows.callWith_type rfl (evalArgs_plain (spliced_cons (h₁.tk g s _ _ hg S fun v g₁ s₁ G₁ r₁ t₁ => spliced_cons (h₂.tk g₁ s₁ _ _ (stays_trans hg G₁.gg) (S.grow G₁ t₁) fun v₂ g₂ s₂ G₂ r₂ t₂ => spliced_cons (h₃ g₂ s₂ _ _ (stays_trans hg (stays_trans G₁.gg G₂.gg)) ((S.grow G₁ t₁).grow G₂ t₂) fun v₃ g₃ s₃ G₃ r₃ => spliced_nil ?_)))))
  obtain ⟨_, rfl⟩ := rdI r₁
  obtain ⟨_, rfl⟩ := rdI r₂
  obtain ⟨_, rfl⟩ := rdI r₃
  refine call_range_3 hk0 ?_ (.inl hp)
  refine itr_of_range (c := c) (g := g₃) hh (stays_trans G₃.gs (push_stays _ _)) (IsRange.new ..) hsm fun I Sx g' s' G hI h0 hn' hn'' => ?_
  rw [hn] at hI
  have G4 := (G₁.trans G₂).trans G₃
  exact hQ I Sx g' s' (G4.trans ((gr_pusht G₃.gs _ _).trans G)) hI h0 hn' (none_of_stays (stays_trans G4.ss (push_stays _ _)) hn'')
end
end Mine
end
/-! ## B6 -/
section
open PySem PySem.W PySem.Calls PyProof.Rows
set_option maxRecDepth 100000
namespace Mine

section
variable {prog : Program} {w : World} {A : Around} {E : Value → Shared → Prop} {R : Result → Shared → Prop} {s : Shared}
theorem compLoop_own {elt target iter : Expr} {ifs : List Expr} {scope : Scope} {pos : Pos} {it acc : Value} {env : Env} (I : Nat → Shared → Prop)
    (turn : ∀ n s, I n s → wpAny (model prog w) A (pyNext it) (fun r s₁ => match r with
      | none => R (.ok .next) s₁
      | some v => wpAny (model prog w) A (letOwnedTupleGo target it v) (fun _ s₁' => wpAny (model prog w) A (assign target env v) (fun _ s₂ =>
          wpAny (model prog w) A (forIn ifs true fun c r => if r = true then do let ok ← isTrue c env (eval c env); pure (ForInStep.yield ok) else pure (ForInStep.yield r)) (fun ok s₃ =>
            if ok = true then wpAny (model prog w) A (eval elt env) (fun x s₄ =>
              wpAny (model prog w) A (call (.builtin "list.append") [acc, x]) (fun _ s₅ => ∃ m, m < n ∧ I m s₅) (notedBy (model prog w) A env fun e s' => R (.error e) s') s₄) (notedBy (model prog w) A env fun e s' => R (.error e) s') s₃
            else ∃ m, m < n ∧ I m s₃) (notedBy (model prog w) A env fun e s' => R (.error e) s') s₂) (notedBy (model prog w) A env fun e s' => R (.error e) s') s₁') (notedBy (model prog w) A env fun e s' => R (.error e) s') s₁) (notedBy (model prog w) A env fun e s' => R (.error e) s') s)
    (n : Nat) (h : I n s) :
    codeAny (model prog w) A (.compLoop (.ListComp elt [⟨target, iter, ifs, 0⟩] scope pos) 0 it acc env) R s := by
  refine codeAny_loop rfl I (fun n s hI => ?_) n h
  show wpAny _ A ((compTurn (.ListComp elt [⟨target, iter, ifs, 0⟩] scope pos) 0 it acc env).onRaise (fun x => do noteFrame x env; theTreesLotGoes x)) _ _ s
  refine wpAny_noted ?_
  rw [compTurn_list]
  refine wpAny_bind (wpAny_standAt (wpAny_bind (wpAny_mono (turn n s hI) (fun r s₁ h₁ => ?_) fun _ _ h' => h')))
  cases r with
  | none => exact wpAny_pure h₁
  | some v =>
    refine wpAny_bind (wpAny_mono h₁ (fun _ s₁' h₁' => ?_) fun _ _ h' => h')
    refine wpAny_bind (wpAny_mono h₁' (fun _ s₂ h₂ => wpAny_bind (wpAny_mono h₂ (fun ok s₃ h₃ => ?_) fun _ _ h' => h')) fun _ _ h' => h')
    cases ok with
    | false => exact wpAny_pure ⟨rfl, h₃⟩
    | true =>
      exact wpAny_bind (wpAny_bind (wpAny_mono h₃ (fun x s₄ h₄ => wpAny_bind (wpAny_mono h₄ (fun _ s₅ h₅ => wpAny_pure (wpAny_pure ⟨rfl, h₅⟩)) fun _ _ h' => h')) fun _ _ h' => h'))
end

/-- a target bound in a comprehension's own names -/
noncomputable def BdC (c : Cx) (A : Around) (env : Env) (tgt : Expr) (d : PyData) (ρx : List (Str × PyData)) : Prop :=
  ∀ (g : Heap) (s : Shared) (m : Str → Option Value) (v : Value) (Q : Unit → Shared → Prop) (E : Value → Shared → Prop), s.heap.Ns env.locals m → g.get? env.locals = none → g.StaysIn s.heap → Rd g v d →
    (∀ h' tk m', h'.Ns env.locals m' → Heap.ExtBut env.locals s.heap h' → (∀ x e, ρx.lookup x = some e → env.kindOf x = some .local ∧ ∃ u, m' x = some u ∧ Rd g u e) → Q () { s with heap := h', toks := tk }) →
    wpAny (model c.prog c.w) A (assign tgt env v) Q E s
theorem bdc_name {c : Cx} {A : Around} {env : Env} {x : Str} {p : Pos} {d : PyData} (hx : env.kindOf x = some .local) (hp : (env.scope.kind == .class || (env.scope.kind == .module && env.locals != env.globals)) = false := by rfl) : BdC c A env (.Name x p) d [(x, d)] := by
  intro g s m v Q E hn hg k r hQ
  refine wpAny_assign_Name (wpAny_storeName_local hx hn (fun h' hn' hs' => hQ h' _ _ hn' hs'.extBut fun y e he => ?_) hp)
  rw [List.lookup_cons] at he
  by_cases hy : y = x
  · subst hy
    simp at he
    subst he
    exact ⟨hx, v, by simp, r⟩
  · rw [beq_eq_false_iff_ne.mpr hy] at he; cases he
theorem bdc_pair {c : Cx} {A : Around} {env : Env} {x y : Str} {p q pos : Pos} {k} {d e : PyData} (hh : A.handled = none) (hxy : x ≠ y) (hx : env.kindOf x = some .local) (hy : env.kindOf y = some .local)
    (hp : (env.scope.kind == .class || (env.scope.kind == .module && env.locals != env.globals)) = false := by rfl) : BdC c A env (.Tuple [.Name x p, .Name y q] k pos) (.tuple [d, e]) [(x, d), (y, e)] := by
  intro g s m v Q E hn hg st r hQ
  have zq := r; clear r; refine rdT zq fun a o vs n ev ho hc hd r => ?_
  subst ev
  have hL : env.locals < s.heap.objs.size := hn.lt
  have hz : vs.size = 2 := by have := r.length; rw [Array.length_toList] at this; simpa using this
  obtain ⟨l⟩ := vs
  have zq := rdC r; clear r; obtain ⟨v₁, vs', rfl, r₁, r'⟩ := zq
  have zq := rdC r'; clear r'; obtain ⟨v₂, vs'', rfl, r₂, r''⟩ := zq
  first | (obtain ⟨_, rfl⟩ := rdI r'') | (obtain ⟨_, rfl⟩ := rdS r'') | (obtain rfl := rdN r'') | cases r''
  refine assign_Tuple_tuple hh (isTup_of st ho hc hd) rfl rfl fun h₁ he₁ => ?_
  have hn₁ : h₁.Ns env.locals m := hn.extBut he₁ (Nat.ne_of_lt hL)
  show wpAny _ A (assignInOrder [assign (.Name x p) env, assign (.Name y q) env] [v₁, v₂]) _ _ _
  unfold assignInOrder
  refine wpAny_bind (wpAny_holding (wpAny_assign_Name (wpAny_storeName_local hx hn₁ (fun h₂ hn₂ hs₂ => ?_) hp)))
  unfold assignInOrder
  refine wpAny_bind (wpAny_holding (wpAny_assign_Name (wpAny_storeName_local hy hn₂ (fun h₃ hn₃ hs₃ => ?_) hp)))
  unfold assignInOrder
  refine wpAny_pure (hQ h₃ _ _ hn₃ (fun b o hb e => hs₃.extBut b o hb (hs₂.extBut b o hb (he₁ b o (Nat.ne_of_lt (Heap.lt_size e)) e))) fun z e' he => ?_)
  rw [List.lookup_cons] at he
  by_cases hz : z = x
  · subst hz
    simp at he
    subst he
    exact ⟨hx, v₁, by simp [hxy], r₁⟩
  · rw [beq_eq_false_iff_ne.mpr hz, List.lookup_cons] at he
    by_cases hz' : z = y
    · subst hz'
      simp at he
      subst he
      exact ⟨hy, v₂, by simp, r₂⟩
    · rw [beq_eq_false_iff_ne.mpr hz'] at he; cases he

/-- the tests of a clause -/
noncomputable def Ifs (c : Cx) (A : Around) (env : Env) (ρ : List (Str × PyData)) (ifs : List Expr) (b : Bool) : Prop :=
  ∀ (g : Heap) (s : Shared) (Q : Bool → Shared → Prop) (E : Value → Shared → Prop), c.g0.StaysIn g → St env ρ g s → (∀ g' s', Gr g s g' s' → Q b s') →
    wpAny (model c.prog c.w) A (forIn ifs true fun c r => if r = true then do let ok ← isTrue c env (eval c env); pure (ForInStep.yield ok) else pure (ForInStep.yield r)) Q E s
theorem ifs_nil {c : Cx} {A : Around} {env : Env} {ρ : List (Str × PyData)} : Ifs c A env ρ [] true := fun g s Q E hg S hQ => wpAny_tests_nil (hQ g s (Gr.refl S.gs))
theorem ifs_one {c : Cx} {A : Around} {env : Env} {ρ : List (Str × PyData)} {t : Expr} {b : Bool} (h : Tr c A env ρ t b) : Ifs c A env ρ [t] b := fun g s Q E hg S hQ => wpAny_tests_one (h g s _ _ hg S hQ)

/-- what a comprehension makes of its items -/
inductive Cp (c : Cx) (A : Around) (envC : Addr → Env) (tgt : Expr) (ifs : List Expr) (elt : Expr) (ρc : List (Str × PyData)) : List PyData → List PyData → Prop
  | nil : Cp c A envC tgt ifs elt ρc [] []
  | keep {d r : PyData} {ds rs : List PyData} (ρx : List (Str × PyData)) : (∀ C, BdC c A (envC C) tgt d ρx) → (∀ C, Ifs c A (envC C) (ρx ++ ρc) ifs true) → (∀ C, Ev c A (envC C) (ρx ++ ρc) elt r) →
      Cp c A envC tgt ifs elt ρc ds rs → Cp c A envC tgt ifs elt ρc (d :: ds) (r :: rs)
  | drop {d : PyData} {ds rs : List PyData} (ρx : List (Str × PyData)) : (∀ C, BdC c A (envC C) tgt d ρx) → (∀ C, Ifs c A (envC C) (ρx ++ ρc) ifs false) →
      Cp c A envC tgt ifs elt ρc ds rs → Cp c A envC tgt ifs elt ρc (d :: ds) rs

/-- names that a comprehension takes from around -/
noncomputable def Cap (env : Env) (scope : Scope) (cl : List (Str × Addr)) (x : Str) : Prop :=
  (relabel scope env).names.lookup x = some .cell ∧ env.kindOf x = some .cell ∧ cl.lookup x = env.cells.lookup x

structure CSt (c : Cx) (sB : Heap) (s : Shared) (g : Heap) (I C D : Addr) (Sx : Nat → Heap → Prop) (i : Nat) (rs : List PyData) (g' : Heap) (s' : Shared) : Prop where
  rest : ∃ h' tk, s' = { s with heap := h', toks := tk }
  gg : g.StaysIn g'
  gs : g'.StaysIn s'.heap
  fr : ∀ a o, g'.get? a = some o → g.get? a = some o ∨ sB.get? a = none
  ss : sB.StaysIn s'.heap
  gI : g'.get? I = none
  gC : g'.get? C = none
  gD : g'.get? D = none
  tk : 1 ≤ s'.toks
  it : Sx i s'.heap
  ns : ∃ m, s'.heap.Ns C m
  acc : ∃ ys, s'.heap.PlainList D ys ∧ RdA g' ys.toList rs
theorem CSt.bump {c : Cx} {sB : Heap} {s : Shared} {g : Heap} {I C D : Addr} {Sx : Nat → Heap → Prop} {i : Nat} {rs : List PyData} {g' g'' : Heap} {s' s'' : Shared} (fr : ∀ i h h', Sx i h → (∀ o, h.get? I = some o → h'.get? I = some o) → Sx i h') (H : CSt c sB s g I C D Sx i rs g' s')
    (hI : ∃ o, s'.heap.get? I = some o) (G : Gr g' s' g'' s'') (t : 1 ≤ s''.toks) : CSt c sB s g I C D Sx i rs g'' s'' := by
  have old : ∀ a, g'.get? a = none → (∃ o, s'.heap.get? a = some o) → g''.get? a = none := fun a e ⟨o, ho⟩ => by
    cases q : g''.get? a with
    | none => rfl
    | some o' =>
      rcases G.fr a o' q with z | z
      · rw [e] at z; cases z
      · rw [ho] at z; cases z
  obtain ⟨m, hm⟩ := H.ns
  obtain ⟨ys, hy, hr⟩ := H.acc
  refine ⟨?_, stays_trans H.gg G.gg, G.gs, fun a o e => ?_, stays_trans H.ss G.ss, old I H.gI hI, old C H.gC ?_, old D H.gD ?_, t, fr _ _ _ H.it fun o e => G.ss _ _ e, ⟨m, hm.keeps G.ss⟩, ⟨ys, hy.at fun o e => G.ss _ _ e, hr.mono G.gg⟩⟩
  · obtain ⟨h₁, t₁, rfl⟩ := H.rest
    obtain ⟨h₂, t₂, rfl⟩ := G.rest
    exact ⟨_, _, rfl⟩
  · rcases G.fr a o e with z | z
    · exact H.fr a o z
    · exact .inr (none_of_stays H.ss z)
  · obtain ⟨o, _, _, ho, _⟩ := hm; exact ⟨_, ho⟩
  · obtain ⟨n, ho⟩ := hy; exact ⟨_, ho⟩
theorem st_comp {env : Env} {scope : Scope} {cl : List (Str × Addr)} {C : Addr} {ρ ρc ρx : List (Str × PyData)} {g g' : Heap} {sB s' : Shared} {m : Str → Option Value} (hkind : scope.kind = .function) (S : St env ρ g sB) (k : sB.heap.StaysIn s'.heap) (gg : g.StaysIn g') (gs : g'.StaysIn s'.heap)
    (hc : ∀ x d, ρc.lookup x = some d → ρ.lookup x = some d ∧ Cap env scope cl x) (hn : s'.heap.Ns C m) (t : 1 ≤ s'.toks) (hx : ∀ x e, ρx.lookup x = some e → (compEnvC scope cl C env).kindOf x = some .local ∧ ∃ u, m x = some u ∧ Rd g' u e) : St (compEnvC scope cl C env) (ρx ++ ρc) g' s' := by
  refine ⟨hkind, S.gl, S.bl, gs, t, fun x d e => ?_⟩
  rw [List.lookup_append] at e
  cases q : ρx.lookup x with
  | some d' =>
    rw [q] at e
    simp at e
    subst e
    obtain ⟨h1, u, h2, h3⟩ := hx x _ q
    exact ⟨u, .inl ⟨h1, m, hn, h2⟩, h3⟩
  | none =>
    rw [q] at e
    simp at e
    obtain ⟨h1, h2, h3, h4⟩ := hc x d e
    obtain ⟨v, a, b⟩ := S.vars x d h1
    refine ⟨v, .inr ⟨.inl h2, ?_⟩, b.mono gg⟩
    rcases a with ⟨a, _⟩ | ⟨_, cc, e', hcell⟩
    · rw [h3] at a; cases a
    · refine ⟨cc, h4.trans e', ?_⟩
      obtain ⟨o, ho, r⟩ := hcell
      exact ⟨o, k _ _ ho, r⟩
theorem CSt.at {c : Cx} {sB : Heap} {s : Shared} {g : Heap} {I C D b : Addr} {Sx : Nat → Heap → Prop} {i j : Nat} {rs rs' : List PyData} {g' h₁ : Heap} {s' : Shared} {tk : Nat} (H : CSt c sB s g I C D Sx i rs g' s') (he : Heap.ExtBut b s'.heap h₁)
    (gb : g'.get? b = none) (sb : sB.get? b = none) (it : Sx j h₁) (ns : ∃ m, h₁.Ns C m) (acc : ∃ ys, h₁.PlainList D ys ∧ RdA g' ys.toList rs') (ht : 1 ≤ tk) : CSt c sB s g I C D Sx j rs' g' { s' with heap := h₁, toks := tk } := by
  refine ⟨?_, H.gg, fun a o e => he a o (fun z => by subst z; rw [gb] at e; cases e) (H.gs a o e), H.fr, fun a o e => he a o (fun z => by subst z; rw [sb] at e; cases e) (H.ss a o e), H.gI, H.gC, H.gD, ht, it, ns, acc⟩
  obtain ⟨h', t', rfl⟩ := H.rest
  exact ⟨_, _, rfl⟩
theorem comp_loop {c : Cx} {A : Around} {env : Env} {ρ ρc : List (Str × PyData)} {scope : Scope} {cl : List (Str × Addr)} {tgt iter elt : Expr} {ifs : List Expr} {pos : Pos} {ds rs : List PyData} {I C D : Addr} {g gI gS : Heap} {Sx : Nat → Heap → Prop} {sB s : Shared} {R : Result → Shared → Prop}
    (hg : c.g0.StaysIn g) (S : St env ρ gS sB) (hgS : gS.StaysIn g) (hkind : scope.kind = .function) (hcap : ∀ x d, ρc.lookup x = some d → ρ.lookup x = some d ∧ Cap env scope cl x) (W : Itr c A I ds gI Sx) (hIg : gI.StaysIn g) (hIB : sB.heap.get? I = none) (hCB : sB.heap.get? C = none) (hDB : sB.heap.get? D = none)
    (hIC : I ≠ C) (hID : I ≠ D) (hCD : C ≠ D) (hsz : ds.length ≤ sizeLine) (hcp : Cp c A (fun C => compEnvC scope cl C env) tgt ifs elt ρc ds rs) (h0 : CSt c sB.heap s g I C D Sx 0 [] g s)
    (hR : ∀ g' h' tk, g.StaysIn g' → g'.StaysIn h' → (∀ a o, g'.get? a = some o → g.get? a = some o ∨ sB.heap.get? a = none) → sB.heap.StaysIn h' → g'.get? C = none → g'.get? D = none → (∃ m, h'.Ns C m) → (∃ ys, h'.PlainList D ys ∧ RdA g' ys.toList rs) → 1 ≤ tk → R (.ok .next) { s with heap := h', toks := tk }) :
    codeAny (model c.prog c.w) A (.compLoop (.ListComp elt [⟨tgt, iter, ifs, 0⟩] scope pos) 0 (.ref I) (.ref D) (compEnvC scope cl C env)) R s := by
  refine compLoop_own (fun n s' => ∃ i rs₁ rs₂ g', i + n = ds.length + 1 ∧ rs₁.length ≤ i ∧ i ≤ ds.length ∧ Cp c A (fun C => compEnvC scope cl C env) tgt ifs elt ρc (ds.drop i) rs₂ ∧ rs₁ ++ rs₂ = rs ∧ CSt c sB.heap s g I C D Sx i rs₁ g' s') ?_ (ds.length + 1)
    ⟨0, [], rs, g, by lia, by simp, by lia, hcp, rfl, h0⟩
  rintro n s' ⟨i, rs₁, rs₂, g', hn, hlen, hi, hc, hrs, H⟩
  generalize hdr : ds.drop i = dr at hc
  have hIs := W.there i _ H.it
  have gIs : gI.StaysIn s'.heap := stays_trans hIg (stays_trans H.gg H.gs)
  cases hc with
  | nil =>
    have hle : ds.length ≤ i := by
      have := congrArg List.length hdr
      simp at this; lia
    refine wpAny_with_toks H.tk (W.done i s' _ _ hle H.it gIs fun h' tk he htk => ?_)
    obtain ⟨h₁, t₁, rfl⟩ := H.rest
    obtain ⟨m, hm⟩ := H.ns
    obtain ⟨ys, hy, hr⟩ := H.acc
    rw [List.append_nil] at hrs
    subst hrs
    exact hR g' h' tk H.gg (fun a o e => he a o (fun z => by subst z; rw [H.gI] at e; cases e) (H.gs a o e)) H.fr (fun a o e => he a o (fun z => by subst z; rw [hIB] at e; cases e) (H.ss a o e)) H.gC H.gD
      ⟨m, hm.extBut he (Ne.symm hIC)⟩ ⟨ys, hy.extBut he (Ne.symm hID), hr⟩ htk
  | @keep d r ds' rs' ρx hb hif hel hrest =>
    have hlt : i < ds.length := by
      have := congrArg List.length hdr
      simp at this; lia
    have hd : ds[i]? = some d := by rw [← List.head?_drop, hdr]; rfl
    have hd' : ds.drop (i + 1) = ds' := by rw [← List.tail_drop, hdr]; rfl
    refine wpAny_with_toks H.tk (W.item i d s' _ _ hd H.it gIs fun v h₁ tk rv hSx he₁ ht₁ => ?_)
    obtain ⟨m, hm⟩ := H.ns
    obtain ⟨ys, hy, hr⟩ := H.acc
    have H₁ : CSt c sB.heap s g I C D Sx (i + 1) rs₁ g' { s' with heap := h₁, toks := tk } := H.at he₁ H.gI hIB hSx ⟨m, hm.extBut he₁ (Ne.symm hIC)⟩ ⟨ys, hy.extBut he₁ (Ne.symm hID), hr⟩ ht₁
    refine W.letgo _ _ _ _ _ _ hSx ?_
    obtain ⟨m₁, hm₁⟩ := H₁.ns
    refine wpAny_with_toks H₁.tk (hb C g' _ m₁ v _ _ hm₁ H.gC H₁.gs (rv.mono (stays_trans hIg H.gg)) fun h₂ tk₂ m₂ hn₂ he₂ hρ ht₂ => ?_)
    have H₂ : CSt c sB.heap s g I C D Sx (i + 1) rs₁ g' { s' with heap := h₂, toks := tk₂ } := H₁.at (s' := { s' with heap := h₁, toks := tk }) he₂ H.gC hCB (W.frame _ _ _ hSx fun o e => he₂ I o hIC e) ⟨m₂, hn₂⟩ ⟨ys, (hy.extBut he₁ (Ne.symm hID)).extBut he₂ (Ne.symm hCD), hr⟩ ht₂
    have S₂ : St (compEnvC scope cl C env) (ρx ++ ρc) g' { s' with heap := h₂, toks := tk₂ } := st_comp hkind S H₂.ss (stays_trans hgS H.gg) H₂.gs hcap hn₂ ht₂ hρ
    refine wpAny_with_toks H₂.tk (hif C g' _ _ _ (stays_trans hg H.gg) S₂ fun g₃ s₃ G₃ ht₃ => ?_)
    rw [if_pos rfl]
    refine (hel C).tk g₃ s₃ _ _ (stays_trans hg (stays_trans H.gg G₃.gg)) (S₂.grow G₃ ht₃) fun y g₄ s₄ G₄ r₄ ht₄ => ?_
    have H₄ := (H₂.bump W.frame (W.there _ _ H₂.it) G₃ ht₃).bump W.frame (let ⟨o, ho⟩ := W.there _ _ H₂.it; ⟨o, G₃.ss _ _ ho⟩) G₄ ht₄
    obtain ⟨ys₄, hy₄, hr₄⟩ := H₄.acc
    have hys : ys₄.size ≤ sizeLine := by
      have e1 := hr₄.length
      rw [Array.length_toList] at e1
      lia
    refine wpAny_list_append_plain (hsz := hys) hy₄ fun h₅ hl₅ hs₅ => ⟨n - 1, by lia, i + 1, rs₁ ++ [r], rs', g₄, by lia, by rw [List.length_append]; simp; lia, by lia, by rw [hd']; exact hrest, by rw [← hrs]; simp, ?_⟩
    obtain ⟨m₄, hm₄⟩ := H₄.ns
    exact H₄.at (tk := s₄.toks) hs₅.extBut H₄.gD hDB (W.frame _ _ _ H₄.it fun o e => hs₅.extBut I o hID e) ⟨m₄, hm₄.extBut hs₅.extBut hCD⟩ ⟨_, hl₅, by rw [Array.toList_push]; exact hr₄.append (.cons r₄ .nil)⟩ ht₄
  | @drop d ds' rs' ρx hb hif hrest =>
    have hlt : i < ds.length := by
      have := congrArg List.length hdr
      simp at this; lia
    have hd : ds[i]? = some d := by rw [← List.head?_drop, hdr]; rfl
    have hd' : ds.drop (i + 1) = ds' := by rw [← List.tail_drop, hdr]; rfl
    refine wpAny_with_toks H.tk (W.item i d s' _ _ hd H.it gIs fun v h₁ tk rv hSx he₁ ht₁ => ?_)
    obtain ⟨m, hm⟩ := H.ns
    obtain ⟨ys, hy, hr⟩ := H.acc
    have H₁ : CSt c sB.heap s g I C D Sx (i + 1) rs₁ g' { s' with heap := h₁, toks := tk } := H.at he₁ H.gI hIB hSx ⟨m, hm.extBut he₁ (Ne.symm hIC)⟩ ⟨ys, hy.extBut he₁ (Ne.symm hID), hr⟩ ht₁
    refine W.letgo _ _ _ _ _ _ hSx ?_
    obtain ⟨m₁, hm₁⟩ := H₁.ns
    refine wpAny_with_toks H₁.tk (hb C g' _ m₁ v _ _ hm₁ H.gC H₁.gs (rv.mono (stays_trans hIg H.gg)) fun h₂ tk₂ m₂ hn₂ he₂ hρ ht₂ => ?_)
    have H₂ : CSt c sB.heap s g I C D Sx (i + 1) rs₁ g' { s' with heap := h₂, toks := tk₂ } := H₁.at (s' := { s' with heap := h₁, toks := tk }) he₂ H.gC hCB (W.frame _ _ _ hSx fun o e => he₂ I o hIC e) ⟨m₂, hn₂⟩ ⟨ys, (hy.extBut he₁ (Ne.symm hID)).extBut he₂ (Ne.symm hCD), hr⟩ ht₂
    have S₂ : St (compEnvC scope cl C env) (ρx ++ ρc) g' { s' with heap := h₂, toks := tk₂ } := st_comp hkind S H₂.ss (stays_trans hgS H.gg) H₂.gs hcap hn₂ ht₂ hρ
    refine wpAny_with_toks H₂.tk (hif C g' _ _ _ (stays_trans hg H.gg) S₂ fun g₃ s₃ G₃ ht₃ => ?_)
    rw [if_neg (by decide)]
    exact ⟨n - 1, by lia, i + 1, rs₁, rs₂, g₃, by lia, by lia, by lia, by rw [hd']; exact hrest, hrs, H₂.bump W.frame (W.there _ _ H₂.it) G₃ ht₃⟩

/-- the block of a comprehension, from its iterator on -/
theorem comp_block {c : Cx} {A : Around} {env : Env} {ρ ρc : List (Str × PyData)} {scope : Scope} {cl : List (Str × Addr)} {tgt iter elt : Expr} {ifs : List Expr} {pos : Pos} {ds rs : List PyData} {I : Addr} {g g₁ : Heap} {Sx : Nat → Heap → Prop} {s s₁ : Shared} {RR : Value → Addr → Result → Shared → Prop}
    (hg : c.g0.StaysIn g) (S : St env ρ g s) (hkind : scope.kind = .function) (hcell : ∀ y ∈ scope.names, y.2 ≠ .cell) (hcap : ∀ x d, ρc.lookup x = some d → ρ.lookup x = some d ∧ Cap env scope cl x) (G : Gr g s g₁ s₁) (W : Itr c A I ds g₁ Sx) (hSx : Sx 0 s₁.heap) (hgI : g₁.get? I = none) (hIB : s.heap.get? I = none) (ht : 1 ≤ s₁.toks)
    (hsz : ds.length ≤ sizeLine) (hcp : Cp c A (fun C => compEnvC scope cl C env) tgt ifs elt ρc ds rs)
    (hR : ∀ D C g' h' tk, g₁.StaysIn g' → g'.StaysIn h' → (∀ a o, g'.get? a = some o → g₁.get? a = some o ∨ s.heap.get? a = none) → s.heap.StaysIn h' → s.heap.get? D = none → s.heap.get? C = none → C ≠ D → g'.get? C = none → g'.get? D = none → (∃ m, h'.Ns C m) → (∃ ys, h'.PlainList D ys ∧ RdA g' ys.toList rs) → 1 ≤ tk →
      RR (.ref D) C (.ok .next) { s₁ with heap := h', toks := tk }) :
    wpAny (model c.prog c.w) A (newList []) (fun acc s₃ => wpAny (model c.prog c.w) A (newFunctionEnv scope env.globals cl [] env.qual none .none (some env)) (fun cenv s₄ =>
      codeAny (model c.prog c.w) A (.compStart (.ListComp elt [⟨tgt, iter, ifs, 0⟩] scope pos) 0 (.ref I) acc { cenv with scope := relabel scope env }) (RR acc cenv.locals) s₄) E s₃) E s₁ := by
  refine wpAny_newObj_type (wpAny_newFunctionEnv hcell (by intro y hy; simp at hy) (fun h₁ hns₁ hsb₁ => ?_) hkind)
  dsimp only at hns₁ hsb₁ ⊢
  generalize hH2 : s₁.heap.push { cls := .type "list", dict := none, data := .seq ([] : List Value).toArray } = H2 at hns₁ hsb₁ ⊢
  have hC : H2.objs.size = s₁.heap.objs.size + 1 := by rw [← hH2, Heap.size_push]
  have hDC : s₁.heap.objs.size ≠ H2.objs.size := by rw [hC]; exact Nat.ne_of_lt (Nat.lt_succ_self _)
  have old : ∀ b o, s₁.heap.get? b = some o → h₁.get? b = some o := fun b o e => hsb₁.extBut b o (Nat.ne_of_lt (by rw [hC]; exact Nat.lt_succ_of_lt (Heap.lt_size e))) (Heap.get?_push_of_some _ (hH2 ▸ Heap.get?_push_of_some _ e))
  have noD : s₁.heap.get? s₁.heap.objs.size = none := none_at_size _
  have noC : s₁.heap.get? H2.objs.size = none := by
    cases e : s₁.heap.get? H2.objs.size with
    | none => rfl
    | some o => have := Heap.lt_size e; rw [hC] at this; exact absurd this (Nat.not_lt.mpr (Nat.le_succ _))
  obtain ⟨oI, hoI⟩ := W.there 0 _ hSx
  have hIlt := Heap.lt_size hoI
  have hIC : I ≠ H2.objs.size := by rw [hC]; exact Nat.ne_of_lt (Nat.lt_succ_of_lt hIlt)
  have hID : I ≠ s₁.heap.objs.size := Nat.ne_of_lt hIlt
  have hl : h₁.PlainList s₁.heap.objs.size #[] := ⟨_, hsb₁.extBut _ _ hDC (Heap.get?_push_of_some _ (hH2 ▸ Heap.get?_push_size _ rfl))⟩
  have H0 : CSt c s.heap { s₁ with heap := h₁, toks := s₁.toks + ([] : List (Str × Value)).length } g₁ I H2.objs.size s₁.heap.objs.size Sx 0 [] g₁ { s₁ with heap := h₁, toks := s₁.toks + ([] : List (Str × Value)).length } :=
    ⟨⟨_, _, rfl⟩, stays_refl _, stays_trans G.gs old, fun a o e => .inl e, stays_trans G.ss old, hgI, none_of_stays G.gs noC, none_of_stays G.gs noD, Nat.le_trans ht (Nat.le_add_right _ _), W.frame _ _ _ hSx fun o e => old _ _ e, ⟨_, hns₁⟩, ⟨_, hl, .nil⟩⟩
  have loop : codeAny (model c.prog c.w) A (.compLoop (.ListComp elt [⟨tgt, iter, ifs, 0⟩] scope pos) 0 (.ref I) (.ref s₁.heap.objs.size) (compEnvC scope cl H2.objs.size env))
        (RR (.ref s₁.heap.objs.size) H2.objs.size) { s₁ with heap := h₁, toks := s₁.toks + ([] : List (Str × Value)).length } := by
    refine comp_loop (g := g₁) (gI := g₁) (sB := s) (stays_trans hg G.gg) S G.gg hkind hcap W (stays_refl _) hIB (none_of_stays G.ss noC) (none_of_stays G.ss noD) hIC hID (Ne.symm hDC) hsz hcp H0 fun g' h' tk k1 k2 k3 k4 k5 k6 k7 k8 k9 => ?_
    exact hR _ _ g' h' tk k1 k2 k3 k4 (none_of_stays G.ss noD) (none_of_stays G.ss noC) (Ne.symm hDC) k5 k6 k7 k8 k9
  exact codeAny_compStart_list loop (W.self 0 _ _ _ (W.frame _ _ _ hSx fun o e => old _ _ e) loop)

theorem comp_end {c : Cx} {g g₁ g' h' h'' : Heap} {s s₁ : Shared} {D C : Addr} {tk : Nat} {rs : List PyData} (G : Gr g s g₁ s₁) (k1 : g₁.StaysIn g') (k2 : g'.StaysIn h') (k3 : ∀ a o, g'.get? a = some o → g₁.get? a = some o ∨ s.heap.get? a = none) (k4 : s.heap.StaysIn h') (hD : s.heap.get? D = none) (hC : s.heap.get? C = none) (hCD : C ≠ D)
    (gC : g'.get? C = none) (he : Heap.ExtBut C h' h'') (hl : ∃ ys, h'.PlainList D ys ∧ RdA g' ys.toList rs) : ∃ gF, Gr g s gF { s₁ with heap := h'', toks := tk } ∧ Rd gF (.ref D) (.list rs) ∧ gF.get? C = none := by
  have up : g'.StaysIn h'' := fun a o e => he a o (fun z => by subst z; rw [gC] at e; cases e) (k2 a o e)
  obtain ⟨ys, ⟨nD, hoD⟩, hr⟩ := hl
  have hoD' := he D _ (Ne.symm hCD) hoD
  have gg : g'.StaysIn (only h'' fun a => (∃ o, g'.get? a = some o) ∨ a = D) := fun a o e => only_get.mpr ⟨.inl ⟨o, e⟩, up a o e⟩
  refine ⟨only h'' fun a => (∃ o, g'.get? a = some o) ∨ a = D, ⟨stays_trans G.gg (stays_trans k1 gg), fun a o e => (only_get.mp e).2, fun a o e => he a o (fun z => by subst z; rw [hC] at e; cases e) (k4 a o e), fun a o e => ?_, ?_⟩, .list (only_get.mpr ⟨.inr rfl, hoD'⟩) rfl rfl rfl (hr.mono gg), ?_⟩
  · obtain ⟨q, e'⟩ := only_get.mp e
    rcases q with ⟨o', q⟩ | rfl
    · have := up a o' q
      rw [e'] at this
      cases this
      rcases k3 a o q with z | z
      · exact G.fr a o z
      · exact .inr z
    · exact .inr hD
  · obtain ⟨h₁, t₁, rfl⟩ := G.rest
    exact ⟨_, _, rfl⟩
  · cases q : (only h'' fun a => (∃ o, g'.get? a = some o) ∨ a = D).get? C with
    | none => rfl
    | some o =>
      rcases (only_get.mp q).1 with ⟨o', z⟩ | z
      · rw [gC] at z; cases z
      · exact absurd z hCD
/-- another heap is kept -/
theorem Frm.rek {c : Cx} {g₀ : Heap} {s₀ : Shared} {k k' : Heap} {env : Env} {ν : List (Str × Value)} {ρ : List (Str × PyData)} {g : Heap} {s : Shared} (F : Frm c g₀ s₀ k env ν ρ g s) (h1 : k'.StaysIn s.heap) (h2 : k'.get? env.locals = none) (h3 : ∀ n a, env.cells.lookup n = some a → k'.get? a = none) (h4 : ∀ a, g.get? a = none ∨ k'.get? a = none) : Frm c g₀ s₀ k' env ν ρ g s :=
  ⟨F.fn, F.gl, F.bl, F.base, F.gg, F.gs, F.fr, F.noL, h1, h2, h3, F.noC, h4, F.tk, F.fre⟩
/-- an object of nobody is written -/
theorem Frm.poke {c : Cx} {g₀ : Heap} {s₀ : Shared} {k : Heap} {env : Env} {ν : List (Str × Value)} {ρ : List (Str × PyData)} {g : Heap} {s : Shared} {b : Addr} {h' : Heap} (F : Frm c g₀ s₀ k env ν ρ g s) (he : Heap.ExtBut b s.heap h') (gb : g.get? b = none) (kb : k.get? b = none) (sb : s₀.heap.get? b = none)
    (bL : env.locals ≠ b) (bC : ∀ n a, env.cells.lookup n = some a → a ≠ b) {tk : Nat} (ht : 1 ≤ tk) : Frm c g₀ s₀ k env ν ρ g { s with heap := h', toks := tk } := by
  obtain ⟨m, cm, I, q⟩ := F.fre
  have ne : ∀ (hp : Heap) a o, hp.get? b = none → hp.get? a = some o → a ≠ b := fun hp a o e e' z => by subst z; rw [e] at e'; cases e'
  refine ⟨F.fn, F.gl, F.bl, F.base, F.gg, fun a o e => he a o (ne g a o gb e) (F.gs a o e), F.fr, F.noL, fun a o e => he a o (ne k a o kb e) (F.ks a o e), F.kL, F.kC, F.noC, F.gk, ht, m, cm, ⟨⟨?_, I.toInCall.ns.extBut he bL, fun a o e => he a o (ne _ a o sb e) (I.toInCall.keep a o e), I.toInCall.fresh⟩, fun n a e => ?_, I.apart, I.above⟩, q⟩
  · obtain ⟨h₁, t₁, rfl⟩ := I.toInCall.same
    exact ⟨_, _, rfl⟩
  · obtain ⟨o, ho, r⟩ := I.cell n a e
    exact ⟨o, he a o (bC n a e) ho, r⟩
/-- what exists is none of the frame's own if the frame's own is older -/
theorem Frm.apart {c : Cx} {g₀ : Heap} {s₀ : Shared} {k : Heap} {env : Env} {ν : List (Str × Value)} {ρ : List (Str × PyData)} {g : Heap} {s : Shared} {b : Addr} (F : Frm c g₀ s₀ k env ν ρ g s) (h : s.heap.get? b = none) : env.locals ≠ b ∧ (∀ n a, env.cells.lookup n = some a → a ≠ b) ∧ g.get? b = none ∧ k.get? b = none ∧ s₀.heap.get? b = none := by
  obtain ⟨m, cm, I, q⟩ := F.fre
  refine ⟨fun e => ?_, fun n a e z => ?_, none_of_stays F.gs h, none_of_stays F.ks h, none_of_stays (fun a o e => I.toInCall.keep a o e) h⟩
  · obtain ⟨o, _, _, ho, _⟩ := I.toInCall.ns
    rw [e, h] at ho; cases ho
  · obtain ⟨o, ho, _⟩ := I.cell n a e
    rw [z, h] at ho; cases ho
noncomputable def addk (k h : Heap) (b : Addr) : Heap := only h fun a => (∃ o, k.get? a = some o) ∨ a = b
theorem addk_get {k h : Heap} {b a : Addr} {o : Obj} (hk : k.StaysIn h) : (addk k h b).get? a = some o ↔ k.get? a = some o ∨ (a = b ∧ h.get? a = some o) := by
  unfold addk
  rw [only_get]
  constructor
  · rintro ⟨⟨o', q⟩ | q, e⟩
    · have := hk a o' q; rw [e] at this; cases this; exact .inl q
    · exact .inr ⟨q, e⟩
  · rintro (q | ⟨q, e⟩)
    · exact ⟨.inl ⟨o, q⟩, hk a o q⟩
    · exact ⟨.inr q, e⟩
theorem addk_none {k h : Heap} {b a : Addr} (hk : k.StaysIn h) (e : k.get? a = none) (hb : a ≠ b) : (addk k h b).get? a = none := by
  cases q : (addk k h b).get? a with
  | none => rfl
  | some o =>
    rcases (addk_get hk).mp q with z | ⟨z, _⟩
    · rw [e] at z; cases z
    · exact absurd z hb
theorem Frm.grab {c : Cx} {g₀ : Heap} {s₀ : Shared} {k : Heap} {env : Env} {ν : List (Str × Value)} {ρ : List (Str × PyData)} {g : Heap} {s : Shared} {b : Addr} (F : Frm c g₀ s₀ k env ν ρ g s) (bL : env.locals ≠ b) (bC : ∀ n a, env.cells.lookup n = some a → a ≠ b) (gb : g.get? b = none) : Frm c g₀ s₀ (addk k s.heap b) env ν ρ g s :=
  F.rek (fun a o e => (only_get.mp e).2) (addk_none F.ks F.kL bL) (fun n a e => addk_none F.ks (F.kC n a e) (bC n a e)) fun a => by
    by_cases hb : a = b
    · subst hb; exact .inl gb
    · exact (F.gk a).imp id fun e => addk_none F.ks e hb
theorem Frm.back {c : Cx} {g₀ : Heap} {s₀ : Shared} {k k' : Heap} {env : Env} {ν : List (Str × Value)} {ρ : List (Str × PyData)} {g : Heap} {s : Shared} (F : Frm c g₀ s₀ k' env ν ρ g s) (h : k.StaysIn k') : Frm c g₀ s₀ k env ν ρ g s :=
  F.rek (stays_trans h F.ks) (none_of_stays h F.kL) (fun n a e => none_of_stays h (F.kC n a e)) fun a => (F.gk a).imp id (none_of_stays h)
theorem addk_stays {k h : Heap} {b : Addr} (hk : k.StaysIn h) : k.StaysIn (addk k h b) := fun a o e => (addk_get hk).mpr (.inl e)
theorem ev_comp {c : Cx} {A : Around} {env : Env} {ρ : List (Str × PyData)} (ρc : List (Str × PyData)) {scope : Scope} {cl : List (Str × Addr)} {tgt iter elt : Expr} {ifs : List Expr} {pos : Pos} {ds rs : List PyData}
    (hit : It c A env ρ iter ds) (hclos : closureFor scope env = pure cl) (hkind : scope.kind = .function) (hcell : ∀ y ∈ scope.names, y.2 ≠ .cell) (hnames : ∀ y ∈ scope.names, y.2 = .local → scope.names.lookup y.1 = some .local)
    (hcap : ∀ x d, ρc.lookup x = some d → ρ.lookup x = some d ∧ Cap env scope cl x) (hcp : Cp c A (fun C => compEnvC scope cl C env) tgt ifs elt ρc ds rs) (hsz : ds.length ≤ sizeLine) (hs : ∀ x, foldedSetIterable iter env x = pure x := by intro _; rfl) :
    Ev c A env ρ (.ListComp elt [⟨tgt, iter, ifs, 0⟩] scope pos) (.list rs) := by
  intro g s Q E hg S hQ
  rw [eval_ListComp]
  refine wpAny_comprehension_free (use := none) rfl hs hclos hkind hnames (hit.tk g s _ _ hg S fun I Sx g₁ s₁ G W hSx hgI hIB ht => ?_)
  refine comp_block (RR := fun acc C => compPost (model c.prog c.w) A E none Q acc C) hg S hkind hcell hcap G W hSx hgI hIB ht hsz hcp fun D C g' h' tk k1 k2 k3 k4 k5 k6 k7 k8 k9 k10 k11 k12 => ?_
  obtain ⟨m, hm⟩ := k10
  refine ⟨m, hm, fun h'' hs'' => ?_⟩
  obtain ⟨gF, GF, rF, _⟩ := comp_end (c := c) (tk := tk) G k1 k2 k3 k4 k5 k6 k7 k8 hs''.extBut k11
  exact hQ _ gF _ GF rF
theorem x_assign_comp {c : Cx} {A : Around} {env : Env} {ν : List (Str × Value)} {ρ : List (Str × PyData)} (ρc : List (Str × PyData)) {scope : Scope} {cl : List (Str × Addr)} {y : Str} {py spos : Pos} {tgt iter elt : Expr} {ifs : List Expr} {pos : Pos} {ds rs : List PyData}
    (hit : It c A env ρ iter ds) (hclos : closureFor scope env = pure cl) (hkind : scope.kind = .function) (hcell : ∀ y ∈ scope.names, y.2 ≠ .cell) (hnames : ∀ y ∈ scope.names, y.2 = .local → scope.names.lookup y.1 = some .local)
    (hcap : ∀ x d, ρc.lookup x = some d → ρ.lookup x = some d ∧ Cap env scope cl x) (hcp : Cp c A (fun C => compEnvC scope cl C env) tgt ifs elt ρc ds rs) (hsz : ds.length ≤ sizeLine)
    (hy : env.kindOf y = some .local) (hν : ν.lookup y = none) (hsw : swapsWith (.ListComp elt [⟨tgt, iter, ifs, 0⟩] scope pos) (some (.Name y py)) spos.line env = pure true)
    (hs : ∀ x, foldedSetIterable iter env x = pure x := by intro _; rfl) :
    X1 c A env ν ρ (.Assign [.Name y py] (.ListComp elt [⟨tgt, iter, ifs, 0⟩] scope pos) spos) (.next (setρ ρ y (.list rs))) := by
  intro g₀ s₀ k g s Q E F hQ
  rw [exec_Assign_Name_used _ _ _ _ hsw]
  refine wpAny_bind (wpAny_standAt (wpAny_bind ?_))
  show wpAny _ A (do let _ ← comprehension (.ListComp elt [⟨tgt, iter, ifs, 0⟩] scope pos) scope env _ (newList []) false (eval iter env) (some (assign (.Name y py) env))) _ _ s
  refine wpAny_bind (wpAny_mono (wpAny_comprehension_free (use := some (assign (.Name y py) env)) (Q := fun _ s' => Q .next s') rfl hs hclos hkind hnames
    (hit.tk g s _ _ F.bg F.st fun I Sx g₁ s₁ G W hSx hgI hIB ht => ?_)) (fun _ s' hq => wpAny_pure (wpAny_pure hq)) fun _ _ e => e)
  refine comp_block (RR := fun acc C => compPost (model c.prog c.w) A E (some (assign (.Name y py) env)) (fun _ s' => Q .next s') acc C) F.bg F.st hkind hcell hcap G W hSx hgI hIB ht hsz hcp fun D C g' h' tk k1 k2 k3 k4 k5 k6 k7 k8 k9 k10 k11 k12 => ?_
  obtain ⟨m, hm⟩ := k10
  obtain ⟨gF, GF, rF, gFC⟩ := comp_end (c := c) (tk := tk) (h'' := h') G k1 k2 k3 k4 k5 k6 k7 k8 (fun _ _ _ e => e) k11
  show wpAny _ A (assign (.Name y py) env (.ref D)) _ _ _
  obtain ⟨a1, a2, a3, a4, a5⟩ := F.apart k6
  have F' := F.step GF k12
  obtain ⟨oC, _, _, hoC, _⟩ := id hm
  have F'' := F'.grab a1 a2 gFC
  refine wpAny_assign_Name (wp_store F'' rF (.inl hy) hν fun s'' F₃ => ?_)
  have hC'' : s''.heap.get? C = some oC := F₃.ks C oC ((addk_get F'.ks).mpr (.inr ⟨rfl, hoC⟩))
  refine ⟨m, hm.at' fun o e => ?_, fun h₃ hs₃ => ?_⟩
  · rw [hoC] at e; cases e; exact hC''
  · exact hQ gF _ ((F₃.back (addk_stays F'.ks)).poke hs₃.extBut gFC a4 a5 a1 a2 F₃.tk)
end Mine
end
/-! ## B7 -/
section
open PySem PySem.W PySem.Calls PyProof.Rows
set_option maxRecDepth 100000
namespace Mine

/-- an assertion: start's readable heap, start, kept heap, readable heap, state -/
noncomputable abbrev As := Heap → Shared → Heap → Heap → Shared → Prop
structure Po where
  nx : As
  rt : PyData → Prop := fun _ => False
  bk : As := fun _ _ _ _ _ => False
noncomputable def Po.ok (o : Po) (g₀ : Heap) (s₀ : Shared) (k : Heap) (Q : Flow → Shared → Prop) : Prop :=
  (∀ g s, o.nx g₀ s₀ k g s → Q .next s) ∧ (∀ d v g s, o.rt d → Gr g₀ s₀ g s → Rd g v d → Q (.ret v) s) ∧ (∀ g s, o.bk g₀ s₀ k g s → Q .brk s)
noncomputable def XA1 (c : Cx) (A : Around) (env : Env) (P : As) (st : Stmt) (o : Po) : Prop :=
  ∀ g₀ s₀ k g s (Q : Flow → Shared → Prop) (E : Value → Shared → Prop), P g₀ s₀ k g s → o.ok g₀ s₀ k Q → wpAny (model c.prog c.w) A (exec st env) Q E s
noncomputable def XA (c : Cx) (A : Around) (env : Env) (P : As) (sts : List Stmt) (o : Po) : Prop :=
  ∀ g₀ s₀ k g s (Q : Flow → Shared → Prop) (E : Value → Shared → Prop), P g₀ s₀ k g s → o.ok g₀ s₀ k Q → wpAny (model c.prog c.w) A (execs sts env) Q E s
section
variable {c : Cx} {A : Around} {env : Env} {P R : As} {o : Po}
theorem xa_nil (h : ∀ g₀ s₀ k g s, P g₀ s₀ k g s → o.nx g₀ s₀ k g s) : XA c A env P [] o := fun g₀ s₀ k g s Q E p hQ => wpAny_execs_nil (hQ.1 g s (h _ _ _ _ _ p))
theorem xa_cons {st : Stmt} {sts : List Stmt} (R : As) (h : XA1 c A env P st ⟨R, o.rt, o.bk⟩) (hs : XA c A env R sts o) : XA c A env P (st :: sts) o := fun g₀ s₀ k g s Q E p hQ =>
  wpAny_execs_cons (h g₀ s₀ k g s _ _ p ⟨fun g' s' r => hs g₀ s₀ k g' s' Q E r hQ, fun d v g' s' r G rd => hQ.2.1 d v g' s' r G rd, fun g' s' r => hQ.2.2 g' s' r⟩)
theorem xa1_pre {st : Stmt} (h : ∀ g₀ s₀ k g s, P g₀ s₀ k g s → R g₀ s₀ k g s) (hs : XA1 c A env R st o) : XA1 c A env P st o := fun g₀ s₀ k g s Q E p hQ => hs g₀ s₀ k g s Q E (h _ _ _ _ _ p) hQ
theorem xa_ret {st : Stmt} {sts : List Stmt} (h : XA1 c A env P st ⟨fun _ _ _ _ _ => False, o.rt, o.bk⟩) : XA c A env P (st :: sts) o := fun g₀ s₀ k g s Q E p hQ =>
  wpAny_execs_cons (h g₀ s₀ k g s _ _ p ⟨fun g' s' r => r.elim, fun d v g' s' r G rd => hQ.2.1 d v g' s' r G rd, fun g' s' r => hQ.2.2 g' s' r⟩)
theorem xa_break {sts : List Stmt} {pos : Pos} (h : ∀ g₀ s₀ k g s, P g₀ s₀ k g s → o.bk g₀ s₀ k g s) : XA c A env P (.Break pos :: sts) o := fun g₀ s₀ k g s Q E p hQ =>
  wpAny_execs_cons (wpAny_Break (hQ.2.2 g s (h _ _ _ _ _ p)))
theorem xa_case {ι : Sort _} {P : ι → As} {sts : List Stmt} (h : ∀ i, XA c A env (P i) sts o) : XA c A env (fun g₀ s₀ k g s => ∃ i, P i g₀ s₀ k g s) sts o := fun g₀ s₀ k g s Q E ⟨i, p⟩ hQ => h i g₀ s₀ k g s Q E p hQ
end

/-- assertions that bear an iterator at their side -/
structure Ad (c : Cx) (P : As) : Prop where
  ks : ∀ {g₀ s₀ K g s}, P g₀ s₀ K g s → K.StaysIn s.heap
  gs : ∀ {g₀ s₀ K g s}, P g₀ s₀ K g s → g.StaysIn s.heap
  tk : ∀ {g₀ s₀ K g s}, P g₀ s₀ K g s → 1 ≤ s.toks
  gk : ∀ {g₀ s₀ K g s}, P g₀ s₀ K g s → ∀ a, g.get? a = none ∨ K.get? a = none
  iter : ∀ {g₀ s₀ k g s g' s' b}, P g₀ s₀ k g s → Gr g s g' s' → 1 ≤ s'.toks → s.heap.get? b = none → g'.get? b = none → P g₀ s₀ (addk k s'.heap b) g' s' ∧ s₀.heap.get? b = none
  turn : ∀ {g₀ s₀ K K' g s h' b tk}, P g₀ s₀ K g s → (∃ o, K.get? b = some o) → s₀.heap.get? b = none → Heap.ExtBut b s.heap h' → 1 ≤ tk → K'.StaysIn h' → (∀ a, K.get? a = none → K'.get? a = none) → P g₀ s₀ K' g { s with heap := h', toks := tk }
  re : ∀ {g₀ s₀ k g s}, P g₀ s₀ k g s → P g s₀ k g s ∧ g₀.StaysIn g ∧ (∀ a o, g.get? a = some o → g₀.get? a = some o ∨ s₀.heap.get? a = none) ∧ c.g0.StaysIn g₀
  un : ∀ {g₀ g₁ s₀ k g s}, P g₁ s₀ k g s → c.g0.StaysIn g₀ → g₀.StaysIn g₁ → (∀ a o, g₁.get? a = some o → g₀.get? a = some o ∨ s₀.heap.get? a = none) → P g₀ s₀ k g s
/-- a target bound, then a body -/
noncomputable def XB (c : Cx) (A : Around) (env : Env) (P : As) (tgt : Expr) (d : PyData) (body : List Stmt) (o : Po) : Prop :=
  ∀ g₀ s₀ k g s (v : Value) (Q : Flow → Shared → Prop) (E : Value → Shared → Prop), P g₀ s₀ k g s → Rd g v d → o.ok g₀ s₀ k Q → wpAny (model c.prog c.w) A (assign tgt env v) (fun _ s' => wpAny (model c.prog c.w) A (execs body env) Q E s') E s

/-- what holds before a turn of a for -/
structure LSt (J : Nat → As) (N : Nat) (g₀ : Heap) (s₀ : Shared) (k g₁ : Heap) (I : Addr) (Sx : Nat → Heap → Prop) (n : Nat) (s : Shared) (i : Nat) (g K : Heap) : Prop where
  hn : i + n = N + 1
  hi : i ≤ N
  p : J i g₀ s₀ K g s
  hg : g₁.StaysIn g
  sx : Sx i s.heap
  ok : ∃ o, K.get? I = some o
  kK : k.StaysIn K
  Kk : ∀ a, a ≠ I → k.get? a = none → K.get? a = none
theorem LSt.sub {J : Nat → As} {N : Nat} {g₀ : Heap} {s₀ : Shared} {k g₁ : Heap} {I : Addr} {Sx : Nat → Heap → Prop} {n : Nat} {s : Shared} {i : Nat} {g K : Heap} (L : LSt J N g₀ s₀ k g₁ I Sx n s i g K) : ∀ a, K.get? a = none → k.get? a = none := fun a e => none_of_stays L.kK e
theorem kstays {I : Addr} {k K h h' : Heap} (hkI : k.get? I = none) (a : K.StaysIn h) (b : k.StaysIn K) (e : Heap.ExtBut I h h') : k.StaysIn h' := fun x ox ex => e x ox (fun z => by subst z; rw [hkI] at ex; cases ex) (a x ox (b x ox ex))
/-- the next turn -/
theorem LSt.next {c : Cx} {J : Nat → As} (hJ : ∀ i, Ad c (J i)) {N : Nat} {g₀ : Heap} {s₀ : Shared} {k g₁ : Heap} {I : Addr} {Sx : Nat → Heap → Prop} {n : Nat} {s : Shared} {i : Nat} {g K h₁ : Heap} {oI : Obj} (L : LSt J N g₀ s₀ k g₁ I Sx n s i g K) (hlt : i < N) {g₂ : Heap} {s₂ : Shared}
    (hk₁ : k.StaysIn h₁) (hoI : h₁.get? I = some oI) (q' : J (i + 1) g₀ s₀ (addk k h₁ I) g₂ s₂) (hgg : g.StaysIn g₂) (sx : Sx (i + 1) s₂.heap) : ∃ m, m < n ∧ ∃ i' g' K', LSt J N g₀ s₀ k g₁ I Sx m s₂ i' g' K' := by
  have h := L.hn
  exact ⟨n - 1, by omega, i + 1, g₂, _, by omega, hlt, q', stays_trans L.hg hgg, sx, ⟨oI, (addk_get hk₁).mpr (.inr ⟨rfl, hoI⟩)⟩, addk_stays hk₁, fun a ha e => addk_none hk₁ e ha⟩
theorem xa_for {c : Cx} {A : Around} {env : Env} {o : Po} {tgt iter : Expr} {body : List Stmt} {pos : Pos} {ds : List PyData} (J : Nat → As)
    (hJ : ∀ i, Ad c (J i)) (hbk : Ad c o.nx)
    (hit : ∀ g₀ s₀ k g s, J 0 g₀ s₀ k g s → ∃ ρ, c.g0.StaysIn g ∧ St env ρ g s ∧ It c A env ρ iter ds)
    (turn : ∀ i d, ds[i]? = some d → XB c A env (J i) tgt d body ⟨J (i + 1), o.rt, o.nx⟩)
    (hend : ∀ g₀ s₀ k g s, J ds.length g₀ s₀ k g s → o.nx g₀ s₀ k g s)
    (hs : ∀ x, foldedSetIterable iter env x = pure x := by intro _; rfl) : XA1 c A env (J 0) (.For tgt iter body [] pos) o := by
  intro g₀ s₀ k g s Q E p hQ
  obtain ⟨ρ, hg, S, hI⟩ := hit g₀ s₀ k g s p
  refine wpAny_For (hI.tk g s _ _ hg S fun I Sx g₁ s₁ G W hSx hgI hIB ht => ?_) hs
  obtain ⟨p₁, hI0⟩ := (hJ 0).iter p G ht hIB hgI
  have hkI : k.get? I = none := none_of_stays ((hJ 0).ks p) hIB
  have hks₁ : k.StaysIn s₁.heap := stays_trans ((hJ 0).ks p) G.ss
  obtain ⟨oI, hoI⟩ := W.there 0 _ hSx
  refine codeAny_forLoop_any (fun n s' => ∃ i g' K, LSt J ds.length g₀ s₀ k g₁ I Sx n s' i g' K) ?_ (ds.length + 1)
    ⟨0, g₁, _, by omega, Nat.zero_le _, p₁, stays_refl _, hSx, ⟨oI, (addk_get hks₁).mpr (.inr ⟨rfl, hoI⟩)⟩, addk_stays hks₁, fun a ha e => addk_none hks₁ e ha⟩
  rintro n s' ⟨i, g', K, L⟩
  have p' := L.p
  obtain ⟨oK, hoK⟩ := L.ok
  rcases Nat.lt_or_ge i ds.length with hlt | hge
  · obtain ⟨d, hd⟩ : ∃ d, ds[i]? = some d := ⟨ds[i], List.getElem?_eq_getElem hlt⟩
    refine wpAny_with_toks ((hJ i).tk p') (W.item i d s' _ _ hd L.sx (stays_trans L.hg ((hJ i).gs p')) fun v h₁ tk rv hSx₁ he₁ ht₁ => ?_)
    refine W.letgo _ _ _ _ _ _ hSx₁ ?_
    obtain ⟨oI₁, hoI₁⟩ := W.there _ _ hSx₁
    have hk₁ : k.StaysIn h₁ := kstays hkI ((hJ i).ks p') L.kK he₁
    have p₂ : J i g₀ s₀ (addk k h₁ I) g' { s' with heap := h₁, toks := tk } := (hJ i).turn p' ⟨oK, hoK⟩ hI0 he₁ ht₁ (fun a o e => (only_get.mp e).2) fun a e => addk_none hk₁ (L.sub a e) fun z => by subst z; rw [hoK] at e; cases e
    obtain ⟨p₃, b1, b2, b3⟩ := (hJ i).re p₂
    refine turn i d hd g' s₀ _ g' _ v _ _ p₃ (rv.mono L.hg) ⟨fun g'' s'' q => ?_, fun d' v' g'' s'' q G' r' => ?_, fun g'' s'' q => ?_⟩
    · have q' := (hJ (i + 1)).un q b3 b1 b2
      have hgg : g'.StaysIn g'' := ((hJ (i + 1)).re q).2.1
      have hKs := (hJ (i + 1)).ks q
      have hoI'' : s''.heap.get? I = some oI₁ := hKs I oI₁ ((addk_get hk₁).mpr (.inr ⟨rfl, hoI₁⟩))
      exact L.next hJ hlt hk₁ hoI₁ q' hgg (W.frame _ _ _ hSx₁ (fun o e => by rw [hoI₁] at e; cases e; exact hoI''))
    · exact hQ.2.1 d' v' g'' s'' q ⟨stays_trans b1 G'.gg, G'.gs, G'.ss, fun a o e => by
        rcases G'.fr a o e with z | z
        · exact b2 a o z
        · exact .inr z, G'.rest⟩ r'
    · have q' := hbk.un q b3 b1 b2
      refine hQ.1 g'' s'' ?_
      have hKs := hbk.ks q
      have e := hbk.turn (K' := k) (h' := s''.heap) (b := I) (tk := s''.toks) q' ⟨oI₁, (addk_get hk₁).mpr (.inr ⟨rfl, hoI₁⟩)⟩ hI0 (fun _ _ _ e => e) (hbk.tk q) (stays_trans (addk_stays hk₁) hKs) fun a e => none_of_stays (addk_stays hk₁) e
      exact e
  · refine wpAny_with_toks ((hJ i).tk p') (W.done i s' _ _ hge L.sx (stays_trans L.hg ((hJ i).gs p')) fun h' tk he ht => wpAny_execs_nil ?_)
    have hil : i = ds.length := Nat.le_antisymm L.hi hge
    subst hil
    refine hQ.1 g' _ (hend _ _ _ _ _ ?_)
    exact (hJ _).turn p' ⟨oK, hoK⟩ hI0 he ht (kstays hkI ((hJ _).ks p') L.kK he) L.sub
end Mine
end
/-! ## B8 -/
section
open PySem PySem.W PySem.Calls PyProof.Rows
set_option maxRecDepth 100000
namespace Mine

noncomputable def dictD (js : List (Int × Int)) : PyData := .dict ((.none, .none) :: js.map fun p => (.int p.1, .int p.2))
/-- what an object of the frame's own tells -/
inductive OwnIs (g h : Heap) (a : Addr) : PyData → Prop
  | list {vs : Array Value} {ds : List PyData} : h.PlainList a vs → RdA g vs.toList ds → OwnIs g h a (.list ds)
  | dict {kvs : List (Int × Value)} {js : List (Int × Int)} : (a == sysModules) = false → (∃ o, h.get? a = some o) → (∀ prog w, h.DictOf (intKind prog w) a kvs) → kvs.map (fun p => (p.1, valInt p.2)) = js.map (fun p => (p.1, some p.2)) → OwnIs g h a (dictD js)
theorem OwnIs.there {g h : Heap} {a : Addr} {d : PyData} (o : OwnIs g h a d) : ∃ x, h.get? a = some x := by
  cases o with
  | list hl _ => obtain ⟨n, e⟩ := hl; exact ⟨_, e⟩
  | dict _ ho _ _ => exact ho
theorem OwnIs.at {g g' h h' : Heap} {a : Addr} {d : PyData} (o : OwnIs g h a d) (gg : g.StaysIn g') (e : ∀ x, h.get? a = some x → h'.get? a = some x) : OwnIs g' h' a d := by
  cases o with
  | list hl hr => exact .list (hl.at e) (hr.mono gg)
  | dict n ho hd he => exact .dict n (let ⟨o, e'⟩ := ho; ⟨o, e _ e'⟩) (fun prog w => by obtain ⟨o, es, ep, ho, r⟩ := hd prog w; exact ⟨o, es, ep, e _ ho, r⟩) he
/-- an object of the frame's own at a -/
structure Own (g₀ : Heap) (s₀ : Shared) (k : Heap) (env : Env) (g : Heap) (s : Shared) (a : Addr) (d : PyData) : Prop where
  kn : k.get? a = none
  gn : g.get? a = none
  zn : s₀.heap.get? a = none
  Ln : env.locals ≠ a
  Cn : ∀ n b, env.cells.lookup n = some b → b ≠ a
  is : OwnIs g s.heap a d
structure FO (c : Cx) (env : Env) (ν : List (Str × Value)) (ρ : List (Str × PyData)) (ω : List (Addr × PyData)) (g₀ : Heap) (s₀ : Shared) (k : Heap) (g : Heap) (s : Shared) : Prop where
  frm : Frm c g₀ s₀ k env ν ρ g s
  own : ∀ p ∈ ω, Own g₀ s₀ k env g s p.1 p.2
  dis : (ω.map (·.1)).Nodup
theorem Own.there {g₀ : Heap} {s₀ : Shared} {k : Heap} {env : Env} {g : Heap} {s : Shared} {a : Addr} {ds : PyData} (o : Own g₀ s₀ k env g s a ds) : ∃ x, s.heap.get? a = some x := o.is.there
theorem Own.step {g₀ : Heap} {s₀ : Shared} {k : Heap} {env : Env} {g g' : Heap} {s s' : Shared} {a : Addr} {ds : PyData} (o : Own g₀ s₀ k env g s a ds) (G : Gr g s g' s') : Own g₀ s₀ k env g' s' a ds := by
  obtain ⟨x, hx⟩ := o.there
  refine ⟨o.kn, ?_, o.zn, o.Ln, o.Cn, o.is.at G.gg fun _ e => G.ss _ _ e⟩
  cases q : g'.get? a with
  | none => rfl
  | some y =>
    rcases G.fr a y q with z | z
    · rw [o.gn] at z; cases z
    · rw [hx] at z; cases z
theorem FO.step {c : Cx} {env : Env} {ν ρ ω} {g₀ : Heap} {s₀ : Shared} {k g g' : Heap} {s s' : Shared} (F : FO c env ν ρ ω g₀ s₀ k g s) (G : Gr g s g' s') (t : 1 ≤ s'.toks) : FO c env ν ρ ω g₀ s₀ k g' s' :=
  ⟨F.frm.step G t, fun p hp => (F.own p hp).step G, F.dis⟩
theorem fo_ad {c : Cx} {env : Env} {ν ρ ω} : Ad c (FO c env ν ρ ω) where
  ks := fun F => F.frm.ks
  gs := fun F => F.frm.gs
  tk := fun F => F.frm.tk
  gk := fun F => F.frm.gk
  iter := fun {g₀ s₀ k g s g' s' b} F G t hb hgb => by
    obtain ⟨a1, a2, a3, a4, a5⟩ := F.frm.apart hb
    refine ⟨⟨(F.frm.step G t).grab a1 a2 hgb, fun p hp => ?_, F.dis⟩, a5⟩
    have o := (F.own p hp).step G
    obtain ⟨x, hx⟩ := (F.own p hp).there
    exact ⟨addk_none (F.frm.step G t).ks o.kn (fun z => by rw [z, hb] at hx; cases hx), o.gn, o.zn, o.Ln, o.Cn, o.is⟩
  turn := fun {g₀ s₀ K K' g s h' b tk} F ⟨ob, hob⟩ hz he ht hK' hsub => by
    have hgb : g.get? b = none := (F.frm.gk b).resolve_right (by rw [hob]; exact fun e => nomatch e)
    have hL : env.locals ≠ b := fun z => by have := F.frm.kL; rw [z, hob] at this; cases this
    have hC : ∀ n a, env.cells.lookup n = some a → a ≠ b := fun n a e z => by have := F.frm.kC n a e; rw [z, hob] at this; cases this
    have F₁ : Frm c g₀ s₀ ({} : Heap) env ν ρ g s := F.frm.rek (fun _ _ e => nomatch e) rfl (fun _ _ _ => rfl) fun _ => .inr rfl
    have F₂ := F₁.poke he hgb rfl hz hL hC ht
    refine ⟨F₂.rek hK' (hsub _ F.frm.kL) (fun n a e => hsub _ (F.frm.kC n a e)) fun a => (F.frm.gk a).imp id (hsub a), fun p hp => ?_, F.dis⟩
    have o := F.own p hp
    exact ⟨hsub _ o.kn, o.gn, o.zn, o.Ln, o.Cn, o.is.at (stays_refl _) fun x e => he _ x (fun z => by have := o.kn; rw [z, hob] at this; cases this) e⟩
  re := fun {g₀ s₀ k g s} F => ⟨⟨⟨F.frm.fn, F.frm.gl, F.frm.bl, F.frm.bg, stays_refl _, F.frm.gs, fun _ _ e => .inl e, F.frm.noL, F.frm.ks, F.frm.kL, F.frm.kC, F.frm.noC, F.frm.gk, F.frm.tk, F.frm.fre⟩, fun p hp => let o := F.own p hp; ⟨o.kn, o.gn, o.zn, o.Ln, o.Cn, o.is⟩, F.dis⟩, F.frm.gg, F.frm.fr, F.frm.base⟩
  un := fun {g₀ g₁ s₀ k g s} F h1 h2 h3 => ⟨⟨F.frm.fn, F.frm.gl, F.frm.bl, h1, stays_trans h2 F.frm.gg, F.frm.gs, fun a o e => (F.frm.fr a o e).elim (fun z => h3 a o z) .inr, F.frm.noL, F.frm.ks, F.frm.kL, F.frm.kC, F.frm.noC, F.frm.gk, F.frm.tk, F.frm.fre⟩, fun p hp => let o := F.own p hp; ⟨o.kn, o.gn, o.zn, o.Ln, o.Cn, o.is⟩, F.dis⟩
/-- the frame with its own lists kept -/
theorem FO.grabs {c : Cx} {env : Env} {ν ρ ω} {g₀ : Heap} {s₀ : Shared} {k g : Heap} {s : Shared} (F : FO c env ν ρ ω g₀ s₀ k g s) : Frm c g₀ s₀ (only s.heap fun a => (∃ o, k.get? a = some o) ∨ a ∈ ω.map (·.1)) env ν ρ g s := by
  have none' : ∀ a, k.get? a = none → a ∉ ω.map (·.1) → (only s.heap fun a => (∃ o, k.get? a = some o) ∨ a ∈ ω.map (·.1)).get? a = none := fun a e hn => by
    cases q : (only s.heap fun a => (∃ o, k.get? a = some o) ∨ a ∈ ω.map (·.1)).get? a with
    | none => rfl
    | some o =>
      rcases (only_get.mp q).1 with ⟨o', z⟩ | z
      · rw [e] at z; cases z
      · exact absurd z hn
  refine F.frm.rek (fun a o e => (only_get.mp e).2) (none' _ F.frm.kL fun h => ?_) (fun n a e => none' _ (F.frm.kC n a e) fun h => ?_) fun a => ?_
  · obtain ⟨p, hp, e⟩ := List.mem_map.mp h
    exact (F.own p hp).Ln e.symm
  · obtain ⟨p, hp, e'⟩ := List.mem_map.mp h
    exact (F.own p hp).Cn n a e e'.symm
  · by_cases h : a ∈ ω.map (·.1)
    · obtain ⟨p, hp, e'⟩ := List.mem_map.mp h
      exact .inl (e' ▸ (F.own p hp).gn)
    · exact (F.frm.gk a).imp id fun e => none' a e h
theorem FO.ungrab {c : Cx} {env : Env} {ν ν' ρ ρ' ω} {g₀ : Heap} {s₀ : Shared} {k g g' : Heap} {s s' : Shared} (F : FO c env ν ρ ω g₀ s₀ k g s) (hgg : g.StaysIn g') (F' : Frm c g₀ s₀ (only s.heap fun a => (∃ o, k.get? a = some o) ∨ a ∈ ω.map (·.1)) env ν' ρ' g' s') : FO c env ν' ρ' ω g₀ s₀ k g' s' := by
  have kk : k.StaysIn (only s.heap fun a => (∃ o, k.get? a = some o) ∨ a ∈ ω.map (·.1)) := fun a o e => only_get.mpr ⟨.inl ⟨o, e⟩, F.frm.ks a o e⟩
  refine ⟨F'.back kk, fun p hp => ?_, F.dis⟩
  have o := F.own p hp
  obtain ⟨x, hx⟩ := o.there
  have hin : (only s.heap fun a => (∃ o, k.get? a = some o) ∨ a ∈ ω.map (·.1)).get? p.1 = some _ := only_get.mpr ⟨.inr (List.mem_map.mpr ⟨p, hp, rfl⟩), hx⟩
  exact ⟨o.kn, (F'.gk p.1).resolve_right (by rw [hin]; exact fun e => nomatch e), o.zn, o.Ln, o.Cn, o.is.at hgg fun y e => by rw [hx] at e; cases e; exact F'.ks _ _ hin⟩

section
variable {c : Cx} {A : Around} {env : Env} {ν : List (Str × Value)} {ρ : List (Str × PyData)} {ω : List (Addr × PyData)} {o : Po}
/-- a pure statement -/
theorem xo_pure {st : Stmt} {ρ' : List (Str × PyData)} (h : X1 c A env ν ρ st (.next ρ')) (ho : ∀ g₀ s₀ k g s, FO c env ν ρ' ω g₀ s₀ k g s → o.nx g₀ s₀ k g s) : XA1 c A env (FO c env ν ρ ω) st o := fun g₀ s₀ k g s Q E F hQ => by
  obtain ⟨F', b1, b2, b3⟩ := fo_ad.re F
  exact h g s₀ _ g s Q E F'.grabs fun g' s' F₁ => hQ.1 g' s' (ho _ _ _ _ _ (fo_ad.un (F'.ungrab F₁.gg F₁) b3 b1 b2))
/-- a pure return -/
theorem xo_return {e : Expr} {pos : Pos} {d : PyData} (h : Ev c A env ρ e d) (ho : o.rt d) : XA1 c A env (FO c env ν ρ ω) (.Return (some e) pos) o := fun g₀ s₀ k g s Q E F hQ =>
  wpAny_Return_some (h g s _ _ F.frm.bg F.frm.st fun v g' s' G r => hQ.2.1 d v g' s' ho (F.frm.gr.trans G) r)
theorem xo_if {t : Expr} {body orelse : List Stmt} {pos : Pos} {b : Bool} (h : Tr c A env ρ t b) (h₁ : b = true → XA c A env (FO c env ν ρ ω) body o) (h₂ : b = false → XA c A env (FO c env ν ρ ω) orelse o) : XA1 c A env (FO c env ν ρ ω) (.If t body orelse pos) o := fun g₀ s₀ k g s Q E F hQ =>
  wpAny_If (h.tk g s _ _ F.frm.bg F.frm.st fun g' s' G t => by
    cases b with
    | true => exact h₁ rfl g₀ s₀ k g' s' Q E (F.step G t) hQ
    | false => exact h₂ rfl g₀ s₀ k g' s' Q E (F.step G t) hQ)
end
end Mine
end
/-! ## B9 -/
section
open PySem PySem.W PySem.Calls PyProof.Rows
set_option maxRecDepth 100000
namespace Mine

noncomputable def bareD (ds : List PyData) : PyData := .dict [(.list ds, .none)]
theorem rda_ints {g : Heap} : ∀ {vs : List Value} {ns : List Int}, RdA g vs (ns.map .int) → IntsAre vs ns
  | [], [], _ => .nil
  | [], _ :: _, r => nomatch r
  | _ :: _, [], r => nomatch r
  | v :: vs, n :: ns, r => by
    rcases r with _ | ⟨a, b⟩
    cases a
    exact .cons _ _ (rda_ints b)
theorem rda_of_ints {g : Heap} : ∀ {vs : List Value} {ns : List Int}, IntsAre vs ns → RdA g vs (ns.map .int)
  | _, _, .nil => .nil
  | _, _, .cons n t r => .cons (.int n t) (rda_of_ints r)
section
variable {c : Cx} {A : Around} {env : Env} {ρ : List (Str × PyData)}
/-- a state of which only new objects and numbers were made -/
theorem gr_of {g : Heap} {s : Shared} {h' : Heap} {tk : Nat} (k : g.StaysIn s.heap) (st : s.heap.StaysIn h') : Gr g s g { s with heap := h', toks := tk } := ⟨stays_refl _, stays_trans k st, st, fun _ _ e => .inl e, _, _, rfl⟩
theorem ev_lenB {e : Expr} {p pos : Pos} {ds : List PyData} {n : Int} (hx : GN c (Str.ofString "len") (.builtin "len")) (hk : env.kindOf (Str.ofString "len") = some .globalImplicit) (h : Ev c A env ρ e (bareD ds)) (hl : ds.length < 2 ^ 62) (hn : n = ds.length)
    (he : starEach [e] env = (false, eval e env) :: starEach [] env := by rfl) : Ev c A env ρ (.Call (.Name (Str.ofString "len") p) [e] [] pos) (.int n) := by
  refine ev_callb hx hk (evs_cons h evs_nil he) (fun g s vs Q E hg k r hQ => ?_) he rfl
  have zq := rdC r; clear r; obtain ⟨_, _, rfl, r, r'⟩ := zq
  first | (obtain ⟨_, rfl⟩ := rdI r') | (obtain ⟨_, rfl⟩ := rdS r') | (obtain rfl := rdN r') | cases r'
  have zq := r; clear r; refine rdU zq fun a o vs n ev e hc hd r => ?_
  subst ev
  have hz := r.length
  rw [Array.length_toList] at hz
  refine len_list (isList_of k e hc hd) (by lia) ?_
  rw [hz, ← hn]
  exact hQ _ _ _ (Gr.toks k _) (.int _ _)
theorem op_itemB {ds : List PyData} {k : Nat} {d : PyData} (hd : ds[k]? = some d) (h2 : (k : Int) < 2 ^ 62) : Op2 c A getItem (bareD ds) (.int k) d := by
  intro g s v₁ v₂ Q E hg kk r₁ r₂ hQ
  first | (obtain ⟨_, rfl⟩ := rdI r₂) | (obtain ⟨_, rfl⟩ := rdS r₂) | (obtain rfl := rdN r₂) | cases r₂
  have zq := r₁; clear r₁; refine rdU zq fun a o vs n ev e hc hdd r => ?_
  subst ev
  obtain ⟨v, hv, rv⟩ := r.get hd
  rw [Array.getElem?_toList] at hv
  exact wpAny_getItem_list (isList_of kk e hc hdd) (by lia) (by lia) (by simpa using hv) (hQ _ _ _ (Gr.refl kk) rv)
theorem ev_itemB {value slice : Expr} {pos : Pos} {ds : List PyData} {k : Nat} {d : PyData} (h₁ : Ev c A env ρ value (bareD ds)) (h₂ : Ev c A env ρ slice (.int k)) (hd : ds[k]? = some d) (hk : (k : Int) < 2 ^ 62)
    (hs : ∀ o i, subscripted slice false o i = operate [o, i] (getItem o i) := by intro _ _; with_unfolding_all rfl) : Ev c A env ρ (.Subscript value slice pos) d := by
  intro g s Q E hg S hQ
  refine Subscript_ (h₁.tk g s _ _ hg S fun v₁ g₁ s₁ G₁ r₁ t₁ => h₂ g₁ s₁ _ _ (stays_trans hg G₁.gg) (S.grow G₁ t₁) fun v₂ g₂ s₂ G₂ r₂ => ?_)
  have r₁' := r₁.mono G₂.gg
  refine rdU r₁' fun a o vs n ev e hc hdd r => ?_
  subst ev
  refine tail_any (T := "list") ⟨_, G₂.gs _ _ e, hc⟩ slot_list_getitem.lookup ?_ (hs _ _)
  exact op_itemB (c := c) hd hk g₂ s₂ _ v₂ _ _ (stays_trans hg (stays_trans G₁.gg G₂.gg)) G₂.gs r₁' r₂ fun v g₃ s₃ G₃ r₃ => hQ v g₃ s₃ ((G₁.trans G₂).trans G₃) r₃
theorem ev_sum {e : Expr} {p pos : Pos} {ns : List Int} (hh : A.handled = none) (hx : GN c (Str.ofString "sum") (.builtin "sum")) (hk : env.kindOf (Str.ofString "sum") = some .globalImplicit) (h : Ev c A env ρ e (.list (ns.map .int)))
    (he : starEach [e] env = (false, eval e env) :: starEach [] env := by rfl) : Ev c A env ρ (.Call (.Name (Str.ofString "sum") p) [e] [] pos) (.int ns.sum) := by
  refine ev_callb hx hk (evs_cons h evs_nil he) (fun g s vs Q E hg k r hQ => ?_) he rfl
  have zq := rdC r; clear r; obtain ⟨_, _, rfl, r, r'⟩ := zq
  first | (obtain ⟨_, rfl⟩ := rdI r') | (obtain ⟨_, rfl⟩ := rdS r') | (obtain rfl := rdN r') | cases r'
  generalize hds : ns.map PyData.int = ds at r
  have zq := r; clear r; refine rdL zq fun a o vs n ev e hc hd hp r => ?_
  subst ev
  subst hds
  have hi := rda_ints r
  obtain ⟨xs, exs⟩ := hi.allInts.items
  have evs : vs = intItems xs := by rw [← exs]
  subst evs
  have hnum := hi.numsOf
  refine sum_intListG hh (isList_of k e hc hd) fun h' tk t' hk' => ?_
  have e2 : preSum (numAt xs) xs.size = ns.sum := by
    rw [preSum_eq, List.take_of_length_le (by simp)]
    rw [nums_intItems] at hnum
    rw [hnum]
  rw [e2]
  exact hQ _ _ _ (gr_of k hk') (.int _ _)

/-! methods of built-in kinds -/
noncomputable def GM (c : Cx) (A : Around) (d : PyData) (name : Str) (id : String) : Prop :=
  ∀ (g : Heap) (s : Shared) (v : Value) (pl : Sem Bool) (Q : Value × List Value → Shared → Prop) (E : Value → Shared → Prop), g.StaysIn s.heap → Rd g v d → Q (.builtin id, [v]) s → wpAny (model c.prog c.w) A (getMethod v name pl) Q E s
theorem ev_meth1 {o e : Expr} {name : Str} {id : String} {apos pos : Pos} {d₀ d₁ d : PyData} {pl : Sem Bool} (h₀ : Ev c A env ρ o d₀) (hm : GM c A d₀ name id) (h₁ : Ev c A env ρ e d₁) (h : Op2 c A (fun a b => call (.builtin id) [a, b]) d₀ d₁ d)
    (he : eval (.Call (.Attribute o name apos) [e] [] pos) env = (do
      let ov ← eval o env
      standAt apos.atName
      let (f, first) ← holding [ov] (getMethod ov name pl)
      callWith pos f first (backTo pos (starEach [e] env)) []) := by rfl)
    (he2 : starEach [e] env = (false, eval e env) :: starEach [] env := by rfl) : Ev c A env ρ (.Call (.Attribute o name apos) [e] [] pos) d := by
  intro g s Q E hg S hQ
  refine MethodCall_ (pl := pl) (h₀.tk g s _ _ hg S fun v₀ g₁ s₁ G₁ r₀ t₁ => hm g₁ s₁ v₀ pl _ _ G₁.gs r₀ ?_) he
  refine callWith_method1 ?_ he2 rfl
  refine evs_cons h₁ evs_nil he2 pos g₁ s₁ _ _ (stays_trans hg G₁.gg) (S.grow G₁ t₁) fun vs g₂ s₂ G₂ r₂ => ?_
  have zq := rdC r₂; clear r₂; obtain ⟨_, _, rfl, r₂, r'⟩ := zq
  first | (obtain ⟨_, rfl⟩ := rdI r') | (obtain ⟨_, rfl⟩ := rdS r') | (obtain rfl := rdN r') | cases r'
  exact h g₂ s₂ v₀ _ _ _ (stays_trans hg (stays_trans G₁.gg G₂.gg)) G₂.gs (r₀.mono G₂.gg) r₂ fun v g₃ s₃ G₃ r₃ => hQ v g₃ s₃ ((G₁.trans G₂).trans G₃) r₃
theorem gm_startswith {x : Str} : GM c A (.str x) "startswith" "str.startswith" := fun g s v pl Q E k r h => by obtain ⟨_, rfl⟩ := rdS r; exact PySem.GM.startswith h
theorem gm_endswith {x : Str} : GM c A (.str x) "endswith" "str.endswith" := fun g s v pl Q E k r h => by obtain ⟨_, rfl⟩ := rdS r; exact PySem.GM.endswith h
theorem op_startswith {x y : Str} : Op2 c A (fun a b => call (.builtin "str.startswith") [a, b]) (.str x) (.str y) (.bool (Txt.startswith x y)) := op2S fun g s t u Q E k hQ =>
  SC.startswith (hQ _ _ _ (Gr.refl k) (.bool _))
theorem op_endswith {x y : Str} : Op2 c A (fun a b => call (.builtin "str.endswith") [a, b]) (.str x) (.str y) (.bool (Txt.endswith x y)) := op2S fun g s t u Q E k hQ =>
  SC.endswith (hQ _ _ _ (Gr.refl k) (.bool _))

theorem strs_rda {g : Heap} : ∀ {l : List (Str × Tok)}, RdA g (strValues l) (l.map fun p => .str p.1)
  | [] => .nil
  | (x, t) :: r => .cons (.str x t) strs_rda
theorem gm_split {x : Str} : GM c A (.str x) "split" "str.split" := fun g s v pl Q E k r h => by cases r; exact PySem.GM.split h
theorem op_split {x y : Str} (hy : (y.length == 0) = false) (h1 : (decide (x.length < y.length) || decide (Builtin.Str.strKind x < Builtin.Str.strKind y)) = false) (hf : (Builtin.Str.occurrences x y 0 x.length (x.length + 1)).isEmpty = false) (hsz : x.length ≤ sizeLine)
    (hsz2 : (Builtin.Str.partsBetween x (Builtin.Str.occurrences x y 0 x.length (x.length + 1)) y.length).length ≤ sizeLine) :
    Op2 c A (fun a b => call (.builtin "str.split") [a, b]) (.str x) (.str y) (.list ((Txt.split x y).map .str)) := fun g s v w Q E hg k r₁ r₂ hQ => by
  obtain ⟨t, rfl⟩ := rdS r₁
  obtain ⟨u, rfl⟩ := rdS r₂
  refine call_meets F.slot_str_split (typeIs_str _ _ _) F.entry_str_split (F.args_str_split_2 _ _) (meets_str_split_sep x y t u h1 hy hf hsz hsz2) ?_
  show wants Q E _ { s with toks := _, heap := s.heap.push { cls := .type "list", data := .seq (strsFrom s.toks (Builtin.Str.partsBetween x (Builtin.Str.occurrences x y 0 x.length (x.length + 1)) y.length)).toArray } }
  rw [strsFrom_eq]
  obtain ⟨g', G, eg⟩ := grow1 k { cls := .type "list", data := .seq (strValues (numbered s.toks (Builtin.Str.partsBetween x (Builtin.Str.occurrences x y 0 x.length (x.length + 1)) y.length))).toArray } rfl (s.toks + (Builtin.Str.partsBetween x (Builtin.Str.occurrences x y 0 x.length (x.length + 1)) y.length).length)
  have e2 : (numbered s.toks (Builtin.Str.partsBetween x (Builtin.Str.occurrences x y 0 x.length (x.length + 1)) y.length)).map (·.1) = Txt.split x y := (numbered_texts _ _).trans ((if_neg (ne_true_of_eq_false h1)).trans (if_neg (ne_true_of_eq_false hf))).symm
  refine hQ _ g' _ G (.list eg rfl rfl rfl ?_)
  rw [← e2, List.map_map]
  exact strs_rda
theorem op_add_list {xs ys : List PyData} (hl : xs.length + ys.length ≤ sizeLine) : Op2 c A (binaryOp .Add) (.list xs) (.list ys) (.list (xs ++ ys)) := fun g s v w Q E hg k r₁ r₂ hQ => by
  have zq := r₁; clear r₁; refine rdL zq fun a o vs n ev e hc hd hp r => ?_
  subst ev
  have zq := r₂; clear r₂; refine rdL zq fun a₂ o₂ vs₂ n₂ ev e₂ hc₂ hd₂ hp₂ r₂ => ?_
  subst ev
  obtain ⟨cls, dd, data, sl⟩ := o
  obtain ⟨cls2, dd2, data2, sl2⟩ := o₂
  simp only at hc hd hc₂ hd₂
  subst hc hd hc₂ hd₂
  have z₁ := r.length
  have z₂ := r₂.length
  rw [Array.length_toList] at z₁ z₂
  obtain ⟨g', G, eg⟩ := grow1 k { cls := .type "list", data := .seq (vs ++ vs₂) } rfl s.toks
  refine concat_meets ⟨_, k _ _ e, rfl⟩ ⟨_, k _ _ e₂, rfl⟩ noFill_list_add seq_list_add PySem.F.slot_list_add PySem.F.entry_list_add (PySem.F.args_list_add_2 _ _) (list_addW a a₂ vs vs₂ n n₂ dd dd2 sl sl2 (by lia)) ⟨k _ _ e, k _ _ e₂, ?_⟩
  exact hQ _ g' _ G (.list eg rfl rfl rfl (by rw [Array.toList_append]; exact (r.append r₂).mono G.gg))
theorem op_notIn_list {xs : List PyData} {d : PyData} (h₁ : PyData.canLayAll0 xs = true) (h₂ : d.canLay0 = true) (hu : A.units + 1 + min (PyData.depthAll xs) d.depth < cLine) (f₁ : flats xs = true) (f₂ : flat d = true) :
    Op2 c A (compareOp .NotIn) d (.list xs) (.bool (!xs.any fun y => PyData.eqv y d)) := fun g s v w Q E hg k r₁ r₂ hQ => by
  obtain ⟨_, q₁⟩ := (r₁.mono k).reads f₂
  obtain ⟨_, q₂⟩ := (r₂.mono k).reads (by simpa [flat] using f₁)
  exact SeqAt.notIn_list_reads q₂ q₁ h₁ h₂ hu (hQ _ _ _ (Gr.refl k) (.bool _))
theorem op_in_list {xs : List PyData} {d : PyData} (h₁ : PyData.canLayAll0 xs = true) (h₂ : d.canLay0 = true) (hu : A.units + 1 + min (PyData.depthAll xs) d.depth < cLine) (f₁ : flats xs = true) (f₂ : flat d = true) :
    Op2 c A (compareOp .In) d (.list xs) (.bool (xs.any fun y => PyData.eqv y d)) := fun g s v w Q E hg k r₁ r₂ hQ => by
  obtain ⟨_, q₁⟩ := (r₁.mono k).reads f₂
  obtain ⟨_, q₂⟩ := (r₂.mono k).reads (by simpa [flat] using f₁)
  exact SeqAt.in_list_reads q₂ q₁ h₁ h₂ hu (hQ _ _ _ (Gr.refl k) (.bool _))
theorem gm_count {xs : List PyData} : GM c A (.list xs) "count" "list.count" := fun g s v pl Q E k r h => by
  have zq := r; clear r; refine rdL zq fun a o vs n ev e hc hd hp r => ?_
  subst ev
  exact getMethod_list_of PySem.F.slot_list_count PySem.F.type_list_count (isList_of k e hc hd) ⟨o, k _ _ e, hp⟩ h
theorem op_count {ns : List Int} {k : Int} : Op2 c A (fun a b => call (.builtin "list.count") [a, b]) (.list (ns.map .int)) (.int k) (.int (ns.count k : Nat)) := fun g s v w Q E hg kk r₁ r₂ hQ => by
  generalize hds : ns.map PyData.int = ds at r₁
  have zq := r₁; clear r₁; refine rdL zq fun a o vs n ev e hc hd hp r => ?_
  subst ev
  first | (obtain ⟨_, rfl⟩ := rdI r₂) | (obtain ⟨_, rfl⟩ := rdS r₂) | (obtain rfl := rdN r₂) | cases r₂
  subst hds
  exact count_list_ints (isList_of kk e hc hd) (rda_ints r) (hQ _ _ _ (Gr.toks kk _) (.int _ _))
theorem ev_sorted {e : Expr} {p pos : Pos} {ns ms : List Int} (hx : GN c (Str.ofString "sorted") (.builtin "sorted")) (hk : env.kindOf (Str.ofString "sorted") = some .globalImplicit) (h : Ev c A env ρ e (.list (ns.map .int))) (h64 : ns.length < 64) (hm : ms.Perm ns) (hs : ms.Pairwise (· ≤ ·))
    (he : starEach [e] env = (false, eval e env) :: starEach [] env := by rfl) : Ev c A env ρ (.Call (.Name (Str.ofString "sorted") p) [e] [] pos) (.list (ms.map .int)) := by
  refine ev_callb hx hk (evs_cons h evs_nil he) (fun g s vs Q E hg k r hQ => ?_) he rfl
  have zq := rdC r; clear r; obtain ⟨_, _, rfl, r, r'⟩ := zq
  first | (obtain ⟨_, rfl⟩ := rdI r') | (obtain ⟨_, rfl⟩ := rdS r') | (obtain rfl := rdN r') | cases r'
  generalize hds : ns.map PyData.int = ds at r
  have zq := r; clear r; refine rdL zq fun a o vs n ev e hc hd hp r => ?_
  subst ev
  subst hds
  have hz := r.length
  rw [List.length_map] at hz
  refine sorted_ints (vs := vs.toList) (isList_of k e hc hd) (rda_ints r) (by lia) fun out ns' hi hp' hs' => ?_
  have e2 : ns' = ms := List.Perm.eq_of_pairwise (le := (· ≤ ·)) (fun a b _ _ h1 h2 => Int.le_antisymm h1 h2) hs' hs (hp'.trans hm.symm)
  subst e2
  obtain ⟨n', hn'⟩ := sortedAll_at s.heap vs.toList out
  obtain ⟨g', G, hgr⟩ := grow (h' := sortedAll s.heap vs.toList out) k (fun _ _ => sortedAll_old) s.toks
  refine hQ _ g' _ G (.list (hgr _ _ ?_ hn') rfl rfl rfl (rda_of_ints hi))
  cases q : s.heap.get? (s.heap.objs.size + 1) with
  | none => rfl
  | some o' => exact absurd (Nat.lt_of_succ_lt (Heap.lt_size q)) (Nat.lt_irrefl _)
end
end Mine
end
/-! ## B10 -/
section
open PySem PySem.W PySem.Calls PyProof.Rows
set_option maxRecDepth 100000
namespace Mine
section
variable {prog : Program} {w : World} {A : Around} {E : Value → Shared → Prop} {s : Shared}
theorem adjust_upto (a n : Nat) (ha : a ≤ n) : Builtin.Slice.sliceAdjust none (some (a : Int)) 1 (n : Int) = (0, (a : Int)) := by
  unfold Builtin.Slice.sliceAdjust
  have h1 : ¬ ((1 : Int) < 0) := by lia
  have h2 : ¬ ((a : Int) < 0) := by lia
  simp only [h1, h2, if_false]
  congr 1
  lia
theorem places_upto (a : Nat) : Builtin.Slice.slicePlaces 0 (a : Int) 1 = a := by
  unfold Builtin.Slice.slicePlaces
  have h1 : (1 : Int) > 0 := by lia
  simp only [h1, if_true, Int.ediv_one]
  split <;> lia
theorem sliceApplied_upto {sl : Addr} {a n : Nat} {u : Tok} {Q : Int × Int × Nat → Shared → Prop} (hs : s.heap.IsSliceOf sl .none (.int a u) .none) (ha : a ≤ n) (h : Q (0, 1, a) s) :
    wpAny (model prog w) A (Builtin.Slice.sliceApplied (.ref sl) (pure (n : Int))) Q E s := by
  obtain ⟨os, hos, hcs, hds⟩ := id hs
  unfold Builtin.Slice.sliceApplied Builtin.Slice.sliceFields
  refine wpAny_bind (wpAny_bind (wpAny_field hos hds (x := .none) rfl (wpAny_bind (wpAny_field hos hds (x := .int a u) rfl (wpAny_bind (wpAny_field hos hds (x := .none) rfl (wpAny_pure ?_)))))))
  refine wpAny_bind (slicePart_none ?_)
  show wpAny _ _ (if ((1 : Int) == 0) = true then _ else _) _ _ s
  rw [if_neg (by decide)]
  refine wpAny_bind (slicePart_none (wpAny_bind (slicePart_int (wpAny_bind (wpAny_pure ?_)))))
  show wpAny _ _ (match Builtin.Slice.sliceAdjust none (some (a : Int)) 1 (n : Int) with | (lo, hi) => pure (lo, (1 : Int), Builtin.Slice.slicePlaces lo hi 1)) _ _ s
  rw [adjust_upto a n ha]
  show wpAny _ _ (pure ((0 : Int), (1 : Int), Builtin.Slice.slicePlaces 0 (a : Int) 1)) _ _ s
  rw [places_upto a]
  exact wpAny_pure h
theorem pick_upto (xs : Array Value) (a : Nat) : ((List.range a).filterMap fun (k : Nat) => xs[((0 : Int) + (k : Int) * 1).toNat]?).toArray = (xs.toList.take a).toArray := by
  have e : (fun (k : Nat) => xs[((0 : Int) + (k : Int) * 1).toNat]?) = fun k => xs[0 + k]? := by
    funext k
    have : ((0 : Int) + (k : Int) * 1).toNat = 0 + k := by lia
    rw [this]
  rw [e]
  have := pick_run xs 0 a
  rw [List.filterMap_map] at this
  have e2 : ((fun x => xs[x]?) ∘ fun x => 0 + x) = fun k => xs[0 + k]? := rfl
  rw [e2] at this
  rw [this, List.drop_zero]
theorem getItem_tuple_upto {t sl : Addr} {items : Array Value} {a : Nat} {u : Tok} {Q : Value → Shared → Prop} (ht : IsTup s.heap t items) (hs : s.heap.IsSliceOf sl .none (.int a u) .none) (ha : a < items.size)
    (h : Q (.ref s.heap.objs.size) { s with heap := s.heap.push { cls := .type "tuple", data := .seq (items.toList.take a).toArray } })
    (hsz : items.size ≤ sizeLine) : wpAny (model prog w) A (getItem (.ref t) (.ref sl)) Q E s := by
  have hdrop : sizeOk (.seq (items.toList.take a).toArray) := by
    show (items.toList.take a).toArray.size ≤ sizeLine
    rw [List.size_toArray, List.length_take, Array.length_toList]
    lia
  obtain ⟨os, hos, hcs, hds⟩ := id hs
  have hTs : s.TypeIs (.ref sl) "slice" := ⟨os, hos, hcs⟩
  unfold getItem
  try with_reducible refine wpAny_holding ?_
  first | refine wpAny_bind (wpAny_pure ?_) | skip
  refine wpAny_bind (wpAny_sequenceKey ht.typeIs (by decide) ?_)
  refine wpAny_bind (wpAny_callSpecial?_slot (name := Str.ofString "__getitem__") ht.typeIs slot_tuple_getitem
    (wpAny_call_entry slot_tuple_getitem ht.typeIs entry_tuple_getitem ?_ (args_tuple_getitem _ _)))
  show wpAny _ _ (Builtin.Tuple.tupleItemsOf (.ref t) >>= _) _ _ s
  refine wpAny_bind (tupleItemsOf_ ht ?_)
  refine wpAny_bind (wpAny_typeOf hTs ?_)
  rw [if_pos (by decide)]
  refine wpAny_bind (sliceApplied_upto hs (Nat.le_of_lt ha) ?_)
  have hno : ¬ (((0 : Int) == 0 && (1 : Int) == 1 && a == items.size) = true) := by
    have : (a == items.size) = false := by rw [beq_eq_false_iff_ne]; lia
    rw [this]; simp
  show wpAny _ _ (if ((0 : Int) == 0 && (1 : Int) == 1 && a == items.size) = true then _ else _) _ _ s
  rw [if_neg hno, pick_upto items a]
  first
    | exact wpAny_bind (m := Builtin.Tuple.tupleExact _) (wpAny_newObj_type (wpAny_pure ⟨_, rfl, wpAny_pure h⟩) hdrop)
    | exact wpAny_bind (m := Builtin.Tuple.tupleExact _) (wpAny_newObj_type (wpAny_bind (wpAny_pure (wpAny_pure ⟨_, rfl, wpAny_pure h⟩))) hdrop)
    | exact wpAny_bind (wpAny_bind (m := Builtin.Tuple.tupleExact _) (wpAny_newObj_type (wpAny_pure (wpAny_pure ⟨_, rfl, wpAny_pure h⟩)) hdrop))
    | exact wpAny_bind (wpAny_bind (m := Builtin.Tuple.tupleExact _) (wpAny_newObj_type (wpAny_pure ⟨_, rfl, wpAny_pure h⟩) hdrop))
end
section
variable {c : Cx} {A : Around} {env : Env} {ρ : List (Str × PyData)}
theorem ev_upto_tuple {value : Expr} {up : Expr} {p pos : Pos} {ds : List PyData} {n : Nat} (h₁ : Ev c A env ρ value (.tuple ds)) (h₂ : Ev c A env ρ up (.int n)) (hl : ds.length ≤ sizeLine) (hn : n < ds.length)
    (ht : ∀ o r, letTemporaryGo value o r = pure () := by intro _ _; rfl) :
    Ev c A env ρ (.Subscript value (.Slice none (some up) none p) pos) (.tuple (ds.take n)) := by
  intro g s Q E hg S hQ
  refine wpAny_Subscript_Slice (T := "tuple") slot_tuple_getitem.lookup (h₁.tk g s _ _ hg S fun v₁ g₁ s₁ G₁ r₁ t₁ => wpAny_Slice ?_) ht
  rw [evalPart_none]
  refine wpAny_pure ?_
  rw [evalPart_some]
  refine h₂.tk g₁ s₁ _ _ (stays_trans hg G₁.gg) (S.grow G₁ t₁) fun v₂ g₂ s₂ G₂ r₂ t₂ => ?_
  obtain ⟨u, rfl⟩ := rdI r₂
  refine wpAny_pure ?_
  have zq := r₁; clear r₁; refine rdT zq fun a o vs m ev e hc hd r => ?_
  subst ev
  have hz := r.length
  rw [Array.length_toList] at hz
  have e2 := G₂.gs _ _ (G₂.gg _ _ e)
  have ht' : IsTup (s₂.heap.push { cls := .type "slice", data := .fields #[.none, .int (n : Int) u, .none] }) a vs := ⟨o, Heap.get?_push_of_some _ e2, hc, m, hd⟩
  refine ⟨ht'.typeIs, getItem_tuple_upto ht' (Heap.IsSliceOf.new ..) (by lia) ?_ (by lia)⟩
  obtain ⟨g₃, G₃, hget⟩ := grow2 G₂.gs { cls := .type "slice", data := .fields #[Value.none, .int (n : Int) u, .none] } { cls := .type "tuple", data := .seq (vs.toList.take n).toArray } rfl s₂.toks
  rw [Heap.size_push]
  refine hQ _ g₃ _ ((G₁.trans G₂).trans G₃) (.tuple hget rfl rfl ?_)
  exact (r.take n).mono (stays_trans G₂.gg G₃.gg)
theorem ev_slice_str {value : Expr} {lo up : Expr} {p pos : Pos} {x : Str} {i j : Int} (h₁ : Ev c A env ρ value (.str x)) (h₂ : Ev c A env ρ lo (.int i)) (h₃ : Ev c A env ρ up (.int j)) (hl : x.length ≤ sizeLine)
    (ht : ∀ o r, letTemporaryGo value o r = pure () := by intro _ _; rfl) :
    Ev c A env ρ (.Subscript value (.Slice (some lo) (some up) none p) pos) (.str (Txt.slice x (some i) (some j))) := by
  intro g s Q E hg S hQ
  refine wpAny_Subscript_str_slice (h₁.tk g s _ _ hg S fun v₁ g₁ s₁ G₁ r₁ t₁ => ?_) ht
  rw [evalPart_some]
  refine h₂.tk g₁ s₁ _ _ (stays_trans hg G₁.gg) (S.grow G₁ t₁) fun v₂ g₂ s₂ G₂ r₂ t₂ => ?_
  rw [evalPart_some]
  refine h₃ g₂ s₂ _ _ (stays_trans hg (stays_trans G₁.gg G₂.gg)) ((S.grow G₁ t₁).grow G₂ t₂) fun v₃ g₃ s₃ G₃ r₃ => ?_
  obtain ⟨t, rfl⟩ := rdS r₁
  obtain ⟨u, rfl⟩ := rdI r₂
  obtain ⟨w, rfl⟩ := rdI r₃
  refine ⟨x, t, some (i, u), some (j, w), rfl, rfl, rfl, post_val_or_str ⟨Nat.le_trans (Txt.slice_le x _ _) hl, fun t' k => ?_⟩⟩
  exact hQ _ g₃ _ (((G₁.trans G₂).trans G₃).trans (gr_of G₃.gs (push_stays _ _))) (.str _ _)
theorem op_iadd {a b : Int} : Op2 c A (inplaceOp .Add) (.int a) (.int b) (.int (a + b)) := op2I fun g s t u Q E k hQ =>
  P.iadd_int (hQ _ _ _ (Gr.toks k _) (.int _ _))
theorem op_imod {a b : Int} (hb : b ≠ 0) : Op2 c A (inplaceOp .Mod) (.int a) (.int b) (.int (a.fmod b)) := op2I fun g s t u Q E k hQ =>
  imod_int hb (hQ _ _ _ (Gr.toks k _) (.int _ _))
theorem op_ifloordiv {a b : Int} (hb : b ≠ 0) (hl : b.natAbs.log2 < 9000) : Op2 c A (inplaceOp .FloorDiv) (.int a) (.int b) (.int (a.fdiv b)) := op2I fun g s t u Q E k hQ =>
  ifloordiv_int hb (hQ _ _ _ (Gr.toks k _) (.int _ _)) (.inl (PyProof.noPylong_of_log2 hl))
theorem op_add_tuple {xs ys : List PyData} (hl : xs.length + ys.length ≤ sizeLine) (hx : xs ≠ []) (hy : ys ≠ []) : Op2 c A (binaryOp .Add) (.tuple xs) (.tuple ys) (.tuple (xs ++ ys)) := fun g s v w Q E hg k r₁ r₂ hQ => by
  have zq := r₁; clear r₁; refine rdT zq fun a o vs n ev e hc hd r => ?_
  subst ev
  have zq := r₂; clear r₂; refine rdT zq fun a₂ o₂ vs₂ n₂ ev e₂ hc₂ hd₂ r₂ => ?_
  subst ev
  obtain ⟨cls, dd, data, sl⟩ := o
  obtain ⟨cls2, dd2, data2, sl2⟩ := o₂
  simp only at hc hd hc₂ hd₂
  subst hc hd hc₂ hd₂
  have z₁ := r.length
  have z₂ := r₂.length
  rw [Array.length_toList] at z₁ z₂
  have p₁ := List.length_pos_iff.mpr hx
  have p₂ := List.length_pos_iff.mpr hy
  obtain ⟨g', G, eg⟩ := grow1 k { cls := .type "tuple", data := .seq (vs ++ vs₂) } rfl s.toks
  refine concat_meets ⟨_, k _ _ e, rfl⟩ ⟨_, k _ _ e₂, rfl⟩ noFill_tuple_add seq_tuple_add PySem.F.slot_tuple_add PySem.F.entry_tuple_add (PySem.F.args_tuple_add_2 _ _) (tuple_addW2 a a₂ vs vs₂ n n₂ dd dd2 sl sl2 (by rw [Array.isEmpty_iff_size_eq_zero]; lia) (by rw [Array.isEmpty_iff_size_eq_zero]; lia) (by lia)) ⟨k _ _ e, k _ _ e₂, ?_⟩
  exact hQ _ g' _ G (.tuple eg rfl rfl (by rw [Array.toList_append]; exact (r.append r₂).mono G.gg))
end
end Mine
end
/-! ## B11 -/
section
open PySem PySem.W PySem.Calls PyProof.Rows
set_option maxRecDepth 100000
namespace Mine
section
variable {c : Cx} {A : Around} {env : Env} {ρ : List (Str × PyData)}
theorem cp_map {envC : Addr → Env} {x : Str} {p : Pos} {elt : Expr} {ρc : List (Str × PyData)} (f : PyData → PyData) (hx : ∀ C, (envC C).kindOf x = some .local) (hp : ∀ C, ((envC C).scope.kind == .class || ((envC C).scope.kind == .module && (envC C).locals != (envC C).globals)) = false) :
    ∀ {ds : List PyData}, (∀ d ∈ ds, ∀ C, Ev c A (envC C) ((x, d) :: ρc) elt (f d)) → Cp c A envC (.Name x p) [] elt ρc ds (ds.map f)
  | [], _ => .nil
  | d :: ds, h => .keep [(x, d)] (fun C => bdc_name (hx C) (hp C)) (fun C => ifs_nil) (fun C => h d (.head _) C) (cp_map f hx hp fun e he => h e (.tail _ he))
theorem cp_filter {envC : Addr → Env} {x : Str} {p : Pos} {elt t : Expr} {ρc : List (Str × PyData)} (f : PyData → PyData) (q : PyData → Bool) (hx : ∀ C, (envC C).kindOf x = some .local) (hp : ∀ C, ((envC C).scope.kind == .class || ((envC C).scope.kind == .module && (envC C).locals != (envC C).globals)) = false) :
    ∀ {ds : List PyData}, (∀ d ∈ ds, ∀ C, Tr c A (envC C) ((x, d) :: ρc) t (q d)) → (∀ d ∈ ds, q d = true → ∀ C, Ev c A (envC C) ((x, d) :: ρc) elt (f d)) → Cp c A envC (.Name x p) [t] elt ρc ds ((ds.filter q).map f)
  | [], _, _ => .nil
  | d :: ds, ht, h => by
    have ih := cp_filter (p := p) f q hx hp (ds := ds) (fun e he => ht e (.tail _ he)) (fun e he => h e (.tail _ he))
    cases hq : q d with
    | true =>
      rw [List.filter_cons_of_pos hq, List.map_cons]
      exact .keep [(x, d)] (fun C => bdc_name (hx C) (hp C)) (fun C => ifs_one (hq ▸ ht d (.head _) C)) (fun C => h d (.head _) hq C) ih
    | false =>
      rw [List.filter_cons_of_neg (by simp [hq])]
      exact .drop [(x, d)] (fun C => bdc_name (hx C) (hp C)) (fun C => ifs_one (hq ▸ ht d (.head _) C)) ih
theorem cp_pairs {envC : Addr → Env} {x y : Str} {p q pos : Pos} {k} {elt : Expr} {ρc : List (Str × PyData)} {α : Type} (a b : α → PyData) (f : α → PyData) (hh : A.handled = none) (hxy : x ≠ y) (hx : ∀ C, (envC C).kindOf x = some .local) (hy : ∀ C, (envC C).kindOf y = some .local)
    (hp : ∀ C, ((envC C).scope.kind == .class || ((envC C).scope.kind == .module && (envC C).locals != (envC C).globals)) = false) :
    ∀ {l : List α}, (∀ d ∈ l, ∀ C, Ev c A (envC C) ([(x, a d), (y, b d)] ++ ρc) elt (f d)) → Cp c A envC (.Tuple [.Name x p, .Name y q] k pos) [] elt ρc (l.map fun d => .tuple [a d, b d]) (l.map f)
  | [], _ => .nil
  | d :: ds, h => .keep [(x, a d), (y, b d)] (fun C => bdc_pair hh hxy (hx C) (hy C) (hp C)) (fun C => ifs_nil) (fun C => h d (.head _) C) (cp_pairs a b f hh hxy hx hy hp fun e he => h e (.tail _ he))
theorem cp_pairs_if {envC : Addr → Env} {x y : Str} {p q pos : Pos} {k} {elt t : Expr} {ρc : List (Str × PyData)} {α : Type} (a b : α → PyData) (f : α → PyData) (w : α → Bool) (hh : A.handled = none) (hxy : x ≠ y) (hx : ∀ C, (envC C).kindOf x = some .local) (hy : ∀ C, (envC C).kindOf y = some .local)
    (hp : ∀ C, ((envC C).scope.kind == .class || ((envC C).scope.kind == .module && (envC C).locals != (envC C).globals)) = false) :
    ∀ {l : List α}, (∀ d ∈ l, ∀ C, Tr c A (envC C) ([(x, a d), (y, b d)] ++ ρc) t (w d)) → (∀ d ∈ l, ∀ C, Ev c A (envC C) ([(x, a d), (y, b d)] ++ ρc) elt (f d)) → Cp c A envC (.Tuple [.Name x p, .Name y q] k pos) [t] elt ρc (l.map fun d => .tuple [a d, b d]) ((l.filter w).map f)
  | [], _, _ => .nil
  | d :: ds, ht, h => by
    have ih := cp_pairs_if (p := p) (q := q) (pos := pos) (k := k) a b f w hh hxy hx hy hp (l := ds) (fun e he => ht e (.tail _ he)) (fun e he => h e (.tail _ he))
    cases hq : w d with
    | true =>
      rw [List.filter_cons_of_pos hq, List.map_cons, List.map_cons]
      exact .keep [(x, a d), (y, b d)] (fun C => bdc_pair hh hxy (hx C) (hy C) (hp C)) (fun C => ifs_one (hq ▸ ht d (.head _) C)) (fun C => h d (.head _) C) ih
    | false =>
      rw [List.filter_cons_of_neg (by simp [hq]), List.map_cons]
      exact .drop [(x, a d), (y, b d)] (fun C => bdc_pair hh hxy (hx C) (hy C) (hp C)) (fun C => ifs_one (hq ▸ ht d (.head _) C)) ih
theorem Cp.cast {envC : Addr → Env} {tgt elt : Expr} {ifs : List Expr} {ρc : List (Str × PyData)} {ds rs rs' : List PyData} (e : rs' = rs) (h : Cp c A envC tgt ifs elt ρc ds rs') : Cp c A envC tgt ifs elt ρc ds rs := e ▸ h
noncomputable def CapAll (env : Env) (scope : Scope) (cl : List (Str × Addr)) (ρ : List (Str × PyData)) : List (Str × PyData) → Prop
  | [] => True
  | p :: r => (ρ.lookup p.1 = some p.2 ∧ Cap env scope cl p.1) ∧ CapAll env scope cl ρ r
theorem caps {env : Env} {scope : Scope} {cl : List (Str × Addr)} {ρ : List (Str × PyData)} : ∀ {ρc : List (Str × PyData)}, CapAll env scope cl ρ ρc → ∀ x d, ρc.lookup x = some d → ρ.lookup x = some d ∧ Cap env scope cl x
  | [], _, x, d, e => by cases e
  | p :: r, h, x, d, e => by
    rw [List.lookup_cons] at e
    by_cases hx : x = p.1
    · subst hx
      simp at e
      subst e
      exact h.1
    · rw [beq_eq_false_iff_ne.mpr hx] at e
      exact caps h.2 x d e
end
end Mine
end
/-! ## B12 -/
section
open PySem PySem.W PySem.Calls PyProof.Rows
set_option maxRecDepth 100000
namespace Mine
section
variable {c : Cx} {A : Around} {env : Env} {ν : List (Str × Value)} {ρ : List (Str × PyData)} {ω : List (Addr × PyData)} {o : Po}
theorem FO.nil {g₀ : Heap} {s₀ : Shared} {k g : Heap} {s : Shared} (F : Frm c g₀ s₀ k env ν ρ g s) : FO c env ν ρ [] g₀ s₀ k g s := ⟨F, (fun _ h => nomatch h), List.Pairwise.nil⟩
theorem x1_of {st : Stmt} {ρ' : List (Str × PyData)} (h : XA1 c A env (FO c env ν ρ []) st ⟨FO c env ν ρ' [], fun _ => False, fun _ _ _ _ _ => False⟩) : X1 c A env ν ρ st (.next ρ') := fun g₀ s₀ k g s Q E F hQ =>
  h g₀ s₀ k g s Q E (FO.nil F) ⟨fun g' s' F' => hQ g' s' F'.frm, fun d v g' s' h => h.elim, fun g' s' h => h.elim⟩
theorem x_ret_of {sts : List Stmt} {d : PyData} (h : XA c A env (FO c env ν ρ []) sts ⟨fun _ _ _ _ _ => False, fun d' => d' = d, fun _ _ _ _ _ => False⟩) : X c A env ν ρ sts (.ret d) := fun g₀ s₀ k g s Q E F hQ =>
  h g₀ s₀ k g s Q E (FO.nil F) ⟨fun g' s' F' => F'.elim, fun d' v g' s' e G r => hQ v g' s' G (e ▸ r), fun g' s' h => h.elim⟩
/-- a name bound within a frame with lists of its own -/
theorem wp_storeO {g₀ : Heap} {s₀ : Shared} {k g : Heap} {s : Shared} {x : Str} {v : Value} {d : PyData} {Q : Unit → Shared → Prop} {E : Value → Shared → Prop} (F : FO c env ν ρ ω g₀ s₀ k g s) (r : Rd g v d) (hk : Names env x) (hν : ν.lookup x = none)
    (h : ∀ s', FO c env ν (setρ ρ x d) ω g₀ s₀ k g s' → Q () s') : wpAny (model c.prog c.w) A (storeName env x v) Q E s :=
  wp_store F.grabs r hk hν fun s' F' => h s' (F.ungrab (stays_refl _) F')
theorem xb_name {x : Str} {p : Pos} {d : PyData} {body : List Stmt} (hk : Names env x) (hν : ν.lookup x = none) (h : XA c A env (FO c env ν (setρ ρ x d) ω) body o) : XB c A env (FO c env ν ρ ω) (.Name x p) d body o := fun g₀ s₀ k g s v Q E F r hQ =>
  wpAny_assign_Name (wp_storeO F r hk hν fun s' F' => h g₀ s₀ k g s' Q E F' hQ)
theorem xb_pair {x y : Str} {p q pos : Pos} {kk} {d e : PyData} {body : List Stmt} (hh : A.handled = none) (hk : Names env x) (hν : ν.lookup x = none) (hk' : Names env y) (hν' : ν.lookup y = none) (h : XA c A env (FO c env ν (setρ (setρ ρ x d) y e) ω) body o) : XB c A env (FO c env ν ρ ω) (.Tuple [.Name x p, .Name y q] kk pos) (.tuple [d, e]) body o := fun g₀ s₀ k g s v Q E F r hQ => by
  have zq := r; clear r; refine rdT zq fun a oo vs n ev ho hc hd r => ?_
  subst ev
  obtain ⟨l⟩ := vs
  have zq := rdC r; clear r; obtain ⟨v₁, vs', rfl, r₁, r'⟩ := zq
  have zq := rdC r'; clear r'; obtain ⟨v₂, vs'', rfl, r₂, r''⟩ := zq
  first | (obtain ⟨_, rfl⟩ := rdI r'') | (obtain ⟨_, rfl⟩ := rdS r'') | (obtain rfl := rdN r'') | cases r''
  refine assign_Tuple_tuple hh (isTup_of F.frm.gs ho hc hd) rfl rfl fun h₁ he₁ => ?_
  have st : s.heap.StaysIn h₁ := fun b o' e' => he₁ b o' (Nat.ne_of_lt (Heap.lt_size e')) e'
  have F₁ : FO c env ν ρ ω g₀ s₀ k g { s with heap := h₁ } := F.step (gr_of (tk := s.toks) F.frm.gs st) F.frm.tk
  show wpAny _ A (assignInOrder [assign (.Name x p) env, assign (.Name y q) env] [v₁, v₂]) _ _ _
  unfold assignInOrder
  refine wpAny_bind (wpAny_holding (wpAny_assign_Name (wp_storeO F₁ r₁ hk hν fun s₂ F₂ => ?_)))
  unfold assignInOrder
  refine wpAny_bind (wpAny_holding (wpAny_assign_Name (wp_storeO F₂ r₂ hk' hν' fun s₃ F₃ => ?_)))
  unfold assignInOrder
  exact wpAny_pure (h g₀ s₀ k g s₃ Q E F₃ hQ)
/-- pure statements, one by one -/
theorem xo_cons {st : Stmt} {sts : List Stmt} {ρ' : List (Str × PyData)} (h : X1 c A env ν ρ st (.next ρ')) (hs : XA c A env (FO c env ν ρ' ω) sts o) : XA c A env (FO c env ν ρ ω) (st :: sts) o := xa_cons _ (xo_pure h fun _ _ _ _ _ F => F) hs
theorem xo_of {sts : List Stmt} {ρ' : List (Str × PyData)} (h : X c A env ν ρ sts (.next ρ')) (ho : ∀ g₀ s₀ k g s, FO c env ν ρ' ω g₀ s₀ k g s → o.nx g₀ s₀ k g s) : XA c A env (FO c env ν ρ ω) sts o := fun g₀ s₀ k g s Q E F hQ => by
  obtain ⟨F', b1, b2, b3⟩ := fo_ad.re F
  exact h g s₀ _ g s Q E F'.grabs fun g' s' F₁ => hQ.1 g' s' (ho _ _ _ _ _ (fo_ad.un (F'.ungrab F₁.gg F₁) b3 b1 b2))
/-- a for over data, whose turns are pure -/
theorem x_for {x : Str} {p pos : Pos} {iter : Expr} {body : List Stmt} {ds : List PyData} (ρs : Nat → List (Str × PyData)) (hit : It c A env (ρs 0) iter ds) (hk : Names env x) (hν : ν.lookup x = none)
    (h : ∀ i d, ds[i]? = some d → X c A env ν (setρ (ρs i) x d) body (.next (ρs (i + 1)))) (hs : ∀ x, foldedSetIterable iter env x = pure x := by intro _; rfl) : X1 c A env ν (ρs 0) (.For (.Name x p) iter body [] pos) (.next (ρs ds.length)) :=
  x1_of (xa_for (ds := ds) (fun i => FO c env ν (ρs i) []) (fun _ => fo_ad) fo_ad (fun g₀ s₀ k g s F => ⟨ρs 0, F.frm.bg, F.frm.st, hit⟩)
    (fun i d hd => xb_name hk hν (xo_of (h i d hd) fun _ _ _ _ _ F => F)) (fun _ _ _ _ _ F => F) hs)
end
theorem seq_ok {i : Int} {n : Nat} (h0 : 0 ≤ i) (h1 : i < n) : seqIndex? i n = some i.toNat := by
  unfold seqIndex?
  have e : (if i < 0 then i + (n : Int) else i) = i := if_neg (by lia)
  rw [e]
  simp [h0, h1]
end Mine
end
/-! ## B13 -/
section
open PySem PySem.W PySem.Calls PyProof.Rows
set_option maxRecDepth 100000
namespace Mine
/-- the frame, its raw names told less -/
theorem Frm.weakν {c : Cx} {g₀ : Heap} {s₀ : Shared} {k : Heap} {env : Env} {ν ν' : List (Str × Value)} {ρ : List (Str × PyData)} {g : Heap} {s : Shared} (F : Frm c g₀ s₀ k env ν ρ g s) (h : ∀ x d, ν'.lookup x = some d → ν.lookup x = some d) : Frm c g₀ s₀ k env ν' ρ g s := by
  obtain ⟨m, cm, I, hv, q⟩ := F.fre
  exact ⟨F.fn, F.gl, F.bl, F.base, F.gg, F.gs, F.fr, F.noL, F.ks, F.kL, F.kC, F.noC, F.gk, F.tk, m, cm, I, fun x d e => hv x d (h x d e), q⟩
theorem FO.weakν {c : Cx} {env : Env} {ν ν' : List (Str × Value)} {ρ ω} {g₀ : Heap} {s₀ : Shared} {k g : Heap} {s : Shared} (F : FO c env ν ρ ω g₀ s₀ k g s) (h : ∀ x d, ν'.lookup x = some d → ν.lookup x = some d) : FO c env ν' ρ ω g₀ s₀ k g s := ⟨F.frm.weakν h, F.own, F.dis⟩
theorem FO.weak {c : Cx} {env : Env} {ν : List (Str × Value)} {ρ ρ' ω} {g₀ : Heap} {s₀ : Shared} {k g : Heap} {s : Shared} (F : FO c env ν ρ ω g₀ s₀ k g s) (h : ∀ x d, ρ'.lookup x = some d → ρ.lookup x = some d) : FO c env ν ρ' ω g₀ s₀ k g s := ⟨F.frm.weaken h, F.own, F.dis⟩
/-- a raw name is read -/
theorem wp_raw {c : Cx} {A : Around} {g₀ : Heap} {s₀ : Shared} {k : Heap} {env : Env} {ν : List (Str × Value)} {ρ : List (Str × PyData)} {g : Heap} {s : Shared} {x : Str} {v : Value} {p : Pos} {Q E : Value → Shared → Prop} (F : Frm c g₀ s₀ k env ν ρ g s) (h : ν.lookup x = some v) (hQ : Q v s)
    (hd : (x == ("__debug__" : Str)) = false := by decide) : wpAny (model c.prog c.w) A (eval (.Name x p) env) Q E s := by
  obtain ⟨m, cm, I, hv, q⟩ := F.fre
  refine wpAny_Name ?_ hd
  rcases hv x v h with ⟨hk, e⟩ | ⟨hk, ⟨a, ea⟩, e⟩
  · exact wpAny_loadName_local F.fn hk I.toInCall.ns e hQ
  · exact wpAny_loadName_cell F.fn hk ea (e ▸ I.cell x a ea) hQ
/-- a local name is bound raw -/
theorem wp_storeν {c : Cx} {A : Around} {g₀ : Heap} {s₀ : Shared} {k : Heap} {env : Env} {ν : List (Str × Value)} {ρ : List (Str × PyData)} {g : Heap} {s : Shared} {x : Str} {v : Value} {Q : Unit → Shared → Prop} {E : Value → Shared → Prop} (F : Frm c g₀ s₀ k env ν ρ g s)
    (hk : Names env x) (hν : ν.lookup x = none) (hρ : ρ.lookup x = none) (h : ∀ s', Frm c g₀ s₀ k env ((x, v) :: ν) ρ g s' → Q () s') : wpAny (model c.prog c.w) A (storeName env x v) Q E s := by
  have F' : Frm c g₀ s₀ k env ν (setρ ρ x .none) g s → True := fun _ => trivial
  obtain ⟨m, cm, I, hv, q⟩ := F.fre
  have hne : ∀ y u, ν.lookup y = some u → y ≠ x := fun y u e z => by subst z; rw [hν] at e; cases e
  have hne' : ∀ y u, ρ.lookup y = some u → y ≠ x := fun y u e z => by subst z; rw [hρ] at e; cases e
  have keepL : ∀ (h' : Heap), Heap.SameBut env.locals s.heap h' → g.StaysIn h' := fun h' hs b o e => (hs.2 b (fun z => by subst z; rw [F.noL] at e; cases e)).trans (F.gs b o e)
  rcases hk with hk | ⟨hk, a, ha⟩
  · refine wpAny_storeName_local hk I.toInCall.ns (fun h' hn' hs' => h _ ⟨F.fn, F.gl, F.bl, F.base, F.gg, keepL h' hs', F.fr, F.noL, (fun b o e => (hs'.2 b (fun z => by subst z; rw [F.kL] at e; cases e)).trans (F.ks b o e)), F.kL, F.kC, F.noC, F.gk, Nat.succ_le_succ (Nat.zero_le _), (fun y => if y = x then some v else m y), cm,
      ⟨⟨?_, hn', fun b o e => ?_, I.toInCall.fresh⟩, fun k c' hc => ?_, I.apart, I.above⟩, fun y u e => ?_, fun y e he => ?_⟩) (by rw [F.fn]; rfl)
    · obtain ⟨h₁, tk, rfl⟩ := I.toInCall.same
      exact ⟨h', _, rfl⟩
    · exact hs'.extBut b o (Nat.ne_of_lt (Nat.lt_of_lt_of_le (Heap.lt_size e) I.toInCall.fresh)) (I.toInCall.keep b o e)
    · exact (I.cell k c' hc).sameBut hs' (Nat.ne_of_gt (I.above k c' (PySem.mem_of_lookup hc)))
    · rw [List.lookup_cons] at e
      by_cases hy : y = x
      · subst hy
        simp at e
        subst e
        exact .inl ⟨hk, by simp⟩
      · rw [beq_eq_false_iff_ne.mpr hy] at e
        exact (hv y u e).imp (fun z => ⟨z.1, (if_neg hy).trans z.2⟩) id
    · obtain ⟨u, ru, qu⟩ := q y e he
      exact ⟨u, ru, qu.imp (fun z => ⟨z.1, (if_neg (hne' y e he)).trans z.2⟩) id⟩
  · have hLa := I.above x a (PySem.mem_of_lookup ha)
    refine wpAny_storeName_cell F.fn hk ha (I.cell x a ha) fun h' hc' hs' => h _ ⟨F.fn, F.gl, F.bl, F.base, F.gg, ?_, F.fr, F.noL, (fun b o e => (hs'.2 b (fun z => by subst z; rw [F.kC x _ ha] at e; cases e)).trans (F.ks b o e)), F.kL, F.kC, F.noC, F.gk, F.tk, m, (fun y => if y = x then some v else cm y),
      ⟨⟨?_, I.toInCall.ns.sameBut hs' (Nat.ne_of_lt hLa), fun b o e => ?_, I.toInCall.fresh⟩, fun k c' hk' => ?_, I.apart, I.above⟩, fun y u e => ?_, fun y e he => ?_⟩
    · exact fun b o e => (hs'.2 b (fun z => by subst z; rw [F.noC x _ ha] at e; cases e)).trans (F.gs b o e)
    · obtain ⟨h₁, tk, rfl⟩ := I.toInCall.same
      exact ⟨h', _, rfl⟩
    · exact hs'.extBut b o (Nat.ne_of_lt (Nat.lt_trans (Nat.lt_of_lt_of_le (Heap.lt_size e) I.toInCall.fresh) hLa)) (I.toInCall.keep b o e)
    · by_cases hkn : k = x
      · subst hkn
        rw [ha] at hk'; cases hk'
        simpa using hc'
      · rw [if_neg hkn]
        exact (I.cell k c' hk').sameBut hs' fun e => hkn (name_of_addr I.apart (PySem.mem_of_lookup hk') (e ▸ PySem.mem_of_lookup ha))
    · rw [List.lookup_cons] at e
      by_cases hy : y = x
      · subst hy
        simp at e
        subst e
        exact .inr ⟨hk, ⟨a, ha⟩, by simp⟩
      · rw [beq_eq_false_iff_ne.mpr hy] at e
        exact (hv y u e).imp id fun z => ⟨z.1, z.2.1, (if_neg hy).trans z.2.2⟩
    · obtain ⟨u, ru, qu⟩ := q y e he
      exact ⟨u, ru, qu.imp id fun z => ⟨z.1, z.2.1, (if_neg (hne' y e he)).trans z.2.2⟩⟩
theorem wp_storeOν {c : Cx} {A : Around} {env : Env} {ν ρ ω} {g₀ : Heap} {s₀ : Shared} {k g : Heap} {s : Shared} {x : Str} {v : Value} {Q : Unit → Shared → Prop} {E : Value → Shared → Prop} (F : FO c env ν ρ ω g₀ s₀ k g s) (hk : Names env x) (hν : ν.lookup x = none) (hρ : ρ.lookup x = none)
    (h : ∀ s', FO c env ((x, v) :: ν) ρ ω g₀ s₀ k g s' → Q () s') : wpAny (model c.prog c.w) A (storeName env x v) Q E s :=
  wp_storeν F.grabs hk hν hρ fun s' F' => h s' (F.ungrab (stays_refl _) F')

/-- a for over an ASCII text, the signs' tokens told -/
theorem xa_for_str {c : Cx} {A : Around} {env : Env} {o : Po} {tgt iter : Expr} {body : List Stmt} {pos : Pos} {x : Str} {t : Tok} {n₀ : Nat} (J : Nat → As) (hh : A.handled = none) (h1 : 1 ≤ n₀) (ha : x.cps.all (· < 128) = true)
    (hJ : ∀ i, Ad c (J i))
    (hit : ∀ g₀ s₀ k g s (Q E : Value → Shared → Prop), J 0 g₀ s₀ k g s → (∀ s', Gr g s g s' → Q (.str x t) s') → wpAny (model c.prog c.w) A (eval iter env) Q E s)
    (turn : ∀ i ch, x.cps[i]? = some ch → ∀ g₀ s₀ k g s (t' : Nat) (Q : Flow → Shared → Prop) (E : Value → Shared → Prop), J i g₀ s₀ k g s → n₀ ≤ t' → (∀ g s, J (i + 1) g₀ s₀ k g s → Q .next s) → wpAny (model c.prog c.w) A (assign tgt env (.str ⟨#[ch]⟩ t')) (fun _ s' => wpAny (model c.prog c.w) A (execs body env) Q E s') E s)
    (hend : ∀ g₀ s₀ k g s, J x.cps.size g₀ s₀ k g s → o.nx g₀ s₀ k g s)
    (hs : ∀ x, foldedSetIterable iter env x = pure x := by intro _; rfl) :
    ∀ g₀ s₀ k g s (Q : Flow → Shared → Prop) (E : Value → Shared → Prop), J 0 g₀ s₀ k g s → n₀ ≤ s.toks → o.ok g₀ s₀ k Q → wpAny (model c.prog c.w) A (exec (.For tgt iter body [] pos) env) Q E s := by
  intro g₀ s₀ k g s Q E p hn₀ hQ
  refine wpAny_For (wpAny_with_toks hn₀ (hit g₀ s₀ k g s _ _ p fun s₁ G hn₁ => ?_)) hs
  refine wpAny_pyIter_ascii ha ?_
  have hIB : s.heap.get? s₁.heap.objs.size = none := none_of_stays G.ss (none_at_size _)
  have hgI : g.get? s₁.heap.objs.size = none := none_of_stays G.gs (none_at_size _)
  have G2 : Gr g s g { s₁ with heap := s₁.heap.push { cls := .type "str_ascii_iterator", data := .fields #[.str x t, .int 0 0] } } := G.trans (gr_push G.gs _)
  obtain ⟨p₁, hI0⟩ := (hJ 0).iter p G2 (Nat.le_trans h1 hn₁) hIB hgI
  have hkI : k.get? s₁.heap.objs.size = none := none_of_stays ((hJ 0).ks p) hIB
  have hks₁ : k.StaysIn (s₁.heap.push { cls := .type "str_ascii_iterator", data := .fields #[.str x t, .int 0 0] }) := stays_trans ((hJ 0).ks p) G2.ss
  have hoI : (s₁.heap.push { cls := .type "str_ascii_iterator", data := .fields #[.str x t, .int 0 0] }).get? s₁.heap.objs.size = some { cls := .type "str_ascii_iterator", data := .fields #[.str x t, .int 0 0] } := Heap.get?_push_size _ rfl
  generalize hI : s₁.heap.objs.size = I at *
  refine codeAny_forLoop_any (fun n s' => ∃ i g' K, LSt J x.cps.size g₀ s₀ k ⟨#[], s.heap.life⟩ I (fun i h => h.IsStrIter I "str_ascii_iterator" x t i) n s' i g' K ∧ n₀ ≤ s'.toks) ?_ (x.cps.size + 1)
    ⟨0, g, _, ⟨by omega, Nat.zero_le _, p₁, fun a o e => (by cases a <;> cases e), ⟨_, hoI, rfl, rfl⟩, ⟨_, (addk_get hks₁).mpr (.inr ⟨rfl, hoI⟩)⟩, addk_stays hks₁, fun a ha e => addk_none hks₁ e ha⟩, hn₁⟩
  rintro n s' ⟨i, g', K, L, htk⟩
  have p' := L.p
  have hSx' := L.sx
  obtain ⟨oK, hoK⟩ := L.ok
  rcases Nat.lt_or_ge i x.cps.size with hlt | hge
  · have hch : x.cps[i]? = some x.cps[i] := Array.getElem?_eq_getElem hlt
    refine wpAny_pyNext_ascii_item hSx' hch fun h₁ hSx₁ hs₁ => ?_
    obtain ⟨oI₁, hoI₁, hc₁, hd₁⟩ := id hSx₁
    refine letgo_cls hoI₁ hc₁ (by decide) ?_
    have he₁ := hs₁.extBut
    have hk₁ : k.StaysIn h₁ := kstays hkI ((hJ i).ks p') L.kK he₁
    have p₂ : J i g₀ s₀ (addk k h₁ I) g' { s' with heap := h₁, toks := s'.toks + 1 } := (hJ i).turn p' ⟨oK, hoK⟩ hI0 he₁ (Nat.succ_le_succ (Nat.zero_le _)) (fun a o e => (only_get.mp e).2) fun a e => addk_none hk₁ (L.sub a e) fun z => by subst z; rw [hoK] at e; cases e
    obtain ⟨p₃, b1, b2, b3⟩ := (hJ i).re p₂
    have := turn i _ hch g' s₀ (addk k h₁ I) g' { s' with heap := h₁, toks := s'.toks + 1 } s'.toks (fun f s₃ => n₀ ≤ s₃.toks → (match f with
            | .next | .cont => ∃ m, m < n ∧ ∃ i g' K, LSt J x.cps.size g₀ s₀ k ⟨#[], s.heap.life⟩ I (fun i h => h.IsStrIter I "str_ascii_iterator" x t i) m s₃ i g' K ∧ n₀ ≤ s₃.toks
            | .brk => Q .next s₃
            | .ret v => Q (.ret v) s₃)) (notedBy (model c.prog c.w) A env fun e s' => cameBackBy (model c.prog c.w) A env E e s') p₃ htk fun g'' s'' q hn'' => ?_
    · refine wpAny_mono (wpAny_toks_of (n := n₀) (Nat.le_succ_of_le htk) this) (fun _ s₂ h₂ => wpAny_with_toks h₂.1 (wpAny_mono h₂.2 (fun f s₃ h₃ => h₃) fun _ _ e _ => e)) fun _ _ e => e.2
    · have q' := (hJ (i + 1)).un q b3 b1 b2
      have hKs := (hJ (i + 1)).ks q
      have hoI'' : s''.heap.get? I = some oI₁ := hKs I oI₁ ((addk_get hk₁).mpr (.inr ⟨rfl, hoI₁⟩))
      obtain ⟨m, hm, i', g₄, K', L'⟩ := L.next hJ hlt hk₁ hoI₁ q' ((hJ (i + 1)).re q).2.1 ⟨oI₁, hoI'', hc₁, hd₁⟩
      exact ⟨m, hm, i', g₄, K', L', hn''⟩
  · have hil : i = x.cps.size := Nat.le_antisymm L.hi hge
    subst hil
    refine wpAny_with_toks ((hJ _).tk p') (wpAny_pyNext_ascii_end hh hSx' (by simp) fun h' he ht => wpAny_execs_nil ?_)
    refine hQ.1 g' _ (hend _ _ _ _ _ ?_)
    exact (hJ _).turn (tk := s'.toks) p' ⟨oK, hoK⟩ hI0 he ht (kstays hkI ((hJ _).ks p') L.kK he) L.sub
end Mine
end
/-! ## B14 -/
section
open PySem PySem.W PySem.Calls PyProof.Rows
set_option maxRecDepth 100000
namespace Mine
section
variable {c : Cx} {A : Around} {env : Env} {ν : List (Str × Value)} {ρ : List (Str × PyData)} {ω : List (Addr × PyData)} {o : Po}
/-- a new object is the frame's own -/
theorem FO.own_new {g₀ : Heap} {s₀ : Shared} {k g : Heap} {s : Shared} {ob : Obj} {d : PyData} {tk : Nat} (F : FO c env ν ρ ω g₀ s₀ k g s) (ht : 1 ≤ tk) (h : OwnIs g (s.heap.push ob) s.heap.objs.size d) :
    FO c env ν ρ ((s.heap.objs.size, d) :: ω) g₀ s₀ k g { s with heap := s.heap.push ob, toks := tk } := by
  have hn := none_at_size s.heap
  obtain ⟨a1, a2, a3, a4, a5⟩ := F.frm.apart hn
  have F₁ : FO c env ν ρ ω g₀ s₀ k g { s with heap := s.heap.push ob, toks := tk } := F.step (gr_pusht F.frm.gs ob tk) ht
  refine ⟨F₁.frm, fun p hp => ?_, ?_⟩
  · rcases List.mem_cons.mp hp with rfl | hp
    · exact ⟨a4, a3, a5, a1, a2, h⟩
    · exact F₁.own p hp
  · rw [List.map_cons, List.nodup_cons]
    refine ⟨fun hm => ?_, F.dis⟩
    obtain ⟨p, hp, e⟩ := List.mem_map.mp hm
    obtain ⟨x, hx⟩ := (F.own p hp).there
    rw [e, hn] at hx; cases hx
/-- x = [] -/
theorem xo_newlist {x : Str} {p pos lp : Pos} (hk : Names env x) (hν : ν.lookup x = none) (hρ : ρ.lookup x = none) (ho : ∀ a g₀ s₀ k g s, FO c env ((x, .ref a) :: ν) ρ ((a, .list []) :: ω) g₀ s₀ k g s → o.nx g₀ s₀ k g s) :
    XA1 c A env (FO c env ν ρ ω) (.Assign [.Name x p] (.List [] lp) pos) o := fun g₀ s₀ k g s Q E F hQ => by
  refine wpAny_Assign_Name ?_ rfl
  refine wpAny_List ?_
  refine wpAny_pure ⟨by show 0 ≤ sizeLine; decide, ?_⟩
  have F₁ := F.own_new (ob := { cls := .type "list", data := .seq ([] : List Value).toArray }) (d := .list []) (tk := s.toks) F.frm.tk (.list ⟨_, Heap.get?_push_size _ rfl⟩ .nil)
  exact wp_storeOν F₁ hk hν hρ fun s' F' => hQ.1 g s' (ho _ _ _ _ _ _ F')
/-- an own object is written -/
theorem FO.write {ω₁ ω₂ : List (Addr × PyData)} {a : Addr} {d₀ d : PyData} {g₀ : Heap} {s₀ : Shared} {k g : Heap} {s : Shared} {h' : Heap} {tk : Nat} (F : FO c env ν ρ (ω₁ ++ (a, d₀) :: ω₂) g₀ s₀ k g s) (he : Heap.ExtBut a s.heap h') (ht : 1 ≤ tk) (hd : OwnIs g h' a d) :
    FO c env ν ρ (ω₁ ++ (a, d) :: ω₂) g₀ s₀ k g { s with heap := h', toks := tk } := by
  have o := F.own (a, d₀) (by simp)
  have hdis := F.dis
  rw [List.map_append, List.map_cons, List.nodup_append] at hdis
  obtain ⟨n1, n2, n3⟩ := hdis
  rw [List.nodup_cons] at n2
  refine ⟨F.frm.poke he o.gn o.kn o.zn o.Ln o.Cn ht, fun p hp => ?_, ?_⟩
  · have other : p ∈ ω₁ ∨ p ∈ ω₂ → Own g₀ s₀ k env g { s with heap := h', toks := tk } p.1 p.2 := fun hp => by
      have op := F.own p (by rcases hp with h | h <;> simp [h])
      have hne : p.1 ≠ a := by
        rcases hp with h | h
        · exact n3 _ (List.mem_map.mpr ⟨p, h, rfl⟩) _ (List.mem_cons_self ..)
        · exact fun e => n2.1 (e ▸ List.mem_map.mpr ⟨p, h, rfl⟩)
      exact ⟨op.kn, op.gn, op.zn, op.Ln, op.Cn, op.is.at (stays_refl _) fun x e => he _ x hne e⟩
    rcases List.mem_append.mp hp with h | h
    · exact other (.inl h)
    · rcases List.mem_cons.mp h with rfl | h
      · exact ⟨o.kn, o.gn, o.zn, o.Ln, o.Cn, hd⟩
      · exact other (.inr h)
  · rw [List.map_append, List.map_cons, List.nodup_append]
    exact ⟨n1, List.nodup_cons.mpr n2, n3⟩
/-- x.append(e) -/
theorem xo_append {ω₁ ω₂ : List (Addr × PyData)} {a : Addr} {ds : List PyData} {d : PyData} {x : Str} {p ap cp ep : Pos} {e : Expr} {pl : Sem Bool} (hx : ν.lookup x = some (.ref a)) (h : Ev c A env ρ e d) (hl : ds.length ≤ 2 ^ 20)
    (ho : ∀ g₀ s₀ k g s, FO c env ν ρ (ω₁ ++ (a, .list (ds ++ [d])) :: ω₂) g₀ s₀ k g s → o.nx g₀ s₀ k g s)
    (hi : interactive env = false := by rfl) (hs : swapsWith (.Call (.Attribute (.Name x p) "append" ap) [e] [] cp) none ep.line env = pure false := by rfl)
    (he : eval (.Call (.Attribute (.Name x p) "append" ap) [e] [] cp) env = (do
      let ov ← eval (.Name x p) env
      standAt ap.atName
      let (f, first) ← holding [ov] (getMethod ov "append" pl)
      callWith cp f first (backTo cp (starEach [e] env)) []) := by rfl)
    (he2 : starEach [e] env = (false, eval e env) :: starEach [] env := by rfl) (hd : (x == ("__debug__" : Str)) = false := by decide) :
    XA1 c A env (FO c env ν ρ (ω₁ ++ (a, .list ds) :: ω₂)) (.Expr (.Call (.Attribute (.Name x p) "append" ap) [e] [] cp) ep) o := fun g₀ s₀ k g s Q E F hQ => by
  refine wpAny_Expr_any ?_ hi hs
  have o₀ := F.own (a, .list ds) (by simp)
  have his := o₀.is
  generalize hpd : PyData.list ds = pd at his
  cases his with
  | @list vs ds' hpl hr =>
    cases hpd
    obtain ⟨n, hob⟩ := id hpl
    refine MethodCall_ (pl := pl) (wp_raw F.frm hx (Calls.getMethod_list_append hob rfl rfl ?_) hd) he
    refine callWith_method1 ?_ he2 rfl
    refine (evs_cons h evs_nil he2).tk cp g s _ _ F.frm.bg F.frm.st fun vs₂ g₂ s₂ G₂ r₂ t₂ => ?_
    have zq := rdC r₂; clear r₂; obtain ⟨_, _, rfl, r₂, r'⟩ := zq
    first | (obtain ⟨_, rfl⟩ := rdI r') | (obtain ⟨_, rfl⟩ := rdS r') | (obtain rfl := rdN r') | cases r'
    have F₂ := F.step G₂ t₂
    have hz := hr.length
    rw [Array.length_toList] at hz
    refine wpAny_list_append_plain (hpl.at fun o e => G₂.ss _ _ e) (fun h' hl' hs' => ?_) (by have : sizeLine = 2 ^ 24 := rfl; lia)
    have F₃ := F₂.write (tk := s₂.toks) hs'.extBut t₂ (.list hl' (by rw [Array.toList_push]; exact (hr.mono G₂.gg).append (.cons r₂ .nil)))
    exact hQ.1 g₂ _ (ho _ _ _ _ _ F₃)
  | dict => cases hpd
/-- return x: the own list is let go -/
theorem xo_return_own {ω₁ ω₂ : List (Addr × PyData)} {a : Addr} {ds : List PyData} {x : Str} {p pos : Pos} (hx : ν.lookup x = some (.ref a)) (ho : o.rt (.list ds)) (hd : (x == ("__debug__" : Str)) = false := by decide) :
    XA1 c A env (FO c env ν ρ (ω₁ ++ (a, .list ds) :: ω₂)) (.Return (some (.Name x p)) pos) o := fun g₀ s₀ k g s Q E F hQ => by
  refine wpAny_Return_some (wp_raw F.frm hx ?_ hd)
  have o₀ := F.own (a, .list ds) (by simp)
  have his := o₀.is
  generalize hpd : PyData.list ds = pd at his
  cases his with
  | @list vs ds' hpl hr =>
    cases hpd
    obtain ⟨n, hob⟩ := id hpl
    have hGr := F.frm.gr
    have gg : g.StaysIn (addk g s.heap a) := addk_stays F.frm.gs
    refine hQ.2.1 (.list ds) _ (addk g s.heap a) s ho ⟨stays_trans hGr.gg gg, fun b ob e => (only_get.mp e).2, hGr.ss, fun b ob e => ?_, hGr.rest⟩ (.list ((addk_get F.frm.gs).mpr (.inr ⟨rfl, hob⟩)) rfl rfl rfl (hr.mono gg))
    rcases (addk_get F.frm.gs).mp e with z | ⟨rfl, _⟩
    · exact hGr.fr b ob z
    · exact .inr o₀.zn
  | dict => cases hpd
end
end Mine
end
/-! ## B15 -/
section
open PySem PySem.W PySem.Calls PyProof.Rows
set_option maxRecDepth 100000
namespace Mine
theorem dictAt_of {prog : Program} {w : World} {h : Heap} {a : Addr} {kvs : List (Int × Value)} (d : h.DictOf (intKind prog w) a kvs) : ∃ ep, h.DictAt (intKind prog w) a kvs ep := by
  obtain ⟨o, es, ep, r⟩ := d
  exact ⟨ep, o, es, r⟩
theorem val_at {kvs : List (Int × Value)} {js : List (Int × Int)} (he : kvs.map (fun p => (p.1, valInt p.2)) = js.map (fun p => (p.1, some p.2))) {i : Nat} {p : Int × Int} (hp : js[i]? = some p) : ∃ t, kvs[i]? = some (p.1, .int p.2 t) := by
  have h := congrArg (fun l => l[i]?) he
  simp only [List.getElem?_map, hp, Option.map_some] at h
  cases q : kvs[i]? with
  | none => rw [q] at h; cases h
  | some kv =>
    rw [q] at h
    obtain ⟨k, v⟩ := kv
    simp only [Option.map_some, Option.some.injEq, Prod.mk.injEq] at h
    obtain ⟨rfl, hv⟩ := h
    obtain ⟨t, rfl⟩ := valInt_some hv
    exact ⟨t, rfl⟩
theorem val_len {kvs : List (Int × Value)} {js : List (Int × Int)} (he : kvs.map (fun p => (p.1, valInt p.2)) = js.map (fun p => (p.1, some p.2))) : kvs.length = js.length := by
  have := congrArg List.length he
  simpa using this
theorem itr_values {c : Cx} {A : Around} {I d : Addr} {g : Heap} {kvs : List (Int × Value)} {js : List (Int × Int)} {ep : Nat} (hh : A.handled = none) (hm : g.DictAt (intKind c.prog c.w) d kvs ep) (he : kvs.map (fun p => (p.1, valInt p.2)) = js.map (fun p => (p.1, some p.2))) :
    Itr c A I (js.map fun p => .int p.2) g (fun i h => h.IsValIter I d i kvs.length ep) where
  there := fun i h ⟨o, ho, _⟩ => ⟨o, ho⟩
  frame := fun i h h' st k => st.at k
  item := fun i x s Q E hi st k hQ => by
    rw [List.getElem?_map] at hi
    cases hp : js[i]? with
    | none => rw [hp] at hi; cases hi
    | some p =>
      rw [hp] at hi
      cases hi
      obtain ⟨t, hv⟩ := val_at he hp
      exact wpAny_pyNext_values_item st (hm.at' fun o e => k _ _ e) hv fun h' st' hs' => hQ _ h' s.toks (.int _ _) st' hs'.extBut
  done := fun i s Q E hi st k hQ => by
    rw [List.length_map] at hi
    exact wpAny_pyNext_values_end hh st (hm.at' fun o e => k _ _ e) (by rw [List.getElem?_eq_none_iff, val_len he]; lia) fun h' he' => hQ h' s.toks he'
  self := fun i s Q E st hQ => wpAny_pyIter_valiter st hQ
  letgo := fun i s tgt v Q E st hQ => let ⟨o, ho, hc, _⟩ := st; letgo_cls ho hc (by decide) hQ
theorem pairs_inj : ∀ (xs ys : List (Int × Int)), xs.map (fun p => (PyData.int p.1, PyData.int p.2)) = ys.map (fun p => (PyData.int p.1, PyData.int p.2)) → xs = ys
  | [], [], _ => rfl
  | [], _ :: _, e => by simp at e
  | _ :: _, [], e => by simp at e
  | (a, b) :: xs, (a', b') :: ys, e => by
    simp only [List.map_cons, List.cons.injEq, Prod.mk.injEq, PyData.int.injEq] at e
    obtain ⟨⟨rfl, rfl⟩, e⟩ := e
    rw [pairs_inj xs ys e]
theorem rd_dict {g : Heap} {v : Value} {js : List (Int × Int)} (r : Rd g v (dictD js)) : ∃ a kvs, v = .ref a ∧ (a == sysModules) = false ∧ (∀ prog w, g.DictOf (intKind prog w) a kvs) ∧ kvs.map (fun p => (p.1, valInt p.2)) = js.map (fun p => (p.1, some p.2)) := by
  generalize hpd : dictD js = pd at r
  cases r with
  | @dict a kvs js' hs hd hj =>
    unfold dictD at hpd
    simp only [PyData.dict.injEq, List.cons.injEq, true_and] at hpd
    rw [pairs_inj _ _ hpd]
    exact ⟨a, kvs, rfl, hs, hd, hj⟩
  | _ => unfold dictD at hpd; simp at hpd
section
variable {c : Cx} {A : Around} {env : Env} {ρ : List (Str × PyData)}
theorem it_values {e : Expr} {ap cp : Pos} {js : List (Int × Int)} {pl : Sem Bool} (hh : A.handled = none) (h : Ev c A env ρ e (dictD js))
    (he : eval (.Call (.Attribute e "values" ap) [] [] cp) env = (do
      let ov ← eval e env
      standAt ap.atName
      let (f, first) ← holding [ov] (getMethod ov "values" pl)
      callWith cp f first (backTo cp (starEach [] env)) []) := by rfl) : It c A env ρ (.Call (.Attribute e "values" ap) [] [] cp) (js.map fun p => .int p.2) := by
  intro g s Q E hg S hQ
  refine MethodCall_ (pl := pl) (h g s _ _ hg S fun v g₁ s₁ G₁ r₁ => ?_) he
  obtain ⟨a, kvs, rfl, hs, hd, hj⟩ := rd_dict r₁
  have hd' := dictOf_mono G₁.gs (hd c.prog c.w)
  refine getMethod_builtin hd'.typeIs PySem.F.plainAttrs_dict PySem.F.slot_dict_values PySem.F.type_dict_values hd'.mapOf.noDict ?_
  refine callWith_method0 (call_meetsIn PySem.F.slot_dict_values hd'.typeIs PySem.F.entry_dict_values (PySem.F.args_dict_values_1 _) (meets_dict_values (intKind c.prog c.w) a hs) ⟨⟨_, hd'⟩, ?_⟩)
  obtain ⟨ep, hat⟩ := dictAt_of (hd c.prog c.w)
  have G2 := gr_push (g := g₁) (s := s₁) G₁.gs { cls := .type "dict_values", data := .fields #[.ref a] }
  refine wpAny_pyIter_values ⟨_, Heap.get?_push_size _ rfl, rfl, rfl⟩ (hat.at' fun o e => G2.gs _ _ e) ?_
  have hn := none_of_stays G2.gs (none_at_size _)
  refine hQ _ _ g₁ _ ((G₁.trans G2).trans (gr_push G2.gs _)) (itr_values hh hat hj) ⟨_, Heap.get?_push_size _ rfl, rfl, rfl⟩ hn (none_of_stays (stays_trans G₁.ss G2.ss) (none_at_size _))
end
end Mine
end
/-! ## B16 -/
section
open PySem PySem.W PySem.Calls PyProof.Rows
set_option maxRecDepth 100000
namespace Mine
/-- the heap is long enough -/
noncomputable def Big (c : Cx) : Prop := ∃ b o, sysModules < b ∧ c.g0.get? b = some o
theorem big_size {c : Cx} (B : Big c) {g : Heap} {s : Shared} (hg : c.g0.StaysIn g) (k : g.StaysIn s.heap) : (s.heap.objs.size == sysModules) = false := by
  obtain ⟨b, o, hb, e⟩ := B
  have := Heap.lt_size (k _ _ (hg _ _ e))
  exact beq_eq_false_iff_ne.mpr (Nat.ne_of_gt (Nat.lt_trans hb this))
section
variable {c : Cx} {A : Around} {env : Env} {ν : List (Str × Value)} {ρ : List (Str × PyData)} {ω : List (Addr × PyData)} {o : Po}
/-- x = {} -/
theorem xo_newdict {x : Str} {p pos lp : Pos} (B : Big c) (hk : Names env x) (hν : ν.lookup x = none) (hρ : ρ.lookup x = none) (ho : ∀ a g₀ s₀ k g s, FO c env ((x, .ref a) :: ν) ρ ((a, dictD []) :: ω) g₀ s₀ k g s → o.nx g₀ s₀ k g s) :
    XA1 c A env (FO c env ν ρ ω) (.Assign [.Name x p] (.Dict [] [] lp) pos) o := fun g₀ s₀ k g s Q E F hQ => by
  refine wpAny_Assign_Name ?_ rfl
  refine wpAny_Dict_empty ?_
  have F₁ := F.own_new (ob := { cls := .type "dict", data := .dict #[] }) (d := dictD []) (tk := s.toks) F.frm.tk (.dict (kvs := []) (big_size B F.frm.bg F.frm.gs) ⟨_, Heap.get?_push_size _ rfl⟩ (fun prog w => Heap.DictOf.new s.heap) rfl)
  exact wp_storeOν F₁ hk hν hρ fun s' F' => hQ.1 g s' (ho _ _ _ _ _ _ F')
end
/-- d.items(), walked -/
noncomputable def ItemsOf (c : Cx) (A : Around) (env : Env) (ρ : List (Str × PyData)) (e : Expr) (js : List (Int × Int)) : Prop :=
  ∀ (g : Heap) (s : Shared) (Q E : Value → Shared → Prop), c.g0.StaysIn g → St env ρ g s →
    (∀ I a g' s' (kvs : List (Int × Value)) ep, Gr g s g' s' → g'.DictAt (intKind c.prog c.w) a kvs ep → kvs.map (fun p => (p.1, valInt p.2)) = js.map (fun p => (p.1, some p.2)) → IsItemIter s'.heap I a 0 kvs.length ep .none .none → g'.get? I = none → s.heap.get? I = none → 1 ≤ s'.toks → Q (.ref I) s') →
    wpAny (model c.prog c.w) A (eval e env) (fun x s₁ => wpAny (model c.prog c.w) A (pyIter x) Q E s₁) E s
section
variable {c : Cx} {A : Around} {env : Env} {ρ : List (Str × PyData)}
theorem it_items {e : Expr} {ap cp : Pos} {js : List (Int × Int)} {pl : Sem Bool} (h : Ev c A env ρ e (dictD js))
    (he : eval (.Call (.Attribute e "items" ap) [] [] cp) env = (do
      let ov ← eval e env
      standAt ap.atName
      let (f, first) ← holding [ov] (getMethod ov "items" pl)
      callWith cp f first (backTo cp (starEach [] env)) []) := by rfl) : ItemsOf c A env ρ (.Call (.Attribute e "items" ap) [] [] cp) js := by
  intro g s Q E hg S hQ
  refine MethodCall_ (pl := pl) (h.tk g s _ _ hg S fun v g₁ s₁ G₁ r₁ t₁ => ?_) he
  obtain ⟨a, kvs, rfl, hs, hd, hj⟩ := rd_dict r₁
  have hd' := dictOf_mono G₁.gs (hd c.prog c.w)
  refine getMethod_builtin hd'.typeIs PySem.F.plainAttrs_dict PySem.F.slot_dict_items PySem.F.type_dict_items hd'.mapOf.noDict ?_
  refine callWith_method0 (call_meetsIn PySem.F.slot_dict_items hd'.typeIs PySem.F.entry_dict_items (PySem.F.args_dict_items_1 _) (meets_dict_items (intKind c.prog c.w) a hs) ⟨⟨_, hd'⟩, ?_⟩)
  obtain ⟨ep, hat⟩ := dictAt_of (hd c.prog c.w)
  have G2 := gr_push (g := g₁) (s := s₁) G₁.gs { cls := .type "dict_items", data := .fields #[.ref a] }
  refine wpAny_pyIter_items ⟨_, Heap.get?_push_size _ rfl, rfl, rfl⟩ (hat.at' fun o e => G2.gs _ _ e) ?_
  have hn := none_of_stays G2.gs (none_at_size _)
  exact hQ _ a g₁ _ kvs ep ((G₁.trans G2).trans (gr_push G2.gs _)) hat hj (Heap.get?_push_size _ rfl) hn (none_of_stays (stays_trans G₁.ss G2.ss) (none_at_size _)) t₁
end
theorem xa_for_items {c : Cx} {A : Around} {env : Env} {o : Po} {elts : List Expr} {kk} {tpos : Pos} {iter : Expr} {body : List Stmt} {pos : Pos} {js : List (Int × Int)} (J : Nat → As) (hh : A.handled = none)
    (hJ : ∀ i, Ad c (J i))
    (hit : ∀ g₀ s₀ k g s, J 0 g₀ s₀ k g s → ∃ ρ, c.g0.StaysIn g ∧ St env ρ g s ∧ ItemsOf c A env ρ iter js)
    (turn : ∀ i p, js[i]? = some p → ∀ g₀ s₀ k g s T t1 t2 (Q : Flow → Shared → Prop) (E : Value → Shared → Prop), J i g₀ s₀ k g s → IsTup s.heap T #[.int p.1 t1, .int p.2 t2] → (∀ g s, J (i + 1) g₀ s₀ k g s → Q .next s) →
      wpAny (model c.prog c.w) A (assign (.Tuple elts kk tpos) env (.ref T)) (fun _ s' => wpAny (model c.prog c.w) A (execs body env) Q E s') E s)
    (hend : ∀ g₀ s₀ k g s, J js.length g₀ s₀ k g s → o.nx g₀ s₀ k g s)
    (hs : ∀ x, foldedSetIterable iter env x = pure x := by intro _; rfl) : XA1 c A env (J 0) (.For (.Tuple elts kk tpos) iter body [] pos) o := by
  intro g₀ s₀ k g s Q E p hQ
  obtain ⟨ρ, hg, S, hI⟩ := hit g₀ s₀ k g s p
  refine wpAny_For (hI g s _ _ hg S fun I a g₁ s₁ kvs ep G hat hj hIt hgI hIB ht => ?_) hs
  obtain ⟨p₁, hI0⟩ := (hJ 0).iter p G ht hIB hgI
  have hkI : k.get? I = none := none_of_stays ((hJ 0).ks p) hIB
  have hks₁ : k.StaysIn s₁.heap := stays_trans ((hJ 0).ks p) G.ss
  have hl := val_len hj
  refine codeAny_forLoop_any (fun n s' => ∃ i g' K, LSt J js.length g₀ s₀ k g₁ I (fun i h => ∃ ok ov, IsItemIter h I a i kvs.length ep ok ov) n s' i g' K) ?_ (js.length + 1)
    ⟨0, g₁, _, by omega, Nat.zero_le _, p₁, stays_refl _, ⟨_, _, hIt⟩, ⟨_, (addk_get hks₁).mpr (.inr ⟨rfl, hIt⟩)⟩, addk_stays hks₁, fun a ha e => addk_none hks₁ e ha⟩
  rintro n s' ⟨i, g', K, L⟩
  have p' := L.p
  obtain ⟨oK, hoK⟩ := L.ok
  obtain ⟨ok, ov, hSx'⟩ := L.sx
  have hat' : s'.heap.DictAt (intKind c.prog c.w) a kvs ep := hat.at' fun o e => (hJ i).gs p' _ _ (L.hg _ _ e)
  rcases Nat.lt_or_ge i js.length with hlt | hge
  · have hp : js[i]? = some js[i] := List.getElem?_eq_getElem hlt
    obtain ⟨t2, hv⟩ := val_at hj hp
    refine wpAny_with_toks ((hJ i).tk p') (wpAny_pyNext_items_item hSx' hat' hv fun key h₁ hkey hout htup hsz hext ht₁ => ?_)
    refine wpAny_with_toks ht₁ (wpAny_letOwnedTupleGo_items hout fun h₂ hSx₁ hs₂ ht₂ => ?_)
    have hkeyv : ∃ t1, key = .int (js[i]).1 t1 := by
      cases key <;> simp [intKind, Value.isInt] at hkey
      exact ⟨_, by rw [← hkey]⟩
    obtain ⟨t1, rfl⟩ := hkeyv
    have hTI : s'.heap.objs.size ≠ I := Nat.ne_of_gt (Heap.lt_size hSx')
    have htup₂ := hs₂.extBut _ _ hTI htup
    have he₁ : Heap.ExtBut I s'.heap h₂ := fun b o hb e => hs₂.extBut b o hb (hext b o hb e)
    have hk₁ : k.StaysIn h₂ := kstays hkI ((hJ i).ks p') L.kK he₁
    have p₂ : J i g₀ s₀ (addk k h₂ I) g' { s' with heap := h₂ } := (hJ i).turn (tk := s'.toks) p' ⟨oK, hoK⟩ hI0 he₁ ((hJ i).tk p') (fun a o e => (only_get.mp e).2) fun a e => addk_none hk₁ (L.sub a e) fun z => by subst z; rw [hoK] at e; cases e
    obtain ⟨p₃, b1, b2, b3⟩ := (hJ i).re p₂
    refine turn i _ hp g' s₀ (addk k h₂ I) g' { s' with heap := h₂ } _ t1 t2 _ _ p₃ ⟨_, htup₂, rfl, _, rfl⟩ fun g'' s'' q => ?_
    have q' := (hJ (i + 1)).un q b3 b1 b2
    have hgg : g'.StaysIn g'' := ((hJ (i + 1)).re q).2.1
    have hKs := (hJ (i + 1)).ks q
    have hoI'' := hKs I _ ((addk_get hk₁).mpr (.inr ⟨rfl, hSx₁⟩))
    exact L.next hJ hlt hk₁ hSx₁ q' hgg ⟨_, _, hoI''⟩
  · have hil : i = js.length := Nat.le_antisymm L.hi hge
    subst hil
    refine wpAny_with_toks ((hJ _).tk p') (wpAny_pyNext_items_end hh hSx' hat' (by rw [List.getElem?_eq_none_iff]; lia) fun h' he ht => wpAny_execs_nil ?_)
    refine hQ.1 g' _ (hend _ _ _ _ _ ?_)
    exact (hJ _).turn (tk := s'.toks) p' ⟨oK, hoK⟩ hI0 he ht (kstays hkI ((hJ _).ks p') L.kK he) L.sub
end Mine
end
/-! ## B17 -/
section
open PySem PySem.W PySem.Calls PyProof.Rows
set_option maxRecDepth 100000
namespace Mine
noncomputable def putJ (js : List (Int × Int)) (k v : Int) : List (Int × Int) := if (js.any fun p => decide (p.1 = k)) = true then js.map (fun p => if p.1 = k then (p.1, v) else p) else js ++ [(k, v)]
noncomputable def valJ (js : List (Int × Int)) (k : Int) : Option Int := (js.find? fun p => decide (p.1 = k)).map (·.2)
noncomputable abbrev sV (p : Int × Value) : Int × Option Int := (p.1, valInt p.2)
noncomputable abbrev sJ (p : Int × Int) : Int × Option Int := (p.1, some p.2)
theorem pairs_any {p p' : Program} {w w' : World} : ∀ {es : List DictEntry} {kvs : List (Int × Value)}, Pairs (intKind p w) es kvs → Pairs (intKind p' w') es kvs
  | _, _, .nil => .nil
  | _, _, .cons a b r => .cons a b (pairs_any r)
theorem dictOf_any {p : Program} {w : World} {h : Heap} {a : Addr} {kvs : List (Int × Value)} (d : h.DictOf (intKind p w) a kvs) (p' : Program) (w' : World) : h.DictOf (intKind p' w') a kvs := by
  obtain ⟨o, es, ep, ho, hx, hd, hk, hp, hn⟩ := d
  exact ⟨o, es, ep, ho, hx, hd, hk, pairs_any hp, hn⟩
theorem any_strip {k : Int} : ∀ {kvs : List (Int × Value)} {js : List (Int × Int)}, kvs.map sV = js.map sJ → (kvs.any fun p => decide (p.1 = k)) = js.any fun p => decide (p.1 = k)
  | [], [], _ => rfl
  | [], _ :: _, e => by simp at e
  | _ :: _, [], e => by simp at e
  | p :: kvs, q :: js, e => by
    simp only [List.map_cons, List.cons.injEq] at e
    rw [List.any_cons, List.any_cons, any_strip e.2]
    have : p.1 = q.1 := congrArg Prod.fst e.1
    rw [this]
theorem map_strip {k v : Int} {t : Tok} : ∀ {kvs : List (Int × Value)} {js : List (Int × Int)}, kvs.map sV = js.map sJ → (kvs.map fun p => if p.1 = k then (p.1, Value.int v t) else p).map sV = (js.map fun p => if p.1 = k then (p.1, v) else p).map sJ
  | [], [], _ => rfl
  | [], _ :: _, e => by simp at e
  | _ :: _, [], e => by simp at e
  | p :: kvs, q :: js, e => by
    simp only [List.map_cons, List.cons.injEq] at e
    simp only [List.map_cons, List.cons.injEq]
    refine ⟨?_, map_strip e.2⟩
    have h : p.1 = q.1 := congrArg Prod.fst e.1
    by_cases hk : q.1 = k
    · rw [if_pos (h.trans hk), if_pos hk]
      show (p.1, some v) = (q.1, some v)
      rw [h]
    · rw [if_neg (fun z => hk (h ▸ z)), if_neg hk]
      exact e.1
theorem stored_strip {kvs : List (Int × Value)} {js : List (Int × Int)} {k v : Int} {t : Tok} (e : kvs.map sV = js.map sJ) : (stored kvs k (.int v t)).map sV = (putJ js k v).map sJ := by
  unfold stored putJ
  rw [any_strip e]
  cases h : js.any fun p => decide (p.1 = k) with
  | true => rw [if_pos rfl, if_pos rfl]; exact map_strip e
  | false =>
    rw [if_neg (by decide), if_neg (by decide), List.map_append, List.map_append, e]
    rfl
theorem value_strip {k : Int} : ∀ {kvs : List (Int × Value)} {js : List (Int × Int)}, kvs.map sV = js.map sJ → (valueAt kvs k).map valInt = (valJ js k).map some
  | [], [], _ => rfl
  | [], _ :: _, e => by simp at e
  | _ :: _, [], e => by simp at e
  | p :: kvs, q :: js, e => by
    simp only [List.map_cons, List.cons.injEq] at e
    have ih := value_strip (k := k) e.2
    have h : p.1 = q.1 := congrArg Prod.fst e.1
    have h2 : valInt p.2 = some q.2 := congrArg Prod.snd e.1
    unfold valueAt valJ at ih ⊢
    by_cases hk : q.1 = k
    · rw [List.find?_cons_of_pos (by simpa using h.trans hk), List.find?_cons_of_pos (by simpa using hk)]
      simp [h2]
    · rw [List.find?_cons_of_neg (by simpa using fun z => hk (h ▸ z)), List.find?_cons_of_neg (by simpa using hk)]
      exact ih
section
variable {c : Cx} {A : Around} {env : Env} {ν : List (Str × Value)} {ρ : List (Str × PyData)} {ω : List (Addr × PyData)} {o : Po}
theorem own_dict {g h : Heap} {a : Addr} {js : List (Int × Int)} (r : OwnIs g h a (dictD js)) : ∃ kvs, (a == sysModules) = false ∧ (∃ o, h.get? a = some o) ∧ (∀ prog w, h.DictOf (intKind prog w) a kvs) ∧ kvs.map sV = js.map sJ := by
  generalize hpd : dictD js = pd at r
  cases r with
  | @dict kvs js' hs ho hd hj =>
    unfold dictD at hpd
    simp only [PyData.dict.injEq, List.cons.injEq, true_and] at hpd
    rw [pairs_inj _ _ hpd]
    exact ⟨kvs, hs, ho, hd, hj⟩
  | list => unfold dictD at hpd; cases hpd
/-- two names bound from an item -/
theorem xi_pair {x y : Str} {p q tpos : Pos} {kk} {g₀ : Heap} {s₀ : Shared} {k g : Heap} {s : Shared} {T : Addr} {a b : Int} {t1 t2 : Tok} {Q : Unit → Shared → Prop} {E : Value → Shared → Prop} (hh : A.handled = none) (F : FO c env ν ρ ω g₀ s₀ k g s) (ht : IsTup s.heap T #[.int a t1, .int b t2])
    (hk : Names env x) (hν : ν.lookup x = none) (hk' : Names env y) (hν' : ν.lookup y = none) (h : ∀ s', FO c env ν (setρ (setρ ρ x (.int a)) y (.int b)) ω g₀ s₀ k g s' → Q () s') :
    wpAny (model c.prog c.w) A (assign (.Tuple [.Name x p, .Name y q] kk tpos) env (.ref T)) Q E s := by
  refine assign_Tuple_tuple hh ht rfl rfl fun h₁ he₁ => ?_
  have st : s.heap.StaysIn h₁ := fun b o' e' => he₁ b o' (Nat.ne_of_lt (Heap.lt_size e')) e'
  have F₁ : FO c env ν ρ ω g₀ s₀ k g { s with heap := h₁ } := F.step (gr_of (tk := s.toks) F.frm.gs st) F.frm.tk
  show wpAny _ A (assignInOrder [assign (.Name x p) env, assign (.Name y q) env] [.int a t1, .int b t2]) _ _ _
  unfold assignInOrder
  refine wpAny_bind (wpAny_holding (wpAny_assign_Name (wp_storeO F₁ (.int _ _) hk hν fun s₂ F₂ => ?_)))
  unfold assignInOrder
  refine wpAny_bind (wpAny_holding (wpAny_assign_Name (wp_storeO F₂ (.int _ _) hk' hν' fun s₃ F₃ => ?_)))
  unfold assignInOrder
  exact wpAny_pure (h s₃ F₃)
/-- x[k] = v -/
theorem xo_setitem {ω₁ ω₂ : List (Addr × PyData)} {a : Addr} {js : List (Int × Int)} {n m : Int} {x : Str} {p sp pos : Pos} {i v : Expr} (hx : ν.lookup x = some (.ref a)) (hi : Ev c A env ρ i (.int n)) (hv : Ev c A env ρ v (.int m)) (hl : js.length ≤ 100)
    (ho : ∀ g₀ s₀ k g s, FO c env ν ρ (ω₁ ++ (a, dictD (putJ js n m)) :: ω₂) g₀ s₀ k g s → o.nx g₀ s₀ k g s) (hs : swapsWith v (some (.Subscript (.Name x p) i sp)) pos.line env = pure false := by rfl) (hd : (x == ("__debug__" : Str)) = false := by decide) :
    XA1 c A env (FO c env ν ρ (ω₁ ++ (a, dictD js) :: ω₂)) (.Assign [.Subscript (.Name x p) i sp] v pos) o := fun g₀ s₀ k g s Q E F hQ => by
  refine wpAny_Assign_Subscript (hv.tk g s _ _ F.frm.bg F.frm.st fun v₁ g₁ s₁ G₁ r₁ t₁ => ?_) hs
  have F₁ := F.step G₁ t₁
  refine wp_raw F₁.frm hx (hi.tk g₁ s₁ _ _ F₁.frm.bg F₁.frm.st fun v₂ g₂ s₂ G₂ r₂ t₂ => ?_) hd
  have F₂ := F₁.step G₂ t₂
  obtain ⟨u, rfl⟩ := rdI r₁
  obtain ⟨u₂, rfl⟩ := rdI r₂
  obtain ⟨kvs, hsm, ho', hdd, hj⟩ := own_dict (F₂.own (a, dictD js) (by simp)).is
  have hlen := val_len hj
  refine wpAny_with_toks t₂ (wpAny_setItem_pairs (intKind_is c.prog c.w n u₂) (hdd c.prog c.w) (fun h' hd' hs' ht' => ?_) (by have : sizeLine = 2 ^ 24 := rfl; lia))
  have F₃ := F₂.write (d := dictD (putJ js n m)) hs'.extBut ht' (.dict (kvs := stored kvs n (.int m u)) hsm (by obtain ⟨o, _, _, e, _⟩ := hd'; exact ⟨o, e⟩) (fun p' w' => dictOf_any hd' p' w') (stored_strip hj))
  exact hQ.1 g₂ _ (ho _ _ _ _ _ F₃)
/-- n in x -/
theorem wp_in_own {ω₁ ω₂ : List (Addr × PyData)} {a : Addr} {js : List (Int × Int)} {n : Int} {x : Str} {p pos : Pos} {i : Expr} {g₀ : Heap} {s₀ : Shared} {k g : Heap} {s : Shared} {Q : Bool → Shared → Prop} {E : Value → Shared → Prop} (F : FO c env ν ρ (ω₁ ++ (a, dictD js) :: ω₂) g₀ s₀ k g s)
    (hx : ν.lookup x = some (.ref a)) (hi : Ev c A env ρ i (.int n)) (h : ∀ g s, FO c env ν ρ (ω₁ ++ (a, dictD js) :: ω₂) g₀ s₀ k g s → Q (valJ js n).isSome s) (hd : (x == ("__debug__" : Str)) = false := by decide) :
    wpAny (model c.prog c.w) A (isTrue (.Compare i [.In] [.Name x p] pos) env (eval (.Compare i [.In] [.Name x p] pos) env)) Q E s := by
  refine wpAny_isTrue_Compare1 (hi.tk g s _ _ F.frm.bg F.frm.st fun v₂ g₂ s₂ G₂ r₂ t₂ => ?_) (by with_unfolding_all rfl)
  have F₂ := F.step G₂ t₂
  refine wp_raw F₂.frm hx ?_ hd
  obtain ⟨u₂, rfl⟩ := rdI r₂
  obtain ⟨kvs, hsm, ho', hdd, hj⟩ := own_dict (F₂.own (a, dictD js) (by simp)).is
  refine wpAny_in_of (intKind_is c.prog c.w n u₂) hsm (hdd c.prog c.w).mapOf (wpAny_truthy_bool ?_)
  have e : (valueAt kvs n).isSome = (valJ js n).isSome := by
    have := congrArg Option.isSome (value_strip (k := n) hj)
    simpa using this
  rw [e]
  exact h g₂ _ (F₂.step (Gr.toks F₂.frm.gs _) (Nat.succ_le_succ (Nat.zero_le _)))
/-- x[k] += v -/
theorem xo_addto {ω₁ ω₂ : List (Addr × PyData)} {a : Addr} {js : List (Int × Int)} {n m₀ m : Int} {x y : Str} {p yp sp pos : Pos} {v : Expr} (hx : ν.lookup x = some (.ref a)) (hy : ρ.lookup y = some (.int n)) (hv : Ev c A env ρ v (.int m)) (hm : valJ js n = some m₀) (hl : js.length ≤ 100)
    (ho : ∀ g₀ s₀ k g s, FO c env ν ρ (ω₁ ++ (a, dictD (putJ js n (m₀ + m))) :: ω₂) g₀ s₀ k g s → o.nx g₀ s₀ k g s) (hd : (x == ("__debug__" : Str)) = false := by decide) (hdy : (y == ("__debug__" : Str)) = false := by decide) :
    XA1 c A env (FO c env ν ρ (ω₁ ++ (a, dictD js) :: ω₂)) (.AugAssign (.Subscript (.Name x p) (.Name y yp) sp) .Add v pos) o := fun g₀ s₀ k g s Q E F hQ => by
  refine wpAny_AugAssign_Subscript (wp_raw F.frm hx ((ev_name hy hdy).tk g s _ _ F.frm.bg F.frm.st fun v₁ g₁ s₁ G₁ r₁ t₁ => ?_) hd)
  have F₁ := F.step G₁ t₁
  obtain ⟨u, rfl⟩ := rdI r₁
  obtain ⟨kvs, hsm, ho', hdd, hj⟩ := own_dict (F₁.own (a, dictD js) (by simp)).is
  have hval := value_strip (k := n) hj
  rw [hm] at hval
  cases hq : valueAt kvs n with
  | none => rw [hq] at hval; cases hval
  | some old =>
    rw [hq] at hval
    simp only [Option.map_some, Option.some.injEq] at hval
    obtain ⟨t, rfl⟩ := valInt_some hval
    refine wpAny_getItem_of (intKind_is c.prog c.w n u) (hdd c.prog c.w).mapOf hq ?_
    have F₂ := F₁.step (Gr.toks (s := s₁) F₁.frm.gs (s₁.toks + 1)) (Nat.succ_le_succ (Nat.zero_le _))
    refine hv.tk g₁ _ _ _ F₂.frm.bg F₂.frm.st fun v₃ g₃ s₃ G₃ r₃ t₃ => ?_
    have F₃ := F₂.step G₃ t₃
    obtain ⟨u₃, rfl⟩ := rdI r₃
    refine P.iadd_int ?_
    have F₄ := F₃.step (Gr.toks (s := s₃) F₃.frm.gs (s₃.toks + 1)) (Nat.succ_le_succ (Nat.zero_le _))
    obtain ⟨kvs', hsm', ho'', hdd', hj'⟩ := own_dict (F₄.own (a, dictD js) (by simp)).is
    have hlen := val_len hj'
    refine wpAny_setItem_pairs (intKind_is c.prog c.w n u) (hdd' c.prog c.w) (fun h' hd' hs' => ?_) (by have : sizeLine = 2 ^ 24 := rfl; lia)
    have F₅ := F₄.write (tk := s₃.toks + 1 + 1) (d := dictD (putJ js n (m₀ + m))) hs'.extBut (Nat.succ_le_succ (Nat.zero_le _)) (.dict (kvs := stored kvs' n (.int (m₀ + m) s₃.toks)) hsm' (by obtain ⟨o, _, _, e, _⟩ := hd'; exact ⟨o, e⟩) (fun p' w' => dictOf_any hd' p' w') (stored_strip hj'))
    exact hQ.1 g₃ _ (ho _ _ _ _ _ F₅)
/-- return x: the own dict is let go -/
theorem xo_return_dict {ω₁ ω₂ : List (Addr × PyData)} {a : Addr} {js : List (Int × Int)} {x : Str} {p pos : Pos} (hx : ν.lookup x = some (.ref a)) (ho : o.rt (dictD js)) (hd : (x == ("__debug__" : Str)) = false := by decide) :
    XA1 c A env (FO c env ν ρ (ω₁ ++ (a, dictD js) :: ω₂)) (.Return (some (.Name x p)) pos) o := fun g₀ s₀ k g s Q E F hQ => by
  refine wpAny_Return_some (wp_raw F.frm hx ?_ hd)
  have o₀ := F.own (a, dictD js) (by simp)
  obtain ⟨kvs, hsm, ho', hdd, hj⟩ := own_dict o₀.is
  have hGr := F.frm.gr
  have gg : g.StaysIn (addk g s.heap a) := addk_stays F.frm.gs
  refine hQ.2.1 (dictD js) _ (addk g s.heap a) s ho ⟨stays_trans hGr.gg gg, fun b ob e => (only_get.mp e).2, hGr.ss, fun b ob e => ?_, hGr.rest⟩ (.dict hsm (fun p' w' => ?_) hj)
  · rcases (addk_get F.frm.gs).mp e with z | ⟨rfl, _⟩
    · exact hGr.fr b ob z
    · exact .inr o₀.zn
  · obtain ⟨ob, es, ep, e, r⟩ := hdd p' w'
    exact ⟨ob, es, ep, (addk_get F.frm.gs).mpr (.inr ⟨rfl, e⟩), r⟩
end
end Mine
end
/-! ## B18 -/
section
open PySem PySem.W PySem.Calls PyProof.Rows
set_option maxRecDepth 100000
namespace Mine
noncomputable def setAll (ρ : List (Str × PyData)) : List (Str × Pos) → List PyData → List (Str × PyData)
  | x :: xs, d :: ds => setAll (setρ ρ x.1 d) xs ds
  | _, _ => ρ
section
variable {c : Cx} {A : Around} {env : Env} {ν : List (Str × Value)} {ω : List (Addr × PyData)}
theorem wp_all {g₀ : Heap} {s₀ : Shared} {k g : Heap} {Q : Unit → Shared → Prop} {E : Value → Shared → Prop} (xs : List (Str × Pos)) : ∀ (vs : List Value) (ds : List PyData) (ρ : List (Str × PyData)) (s : Shared), xs.length = ds.length → RdA g vs ds → (∀ x ∈ xs, Names env x.1 ∧ ν.lookup x.1 = none) →
    Frm c g₀ s₀ k env ν ρ g s → (∀ s', Frm c g₀ s₀ k env ν (setAll ρ xs ds) g s' → Q () s') → wpAny (model c.prog c.w) A (assignInOrder (xs.map fun x => assign (.Name x.1 x.2) env) vs) Q E s := by
  induction xs with
  | nil =>
    intro vs ds ρ s hl r hx F h
    cases r with
    | nil =>
      show wpAny _ A (assignInOrder [] []) _ _ _
      unfold assignInOrder
      exact wpAny_pure (h s F)
    | cons => simp at hl
  | cons x xs ih =>
    intro vs ds ρ s hl r hx F h
    cases r with
    | nil => simp at hl
    | @cons v d vs ds r rs =>
      have hx0 := hx x (.head _)
      have step : ∀ s', Frm c g₀ s₀ k env ν (setρ ρ x.1 d) g s' → wpAny (model c.prog c.w) A (assignInOrder (xs.map fun x => assign (.Name x.1 x.2) env) vs) Q E s' := fun s' F' => ih vs ds _ s' (by simpa using hl) rs (fun y hy => hx y (.tail _ hy)) F' h
      show wpAny _ A (do holding vs (assign (.Name x.1 x.2) env v); assignInOrder (xs.map fun x => assign (.Name x.1 x.2) env) vs) _ _ _
      exact wpAny_bind (wpAny_holding (wpAny_assign_Name (wp_store F r hx0.1 hx0.2 fun s' F' => step s' F')))
theorem x_unpack {ρ : List (Str × PyData)} (xs : List (Str × Pos)) {elts : List Expr} {kk} {tpos pos : Pos} {value : Expr} {ds : List PyData} (hh : A.handled = none) (h : Ev c A env ρ value (.tuple ds)) (hl : xs.length = ds.length) (hx : ∀ x ∈ xs, Names env x.1 ∧ ν.lookup x.1 = none)
    (he : (assignEach elts env).map (·.2) = xs.map fun x => assign (.Name x.1 x.2) env) (hstar : (assignEach elts env).findIdx? (·.1) = none) (hlen : (assignEach elts env).length = ds.length)
    (hs : swapsWithSole [.Tuple elts kk tpos] value pos.line env = pure false := by rfl) (hw : swappedStores [.Tuple elts kk tpos] value env = pure none := by rfl) :
    X1 c A env ν ρ (.Assign [.Tuple elts kk tpos] value pos) (.next (setAll ρ xs ds)) := fun g₀ s₀ k g s Q E F hQ => by
  refine Assign_Tuple (h.tk g s _ _ F.bg F.st fun v g₁ s₁ G₁ r₁ t₁ => ?_) hs hw
  have zq := r₁; clear r₁; refine rdT zq fun a o vs n ev ho hc hd r => ?_
  subst ev
  have hz := r.length
  rw [Array.length_toList] at hz
  refine assign_Tuple_tuple hh (isTup_of G₁.gs ho hc hd) (by rw [hlen, hz]) hstar fun h₁ he₁ => ?_
  have st : s₁.heap.StaysIn h₁ := fun b o' e' => he₁ b o' (Nat.ne_of_lt (Heap.lt_size e')) e'
  have F₁ := (F.step G₁ t₁).step (gr_of (tk := s₁.toks) G₁.gs st) t₁
  rw [he]
  exact wp_all xs _ _ _ _ hl r hx F₁ fun s' F' => hQ g₁ s' F'
end
end Mine
end
/-! ## P1 -/
section
open PySem PySem.W PySem.Calls PyProof.Rows
set_option maxRecDepth 100000
namespace Mine
set_option maxHeartbeats 8000000 in
theorem meets_std {y z : Str} {n : Int} {t u₁ u₂ u₃ : Tok} {b : Addr} (hy : y.length ≤ 1000000) (hz : z.length ≤ 1000000) (hn0 : 0 ≤ n) (hn1 : n < 10 ^ 10) :
    Meets (Builtin.«str.__mod__» ⟨[.str (Str.ofString "%s:%d(%s)") t, .ref b], []⟩) (fun _ R s => IsTup s.heap b #[.str y u₁, .int n u₂, .str z u₃] ∧ ∀ t' k, R (.ok (.ret (.str (y ++ Str.ofString ":" ++ Str.ofString (toString n) ++ Str.ofString "(" ++ z ++ Str.ofString ")") t'))) { s with toks := k }) := by
  rw [show Str.ofString "%s:%d(%s)" = ⟨#[37, 115, 58, 37, 100, 40, 37, 115, 41]⟩ by decide +kernel]
  kpt_run
theorem meets_brace {y : Str} {t u₁ : Tok} (hy : y.length ≤ 1000000) :
    Meets (Builtin.«str.__mod__» ⟨[.str (Str.ofString "{%s}") t, .str y u₁], []⟩) (fun _ R s => ∀ t' k, R (.ok (.ret (.str (Str.ofString "{" ++ y ++ Str.ofString "}") t'))) { s with toks := k }) := by
  rw [show Str.ofString "{%s}" = ⟨#[123, 37, 115, 125]⟩ by decide +kernel]
  kpc_run_s
end Mine
namespace Mine
section
variable {c : Cx} {A : Around} {env : Env} {ρ : List (Str × PyData)}
theorem op_mod_std {y z : Str} {n : Int} (hy : y.length ≤ 1000000) (hz : z.length ≤ 1000000) (hn0 : 0 ≤ n) (hn1 : n < 10 ^ 10) :
    Op2 c A (binaryOp .Mod) (.str (Str.ofString "%s:%d(%s)")) (.tuple [.str y, .int n, .str z]) (.str (y ++ Str.ofString ":" ++ Str.ofString (toString n) ++ Str.ofString "(" ++ z ++ Str.ofString ")")) := by
  intro g s v w Q E hg k r₁ r₂ hQ
  obtain ⟨t, rfl⟩ := rdS r₁
  have zq := r₂; clear r₂; refine rdT zq fun a o vs m ev e hc hd r => ?_
  subst ev
  have hT : s.TypeIs (.ref a) "tuple" := ⟨o, k _ _ e, hc⟩
  obtain ⟨l⟩ := vs
  have zq := rdC r; clear r; obtain ⟨v₁, vs', rfl, r₁, r'⟩ := zq
  have zq := rdC r'; clear r'; obtain ⟨v₂, vs'', rfl, r₂, r''⟩ := zq
  have zq := rdC r''; clear r''; obtain ⟨v₃, vs''', rfl, r₃, r4⟩ := zq
  first | (obtain rfl := rdN r4) | cases r4
  obtain ⟨t₁, rfl⟩ := rdS r₁
  obtain ⟨t₂, rfl⟩ := rdI r₂
  obtain ⟨t₃, rfl⟩ := rdS r₃
  have ht : IsTup s.heap a #[.str y t₁, .int n t₂, .str z t₃] := ⟨o, k _ _ e, hc, m, hd⟩
  exact KPt.bin_left (T := "str") (U := "tuple") (op := .Mod) (by decide) (typeIs_str s _ t) hT F.fills_str_mod KPt.fills_tuple F.slot_str_mod
    (call_meets F.slot_str_mod (typeIs_str s _ t) F.entry_str_mod (F.args_str_mod_2 _ _) (meets_std hy hz hn0 hn1) ⟨ht, fun t' k' => ⟨(fun e => nomatch e), hQ _ _ _ (Gr.toks k _) (.str _ _)⟩⟩)
theorem op_mod_brace {y : Str} (hy : y.length ≤ 1000000) : Op2 c A (binaryOp .Mod) (.str (Str.ofString "{%s}")) (.str y) (.str (Str.ofString "{" ++ y ++ Str.ofString "}")) := by
  intro g s v w Q E hg k r₁ r₂ hQ
  obtain ⟨t, rfl⟩ := rdS r₁
  obtain ⟨t₂, rfl⟩ := rdS r₂
  exact KPc.mod_str (T := fun y => Str.ofString "{" ++ y ++ Str.ofString "}") rfl hy (fun z hz => meets_brace hz) fun t' k' => hQ _ _ _ (Gr.toks k _) (.str _ _)
end
end Mine
end
/-! ## C0 -/
section
open PySem PySem.W PySem.Calls PyProof.Rows
set_option maxRecDepth 100000
namespace Mine
structure Bs (c : Cx) : Prop where
  prog : c.prog = PySem.Challenge.rw_jc0014_01.row.prog
  K : (Kh c.w.params).In c.g0
  ns : ∃ mg, c.g0.Ns mainGlobals mg
  bi : ∃ mb, c.g0.Ns builtinsNs mb ∧ ∀ x : Str, x ≠ "__name__" → mb x = bootBuiltins x
  lim : c.g0.NoLimit
theorem gn_of {c : Cx} (B : Bs c) {x : Str} {v : Value} (hn : nsIn (Kh c.w.params) mainGlobals x = some (some v)) : GN c x v := by
  obtain ⟨mg, hm⟩ := B.ns
  intro A env s Q E hf hk hg hb hs hQ
  unfold loadName
  simp only [Env.blockKind, hf, hk, ScopeKind.isAnnotationScope, Bool.false_and, Bool.false_eq_true, if_false]
  exact Calls.loadGlobal_global (by rw [hg]; exact hm.keeps hs) (mg_of B.K hm hn) hQ
theorem gb_of {c : Cx} (B : Bs c) {x : Str} {v : Value} (hn : nsIn (Kh c.w.params) mainGlobals x = some none) (hv : bootBuiltins x = some v) (hx : x ≠ "__name__") : GN c x v := by
  obtain ⟨mg, hm⟩ := B.ns
  obtain ⟨mb, hb', hbb⟩ := B.bi
  intro A env s Q E hf hk hg hb hs hQ
  unfold loadName
  simp only [Env.blockKind, hf, hk, ScopeKind.isAnnotationScope, Bool.false_and, Bool.false_eq_true, if_false]
  exact Calls.loadGlobal_builtin (by rw [hg]; exact hm.keeps hs) (mg_none_of B.K hm hn) (by rw [hb]; exact hb'.keeps hs) ((hbb x hx).trans hv) hQ
theorem df_of {c : Cx} (B : Bs c) {x : Str} {fa : Addr} {oc : Value} {od : Option Addr} {osl : Array (Option Value)} {fd : FuncData} (hK : (Kh c.w.params).lookup fa = some ⟨oc, od, .func fd, osl⟩) (hn : nsIn (Kh c.w.params) mainGlobals x = some (some (.ref fa)))
    (hcd : codeIn (Kh c.w.params) fd.code fd.qualname = true) (hclo : fd.closure = []) (hgl : fd.globals = mainGlobals) (hbi : fd.builtins = builtinsNs) : Df c x fa fd :=
  ⟨gn_of B hn, ⟨_, B.K _ _ hK, rfl⟩, codeRec_of B.K hcd, B.lim, hclo, hgl, hbi⟩
/-- a def of the text -/
noncomputable def DF (c : Cx) (x : Str) (fa : Addr) (i : Nat) : Prop := ∃ fd, Df c x fa fd ∧ fd.body = .stmts (bodyAt i) ∧ fd.scope = scopeAt i ∧ fd.params = argsAt i ∧ fd.defaults = .none
theorem d_lt {c : Cx} (hR : PySem.Challenge.rw_jc0014_01 = PySem.Challenge.rw_jc0014_01) (B : Bs c) (X : (Kh c.w.params).In c.g0) : DF c (Str.ofString "lt") 118 11 := by
  revert hR X; k_fill; intro hR X
  exact ⟨_, df_of B (by k_is) (by k_is) (by k_is) rfl rfl rfl, rfl, rfl, rfl, rfl⟩
theorem d_le {c : Cx} (hR : PySem.Challenge.rw_jc0014_01 = PySem.Challenge.rw_jc0014_01) (B : Bs c) (X : (Kh c.w.params).In c.g0) : DF c (Str.ofString "le") 125 12 := by
  revert hR X; k_fill; intro hR X
  exact ⟨_, df_of B (by k_is) (by k_is) (by k_is) rfl rfl rfl, rfl, rfl, rfl, rfl⟩
theorem d_eq {c : Cx} (hR : PySem.Challenge.rw_jc0014_01 = PySem.Challenge.rw_jc0014_01) (B : Bs c) (X : (Kh c.w.params).In c.g0) : DF c (Str.ofString "eq") 132 13 := by
  revert hR X; k_fill; intro hR X
  exact ⟨_, df_of B (by k_is) (by k_is) (by k_is) rfl rfl rfl, rfl, rfl, rfl, rfl⟩
theorem d_ne {c : Cx} (hR : PySem.Challenge.rw_jc0014_01 = PySem.Challenge.rw_jc0014_01) (B : Bs c) (X : (Kh c.w.params).In c.g0) : DF c (Str.ofString "ne") 139 14 := by
  revert hR X; k_fill; intro hR X
  exact ⟨_, df_of B (by k_is) (by k_is) (by k_is) rfl rfl rfl, rfl, rfl, rfl, rfl⟩
theorem d_sub {c : Cx} (hR : PySem.Challenge.rw_jc0014_01 = PySem.Challenge.rw_jc0014_01) (B : Bs c) (X : (Kh c.w.params).In c.g0) : DF c (Str.ofString "sub") 146 15 := by
  revert hR X; k_fill; intro hR X
  exact ⟨_, df_of B (by k_is) (by k_is) (by k_is) rfl rfl rfl, rfl, rfl, rfl, rfl⟩
theorem d_countOf {c : Cx} (hR : PySem.Challenge.rw_jc0014_01 = PySem.Challenge.rw_jc0014_01) (B : Bs c) (X : (Kh c.w.params).In c.g0) : DF c (Str.ofString "countOf") 153 16 := by
  revert hR X; k_fill; intro hR X
  exact ⟨_, df_of B (by k_is) (by k_is) (by k_is) rfl rfl rfl, rfl, rfl, rfl, rfl⟩
theorem d_ifloordiv {c : Cx} (hR : PySem.Challenge.rw_jc0014_01 = PySem.Challenge.rw_jc0014_01) (B : Bs c) (X : (Kh c.w.params).In c.g0) : DF c (Str.ofString "ifloordiv") 160 17 := by
  revert hR X; k_fill; intro hR X
  exact ⟨_, df_of B (by k_is) (by k_is) (by k_is) rfl rfl rfl, rfl, rfl, rfl, rfl⟩
theorem d_imod {c : Cx} (hR : PySem.Challenge.rw_jc0014_01 = PySem.Challenge.rw_jc0014_01) (B : Bs c) (X : (Kh c.w.params).In c.g0) : DF c (Str.ofString "imod") 167 18 := by
  revert hR X; k_fill; intro hR X
  exact ⟨_, df_of B (by k_is) (by k_is) (by k_is) rfl rfl rfl, rfl, rfl, rfl, rfl⟩
theorem d_func_std_string {c : Cx} (hR : PySem.Challenge.rw_jc0014_01 = PySem.Challenge.rw_jc0014_01) (B : Bs c) (X : (Kh c.w.params).In c.g0) : DF c (Str.ofString "func_std_string") 202 21 := by
  revert hR X; k_fill; intro hR X
  exact ⟨_, df_of B (by k_is) (by k_is) (by k_is) rfl rfl rfl, rfl, rfl, rfl, rfl⟩
theorem d_add_func_stats {c : Cx} (hR : PySem.Challenge.rw_jc0014_01 = PySem.Challenge.rw_jc0014_01) (B : Bs c) (X : (Kh c.w.params).In c.g0) : DF c (Str.ofString "add_func_stats") 209 22 := by
  revert hR X; k_fill; intro hR X
  exact ⟨_, df_of B (by k_is) (by k_is) (by k_is) rfl rfl rfl, rfl, rfl, rfl, rfl⟩
theorem d_add_callers {c : Cx} (hR : PySem.Challenge.rw_jc0014_01 = PySem.Challenge.rw_jc0014_01) (B : Bs c) (X : (Kh c.w.params).In c.g0) : DF c (Str.ofString "add_callers") 216 23 := by
  revert hR X; k_fill; intro hR X
  exact ⟨_, df_of B (by k_is) (by k_is) (by k_is) rfl rfl rfl, rfl, rfl, rfl, rfl⟩
theorem d_count_calls {c : Cx} (hR : PySem.Challenge.rw_jc0014_01 = PySem.Challenge.rw_jc0014_01) (B : Bs c) (X : (Kh c.w.params).In c.g0) : DF c (Str.ofString "count_calls") 223 24 := by
  revert hR X; k_fill; intro hR X
  exact ⟨_, df_of B (by k_is) (by k_is) (by k_is) rfl rfl rfl, rfl, rfl, rfl, rfl⟩
theorem d__law_cell {c : Cx} (hR : PySem.Challenge.rw_jc0014_01 = PySem.Challenge.rw_jc0014_01) (B : Bs c) (X : (Kh c.w.params).In c.g0) : DF c (Str.ofString "_law_cell") 228 26 := by
  revert hR X; k_fill; intro hR X
  exact ⟨_, df_of B (by k_is) (by k_is) (by k_is) rfl rfl rfl, rfl, rfl, rfl, rfl⟩
theorem d__law_mail {c : Cx} (hR : PySem.Challenge.rw_jc0014_01 = PySem.Challenge.rw_jc0014_01) (B : Bs c) (X : (Kh c.w.params).In c.g0) : DF c (Str.ofString "_law_mail") 233 27 := by
  revert hR X; k_fill; intro hR X
  exact ⟨_, df_of B (by k_is) (by k_is) (by k_is) rfl rfl rfl, rfl, rfl, rfl, rfl⟩
theorem d__law_due {c : Cx} (hR : PySem.Challenge.rw_jc0014_01 = PySem.Challenge.rw_jc0014_01) (B : Bs c) (X : (Kh c.w.params).In c.g0) : DF c (Str.ofString "_law_due") 238 28 := by
  revert hR X; k_fill; intro hR X
  exact ⟨_, df_of B (by k_is) (by k_is) (by k_is) rfl rfl rfl, rfl, rfl, rfl, rfl⟩
theorem d__law_asked {c : Cx} (hR : PySem.Challenge.rw_jc0014_01 = PySem.Challenge.rw_jc0014_01) (B : Bs c) (X : (Kh c.w.params).In c.g0) : DF c (Str.ofString "_law_asked") 245 29 := by
  revert hR X; k_fill; intro hR X
  exact ⟨_, df_of B (by k_is) (by k_is) (by k_is) rfl rfl rfl, rfl, rfl, rfl, rfl⟩
theorem d__law_free {c : Cx} (hR : PySem.Challenge.rw_jc0014_01 = PySem.Challenge.rw_jc0014_01) (B : Bs c) (X : (Kh c.w.params).In c.g0) : DF c (Str.ofString "_law_free") 252 30 := by
  revert hR X; k_fill; intro hR X
  exact ⟨_, df_of B (by k_is) (by k_is) (by k_is) rfl rfl rfl, rfl, rfl, rfl, rfl⟩
theorem d__law_told {c : Cx} (hR : PySem.Challenge.rw_jc0014_01 = PySem.Challenge.rw_jc0014_01) (B : Bs c) (X : (Kh c.w.params).In c.g0) : DF c (Str.ofString "_law_told") 257 31 := by
  revert hR X; k_fill; intro hR X
  exact ⟨_, df_of B (by k_is) (by k_is) (by k_is) rfl rfl rfl, rfl, rfl, rfl, rfl⟩
theorem d__law_movers {c : Cx} (hR : PySem.Challenge.rw_jc0014_01 = PySem.Challenge.rw_jc0014_01) (B : Bs c) (X : (Kh c.w.params).In c.g0) : DF c (Str.ofString "_law_movers") 262 32 := by
  revert hR X; k_fill; intro hR X
  exact ⟨_, df_of B (by k_is) (by k_is) (by k_is) rfl rfl rfl, rfl, rfl, rfl, rfl⟩
theorem d__law_entry {c : Cx} (hR : PySem.Challenge.rw_jc0014_01 = PySem.Challenge.rw_jc0014_01) (B : Bs c) (X : (Kh c.w.params).In c.g0) : DF c (Str.ofString "_law_entry") 267 33 := by
  revert hR X; k_fill; intro hR X
  exact ⟨_, df_of B (by k_is) (by k_is) (by k_is) rfl rfl rfl, rfl, rfl, rfl, rfl⟩
theorem d_quotedata {c : Cx} (hR : PySem.Challenge.rw_jc0014_01 = PySem.Challenge.rw_jc0014_01) (B : Bs c) (X : (Kh c.w.params).In c.g0) : DF c (Str.ofString "quotedata") 111 9 := by
  revert hR X; k_fill; intro hR X
  exact ⟨_, df_of B (by k_is) (by k_is) (by k_is) rfl rfl rfl, rfl, rfl, rfl, rfl⟩
theorem b_range {c : Cx} (hR : PySem.Challenge.rw_jc0014_01 = PySem.Challenge.rw_jc0014_01) (B : Bs c) (X : (Kh c.w.params).In c.g0) : GN c (Str.ofString "range") (.type "range") := by
  revert hR X; k_fill; intro hR X
  exact gb_of B (by k_is) (by boot_by_name) (by decide)
theorem b_len {c : Cx} (hR : PySem.Challenge.rw_jc0014_01 = PySem.Challenge.rw_jc0014_01) (B : Bs c) (X : (Kh c.w.params).In c.g0) : GN c (Str.ofString "len") (.builtin "len") := by
  revert hR X; k_fill; intro hR X
  exact gb_of B (by k_is) (by boot_by_name) (by decide)
theorem b_sum {c : Cx} (hR : PySem.Challenge.rw_jc0014_01 = PySem.Challenge.rw_jc0014_01) (B : Bs c) (X : (Kh c.w.params).In c.g0) : GN c (Str.ofString "sum") (.builtin "sum") := by
  revert hR X; k_fill; intro hR X
  exact gb_of B (by k_is) (by boot_by_name) (by decide)
theorem b_sorted {c : Cx} (hR : PySem.Challenge.rw_jc0014_01 = PySem.Challenge.rw_jc0014_01) (B : Bs c) (X : (Kh c.w.params).In c.g0) : GN c (Str.ofString "sorted") (.builtin "sorted") := by
  revert hR X; k_fill; intro hR X
  exact gb_of B (by k_is) (by boot_by_name) (by decide)
theorem b_isinstance {c : Cx} (hR : PySem.Challenge.rw_jc0014_01 = PySem.Challenge.rw_jc0014_01) (B : Bs c) (X : (Kh c.w.params).In c.g0) : GN c (Str.ofString "isinstance") (.builtin "isinstance") := by
  revert hR X; k_fill; intro hR X
  exact gb_of B (by k_is) (by boot_by_name) (by decide)
theorem b_list {c : Cx} (hR : PySem.Challenge.rw_jc0014_01 = PySem.Challenge.rw_jc0014_01) (B : Bs c) (X : (Kh c.w.params).In c.g0) : GN c (Str.ofString "list") (.type "list") := by
  revert hR X; k_fill; intro hR X
  exact gb_of B (by k_is) (by boot_by_name) (by decide)
theorem b_tuple {c : Cx} (hR : PySem.Challenge.rw_jc0014_01 = PySem.Challenge.rw_jc0014_01) (B : Bs c) (X : (Kh c.w.params).In c.g0) : GN c (Str.ofString "tuple") (.type "tuple") := by
  revert hR X; k_fill; intro hR X
  exact gb_of B (by k_is) (by boot_by_name) (by decide)
theorem b_int {c : Cx} (hR : PySem.Challenge.rw_jc0014_01 = PySem.Challenge.rw_jc0014_01) (B : Bs c) (X : (Kh c.w.params).In c.g0) : GN c (Str.ofString "int") (.type "int") := by
  revert hR X; k_fill; intro hR X
  exact gb_of B (by k_is) (by boot_by_name) (by decide)
end Mine
end
/-! ## C1 -/
section
open PySem PySem.W PySem.Calls PyProof.Rows
set_option maxRecDepth 100000
namespace Mine
noncomputable def envAt (i : Nat) (L fa : Addr) (q : Str) (code : Value) : Env := newEnv (scopeAt i) L mainGlobals (cellsFrom (L + 1) (scopeAt i).names []) (q ++ ".<locals>.") (some fa) code none builtinsNs
theorem fn_at {c : Cx} {n : Nat} {x : Str} {fa : Addr} {i : Nat} {ns : List Str} {ds : List PyData} {d : PyData} (D : DF c x fa i) (hlen : ds.length = ns.length)
    (hbind : ∀ fd : FuncData, fd.params = argsAt i → fd.defaults = .none → ∀ vs : List Value, vs.length = ns.length → bindArgs fd ⟨vs, []⟩ = pure (ns.zip vs)) (hnd : ns.Nodup)
    (hkind : ∀ x ∈ ns, (scopeAt i).names.lookup x = some .local ∨ ((scopeAt i).names.lookup x = some .cell ∧ ∀ k, ((cellsFrom k (scopeAt i).names []).lookup x).isSome = true))
    (hX : ∀ (A : Around) (L : Addr) (q : Str) (code : Value), Rm n A → X c A (envAt i L fa q code) [] (ns.zip ds) (bodyAt i) (.ret d))
    (hco : (scopeAt i).isCoroutine = false) (hgen : (scopeAt i).isGenerator = false) (hk : (scopeAt i).kind = .function) : Fn c (n + 1) fa ds d := by
  obtain ⟨fd, D, h1, h2, h3, h4⟩ := D
  refine fn_of D h1 hlen (hbind fd h3 h4) hnd (by rw [h2]; exact hkind) (fun A L r => ?_) (by rw [h2]; exact hco) (by rw [h2]; exact hgen) (by rw [h2]; exact hk)
  have e : callEnvC fd L fa = envAt i L fa fd.qualname fd.code := by unfold callEnvC envAt; rw [h2, D.glob, D.bi]
  rw [e]
  exact hX A L _ _ r
theorem kinds_of {i : Nat} {ns : List Str} (h : (ns.all fun x => (scopeAt i).names.lookup x == some .local || ((scopeAt i).names.lookup x == some .cell && (((cellsFrom 0 (scopeAt i).names []).lookup x).isSome))) = true) :
    ∀ x ∈ ns, (scopeAt i).names.lookup x = some .local ∨ ((scopeAt i).names.lookup x = some .cell ∧ ∀ k, ((cellsFrom k (scopeAt i).names []).lookup x).isSome = true) := by
  intro x hx
  have := List.all_eq_true.mp h x hx
  simp only [Bool.or_eq_true, Bool.and_eq_true, beq_iff_eq] at this
  rcases this with h | ⟨h, _⟩
  · exact .inl h
  · exact .inr ⟨h, fun k => cellsFrom_some _ _ _ (.inl h)⟩

theorem f_lt {c : Cx} {x : Str} {fa : Addr} {a b : Int} (D : DF c x fa 11) : Fn c 1 fa [.int a, .int b] (.bool (decide (a < b))) := by
  refine fn_at (n := 0) (ns := [Str.ofString "a", Str.ofString "b"]) D rfl ?_ (by decide) (kinds_of (by rfl)) ?_ rfl rfl rfl
  · exact bind_via fun fd => vs2 fun _ _ => rfl
  · intro A L q code r
    exact x_ret (x_return (ev_cmp (ev_name rfl) (ev_name rfl) op_lt))
end Mine
end
/-! ## C2 -/
section
open PySem PySem.W PySem.Calls PyProof.Rows
set_option maxRecDepth 100000
namespace Mine
structure Nm (c : Cx) : Prop where
  range : GN c (Str.ofString "range") (.type "range")
  len : GN c (Str.ofString "len") (.builtin "len")
  sum : GN c (Str.ofString "sum") (.builtin "sum")
  sorted : GN c (Str.ofString "sorted") (.builtin "sorted")
  isinstance : GN c (Str.ofString "isinstance") (.builtin "isinstance")
  list : GN c (Str.ofString "list") (.type "list")
  tuple : GN c (Str.ofString "tuple") (.type "tuple")
  int : GN c (Str.ofString "int") (.type "int")
theorem small_three {p l : Nat} (hp : p < 4) (hl : l ≤ 64) : Builtin.Range.small p l 3 = true := by
  have h : ∀ p < 4, ∀ l < 65, Builtin.Range.small (p : Nat) (l : Nat) 3 = true := by decide +kernel
  exact h p hp l (by lia)
noncomputable def cellV (ns : List Int) (place first : Int) : Int := first + ((List.range (Builtin.Range.rangeSize place ns.length 3).toNat).map fun (i : Nat) => ns.getD (place + (i : Int) * 3).toNat 0).sum
theorem f_cell {c : Cx} {x : Str} {fa : Addr} (N : Nm c) (D : DF c x fa 26) {ns : List Int} {place : Nat} {first : Int} (hl : ns.length ≤ 64) (hp : place < 4) : Fn c 1 fa [bareD (ns.map .int), .int place, .int first] (.int (cellV ns place first)) := by
  refine fn_at (n := 0) (ns := [Str.ofString "script", Str.ofString "place", Str.ofString "first"]) D rfl ?_ (by decide) (kinds_of (by rfl)) ?_ rfl rfl rfl
  · exact bind_via fun fd => vs3 fun _ _ _ => rfl
  · intro A L q code r
    refine x_ret (x_return (ev_bin (ev_name rfl) (ev_sum (ns := (List.range (Builtin.Range.rangeSize place ns.length 3).toNat).map fun (i : Nat) => ns.getD ((place : Int) + (i : Int) * 3).toNat 0) r.h N.sum rfl ?_) op_add))
    refine ev_comp [(Str.ofString "script", bareD (ns.map .int))] (it_range3 (n := (Builtin.Range.rangeSize place ns.length 3).toNat) r.h N.range rfl (ev_name rfl) (ev_lenB N.len rfl (ev_name rfl) (by rw [List.length_map]; lia) (by rw [List.length_map])) ev_int ?_ (by decide) ?_ rfl) rfl rfl (by decide) (by decide) (caps ⟨⟨rfl, rfl, rfl, rfl⟩, trivial⟩) ?_ ?_
    · exact small_three hp hl
    · exact PyProof.noPylong_of_log2 (by decide)
    · refine Cp.cast ?_ (cp_map (fun d => match d with | .int i => .int (ns.getD i.toNat 0) | d => d) (fun C => rfl) (fun C => rfl) ?_)
      · unfold rangeD
        rw [List.map_map, List.map_map]
        rfl
      · intro d hd C
        unfold rangeD at hd
        obtain ⟨i, hi, rfl⟩ := List.mem_map.mp hd
        have hi := List.mem_range.mp hi
        have hlt : place + 3 * i < ns.length := by
          unfold Builtin.Range.rangeSize at hi
          simp only [show (3 : Int) > 0 by decide, if_true] at hi
          split at hi <;> lia
        refine ev_itemB (k := place + 3 * i) (ev_name rfl) ?_ ?_ (by lia)
        · have e : ((place : Int) + (i : Int) * 3) = ((place + 3 * i : Nat) : Int) := by push_cast; lia
          rw [e]
          exact ev_name rfl
        · have e : ((place : Int) + (i : Int) * 3).toNat = place + 3 * i := by lia
          rw [List.getElem?_map, List.getElem?_eq_getElem hlt]
          simp [e, List.getD_eq_getElem?_getD, hlt]
    · unfold rangeD
      rw [List.length_map, List.length_range]
      unfold Builtin.Range.rangeSize
      simp only [show (3 : Int) > 0 by decide, if_true]
      have : sizeLine = 2 ^ 24 := rfl
      split <;> lia
end Mine
end
/-! ## C3 -/
section
open PySem PySem.W PySem.Calls PyProof.Rows
set_option maxRecDepth 100000
namespace Mine
theorem eqv_int (a b : Int) : PyData.eqv (.int a) (.int b) = decide (a = b) := by unfold PyData.eqv; rfl
theorem f_le {c : Cx} {x : Str} {fa : Addr} {a b : Int} (D : DF c x fa 12) : Fn c 1 fa [.int a, .int b] (.bool (decide (a ≤ b))) := by
  refine fn_at (n := 0) (ns := [Str.ofString "a", Str.ofString "b"]) D rfl ?_ (by decide) (kinds_of (by rfl)) ?_ rfl rfl rfl
  · exact bind_via fun fd => vs2 fun _ _ => rfl
  · intro A L q code r
    exact x_ret (x_return (ev_cmp (ev_name rfl) (ev_name rfl) op_le))
theorem f_eq {c : Cx} {x : Str} {fa : Addr} {a b : Int} (D : DF c x fa 13) : Fn c 1 fa [.int a, .int b] (.bool (decide (a = b))) := by
  refine fn_at (n := 0) (ns := [Str.ofString "a", Str.ofString "b"]) D rfl ?_ (by decide) (kinds_of (by rfl)) ?_ rfl rfl rfl
  · exact bind_via fun fd => vs2 fun _ _ => rfl
  · intro A L q code r
    rw [← eqv_int]
    exact x_ret (x_return (ev_cmp (ev_name rfl) (ev_name rfl) (op_eq rfl rfl (r.line _ (by simp [PyData.depth, PyData.depthAll])))))
theorem f_ne {c : Cx} {x : Str} {fa : Addr} {a b : Int} (D : DF c x fa 14) : Fn c 1 fa [.int a, .int b] (.bool (!decide (a = b))) := by
  refine fn_at (n := 0) (ns := [Str.ofString "a", Str.ofString "b"]) D rfl ?_ (by decide) (kinds_of (by rfl)) ?_ rfl rfl rfl
  · exact bind_via fun fd => vs2 fun _ _ => rfl
  · intro A L q code r
    rw [← eqv_int]
    exact x_ret (x_return (ev_cmp (ev_name rfl) (ev_name rfl) (op_ne rfl rfl (r.line _ (by simp [PyData.depth, PyData.depthAll])))))
theorem f_sub {c : Cx} {x : Str} {fa : Addr} {a b : Int} (D : DF c x fa 15) : Fn c 1 fa [.int a, .int b] (.int (a - b)) := by
  refine fn_at (n := 0) (ns := [Str.ofString "a", Str.ofString "b"]) D rfl ?_ (by decide) (kinds_of (by rfl)) ?_ rfl rfl rfl
  · exact bind_via fun fd => vs2 fun _ _ => rfl
  · intro A L q code r
    exact x_ret (x_return (ev_bin (ev_name rfl) (ev_name rfl) op_sub))
theorem f_ifloordiv {c : Cx} {x : Str} {fa : Addr} {a b : Int} (hb : b ≠ 0) (hl : b.natAbs.log2 < 9000) (D : DF c x fa 17) : Fn c 1 fa [.int a, .int b] (.int (a.fdiv b)) := by
  refine fn_at (n := 0) (ns := [Str.ofString "a", Str.ofString "b"]) D rfl ?_ (by decide) (kinds_of (by rfl)) ?_ rfl rfl rfl
  · exact bind_via fun fd => vs2 fun _ _ => rfl
  · intro A L q code r
    exact x_cons (x_aug (d := .int (a.fdiv b)) rfl (ev_name rfl) (op_ifloordiv hb hl) (.inl rfl)) (x_ret (x_return (ev_name rfl)))
theorem f_imod {c : Cx} {x : Str} {fa : Addr} {a b : Int} (hb : b ≠ 0) (D : DF c x fa 18) : Fn c 1 fa [.int a, .int b] (.int (a.fmod b)) := by
  refine fn_at (n := 0) (ns := [Str.ofString "a", Str.ofString "b"]) D rfl ?_ (by decide) (kinds_of (by rfl)) ?_ rfl rfl rfl
  · exact bind_via fun fd => vs2 fun _ _ => rfl
  · intro A L q code r
    exact x_cons (x_aug (d := .int (a.fmod b)) rfl (ev_name rfl) (op_imod hb) (.inl rfl)) (x_ret (x_return (ev_name rfl)))

/-- what compare and _law_told answer -/
noncomputable def toldV (w₀ w₁ k₁ c₁ k₂ c₂ : Int) : Int := if c₁ = c₂ then (if k₁ = k₂ then 0 else if k₂ < k₁ then w₁ else -w₁) else if c₂ < c₁ then w₀ else -w₀
theorem f_told {c : Cx} {x : Str} {fa : Addr} {w₀ w₁ k₁ c₁ k₂ c₂ : Int} (D : DF c x fa 31) : Fn c 1 fa [.tuple [.int w₀, .int w₁], .tuple [.int k₁, .int c₁], .tuple [.int k₂, .int c₂]] (.int (toldV w₀ w₁ k₁ c₁ k₂ c₂)) := by
  refine fn_at (n := 0) (ns := [Str.ofString "ways", Str.ofString "one", Str.ofString "other"]) D rfl ?_ (by decide) (kinds_of (by rfl)) ?_ rfl rfl rfl
  · exact bind_via fun fd => vs3 fun _ _ _ => rfl
  · intro A L q code r
    unfold toldV
    by_cases hc : c₁ = c₂
    · rw [if_pos hc]
      by_cases hk : k₁ = k₂
      · rw [if_pos hk]
        refine x_cons (x_assign_comp (rs := []) [(Str.ofString "one", .tuple [.int k₁, .int c₁]), (Str.ofString "other", .tuple [.int k₂, .int c₂])] (it_tuple r.h (ev_tuple (evs_cons ev_int (evs_cons ev_int evs_nil)) (by decide))) rfl rfl (by decide) (by decide) (caps ⟨⟨rfl, rfl, rfl, rfl⟩, ⟨rfl, rfl, rfl, rfl⟩, trivial⟩)
          (.drop [(Str.ofString "n", .int 1)] (fun C => bdc_name rfl rfl) (fun C => ifs_one (tr_cmp (b := false) (ev_item (T := "tuple") (d := .int c₁) (ev_name rfl) (ev_name rfl) (op_item_tuple (j := 1) rfl rfl (by decide) (by decide)) rfl) (ev_item (T := "tuple") (d := .int c₂) (ev_name rfl) (ev_name rfl) (op_item_tuple (j := 1) rfl rfl (by decide) (by decide)) rfl) (by
              have e := op_ne (c := c) (A := A) (d₁ := .int c₁) (d₂ := .int c₂) rfl rfl (r.line _ (by simp [PyData.depth, PyData.depthAll]))
              rwa [eqv_int, show (!decide (c₁ = c₂)) = false by simp [hc]] at e))) (.drop [(Str.ofString "n", .int 0)] (fun C => bdc_name rfl rfl) (fun C => ifs_one (tr_cmp (b := false) (ev_item (T := "tuple") (d := .int k₁) (ev_name rfl) (ev_name rfl) (op_item_tuple (j := 0) rfl rfl (by decide) (by decide)) rfl) (ev_item (T := "tuple") (d := .int k₂) (ev_name rfl) (ev_name rfl) (op_item_tuple (j := 0) rfl rfl (by decide) (by decide)) rfl) (by
              have e := op_ne (c := c) (A := A) (d₁ := .int k₁) (d₂ := .int k₂) rfl rfl (r.line _ (by simp [PyData.depth, PyData.depthAll]))
              rwa [eqv_int, show (!decide (k₁ = k₂)) = false by simp [hk]] at e))) .nil)) (by decide) rfl rfl rfl) ?_
        exact x_ret (x_if (b := true) (tr_cmp (ev_name rfl) (ev_list evs_nil (by decide)) (op_eq rfl rfl (r.line _ (by simp [PyData.depth, PyData.depthAll])))) (fun _ => x_ret (x_return ev_int)) (fun h => nomatch h))
      · rw [if_neg hk]
        refine x_cons (x_assign_comp (rs := [.int 0]) [(Str.ofString "one", .tuple [.int k₁, .int c₁]), (Str.ofString "other", .tuple [.int k₂, .int c₂])] (it_tuple r.h (ev_tuple (evs_cons ev_int (evs_cons ev_int evs_nil)) (by decide))) rfl rfl (by decide) (by decide) (caps ⟨⟨rfl, rfl, rfl, rfl⟩, ⟨rfl, rfl, rfl, rfl⟩, trivial⟩)
          (.drop [(Str.ofString "n", .int 1)] (fun C => bdc_name rfl rfl) (fun C => ifs_one (tr_cmp (b := false) (ev_item (T := "tuple") (d := .int c₁) (ev_name rfl) (ev_name rfl) (op_item_tuple (j := 1) rfl rfl (by decide) (by decide)) rfl) (ev_item (T := "tuple") (d := .int c₂) (ev_name rfl) (ev_name rfl) (op_item_tuple (j := 1) rfl rfl (by decide) (by decide)) rfl) (by
              have e := op_ne (c := c) (A := A) (d₁ := .int c₁) (d₂ := .int c₂) rfl rfl (r.line _ (by simp [PyData.depth, PyData.depthAll]))
              rwa [eqv_int, show (!decide (c₁ = c₂)) = false by simp [hc]] at e))) (.keep [(Str.ofString "n", .int 0)] (fun C => bdc_name rfl rfl) (fun C => ifs_one (tr_cmp (b := true) (ev_item (T := "tuple") (d := .int k₁) (ev_name rfl) (ev_name rfl) (op_item_tuple (j := 0) rfl rfl (by decide) (by decide)) rfl) (ev_item (T := "tuple") (d := .int k₂) (ev_name rfl) (ev_name rfl) (op_item_tuple (j := 0) rfl rfl (by decide) (by decide)) rfl) (by
              have e := op_ne (c := c) (A := A) (d₁ := .int k₁) (d₂ := .int k₂) rfl rfl (r.line _ (by simp [PyData.depth, PyData.depthAll]))
              rwa [eqv_int, show (!decide (k₁ = k₂)) = true by simp [hk]] at e))) (fun C => ev_name rfl) .nil)) (by decide) rfl rfl rfl) ?_
        refine x_cons (x_if (b := false) (o := .next _) (tr_cmp (ev_name rfl) (ev_list evs_nil (by decide)) (op_eq rfl rfl (r.line _ (by simp [PyData.depth, PyData.depthAll])))) (fun h => nomatch h) (fun _ => x_nil)) ?_
        refine x_cons (x_assign (d := .int w₁) (ev_item (T := "tuple") (ev_name rfl) (ev_bin (d := .int 1) (d₂ := .int 0) ev_int (ev_item (T := "list") (ev_name rfl) ev_int (op_item_list (j := 0) rfl rfl (by decide) (by decide)) rfl) op_sub) (op_item_tuple (j := 1) rfl rfl (by decide) (by decide)) rfl) (.inl rfl)) ?_
        refine x_ret (x_return (ev_ifexp (b := decide (k₂ < k₁)) (tr_cmp (ev_item (T := "tuple") (d := .int k₁) (ev_name rfl) (ev_item (T := "list") (d := .int 0) (ev_name rfl) ev_int (op_item_list (j := 0) rfl rfl (by decide) (by decide)) rfl) (op_item_tuple (j := 0) rfl rfl (by decide) (by decide)) rfl) (ev_item (T := "tuple") (d := .int k₂) (ev_name rfl) (ev_item (T := "list") (d := .int 0) (ev_name rfl) ev_int (op_item_list (j := 0) rfl rfl (by decide) (by decide)) rfl) (op_item_tuple (j := 0) rfl rfl (by decide) (by decide)) rfl) op_gt) (fun h => ?_) (fun h => ?_)))
        · rw [if_pos (of_decide_eq_true h)]; exact ev_name rfl
        · rw [if_neg (of_decide_eq_false h)]; exact ev_un (ev_name rfl) op_neg
    · rw [if_neg hc]
      by_cases hk : k₁ = k₂
      ·
        refine x_cons (x_assign_comp (rs := [.int 1]) [(Str.ofString "one", .tuple [.int k₁, .int c₁]), (Str.ofString "other", .tuple [.int k₂, .int c₂])] (it_tuple r.h (ev_tuple (evs_cons ev_int (evs_cons ev_int evs_nil)) (by decide))) rfl rfl (by decide) (by decide) (caps ⟨⟨rfl, rfl, rfl, rfl⟩, ⟨rfl, rfl, rfl, rfl⟩, trivial⟩)
          (.keep [(Str.ofString "n", .int 1)] (fun C => bdc_name rfl rfl) (fun C => ifs_one (tr_cmp (b := true) (ev_item (T := "tuple") (d := .int c₁) (ev_name rfl) (ev_name rfl) (op_item_tuple (j := 1) rfl rfl (by decide) (by decide)) rfl) (ev_item (T := "tuple") (d := .int c₂) (ev_name rfl) (ev_name rfl) (op_item_tuple (j := 1) rfl rfl (by decide) (by decide)) rfl) (by
              have e := op_ne (c := c) (A := A) (d₁ := .int c₁) (d₂ := .int c₂) rfl rfl (r.line _ (by simp [PyData.depth, PyData.depthAll]))
              rwa [eqv_int, show (!decide (c₁ = c₂)) = true by simp [hc]] at e))) (fun C => ev_name rfl) (.drop [(Str.ofString "n", .int 0)] (fun C => bdc_name rfl rfl) (fun C => ifs_one (tr_cmp (b := false) (ev_item (T := "tuple") (d := .int k₁) (ev_name rfl) (ev_name rfl) (op_item_tuple (j := 0) rfl rfl (by decide) (by decide)) rfl) (ev_item (T := "tuple") (d := .int k₂) (ev_name rfl) (ev_name rfl) (op_item_tuple (j := 0) rfl rfl (by decide) (by decide)) rfl) (by
              have e := op_ne (c := c) (A := A) (d₁ := .int k₁) (d₂ := .int k₂) rfl rfl (r.line _ (by simp [PyData.depth, PyData.depthAll]))
              rwa [eqv_int, show (!decide (k₁ = k₂)) = false by simp [hk]] at e))) .nil)) (by decide) rfl rfl rfl) ?_
        refine x_cons (x_if (b := false) (o := .next _) (tr_cmp (ev_name rfl) (ev_list evs_nil (by decide)) (op_eq rfl rfl (r.line _ (by simp [PyData.depth, PyData.depthAll])))) (fun h => nomatch h) (fun _ => x_nil)) ?_
        refine x_cons (x_assign (d := .int w₀) (ev_item (T := "tuple") (ev_name rfl) (ev_bin (d := .int 0) (d₂ := .int 1) ev_int (ev_item (T := "list") (ev_name rfl) ev_int (op_item_list (j := 0) rfl rfl (by decide) (by decide)) rfl) op_sub) (op_item_tuple (j := 0) rfl rfl (by decide) (by decide)) rfl) (.inl rfl)) ?_
        refine x_ret (x_return (ev_ifexp (b := decide (c₂ < c₁)) (tr_cmp (ev_item (T := "tuple") (d := .int c₁) (ev_name rfl) (ev_item (T := "list") (d := .int 1) (ev_name rfl) ev_int (op_item_list (j := 0) rfl rfl (by decide) (by decide)) rfl) (op_item_tuple (j := 1) rfl rfl (by decide) (by decide)) rfl) (ev_item (T := "tuple") (d := .int c₂) (ev_name rfl) (ev_item (T := "list") (d := .int 1) (ev_name rfl) ev_int (op_item_list (j := 0) rfl rfl (by decide) (by decide)) rfl) (op_item_tuple (j := 1) rfl rfl (by decide) (by decide)) rfl) op_gt) (fun h => ?_) (fun h => ?_)))
        · rw [if_pos (of_decide_eq_true h)]; exact ev_name rfl
        · rw [if_neg (of_decide_eq_false h)]; exact ev_un (ev_name rfl) op_neg
      ·
        refine x_cons (x_assign_comp (rs := [.int 1, .int 0]) [(Str.ofString "one", .tuple [.int k₁, .int c₁]), (Str.ofString "other", .tuple [.int k₂, .int c₂])] (it_tuple r.h (ev_tuple (evs_cons ev_int (evs_cons ev_int evs_nil)) (by decide))) rfl rfl (by decide) (by decide) (caps ⟨⟨rfl, rfl, rfl, rfl⟩, ⟨rfl, rfl, rfl, rfl⟩, trivial⟩)
          (.keep [(Str.ofString "n", .int 1)] (fun C => bdc_name rfl rfl) (fun C => ifs_one (tr_cmp (b := true) (ev_item (T := "tuple") (d := .int c₁) (ev_name rfl) (ev_name rfl) (op_item_tuple (j := 1) rfl rfl (by decide) (by decide)) rfl) (ev_item (T := "tuple") (d := .int c₂) (ev_name rfl) (ev_name rfl) (op_item_tuple (j := 1) rfl rfl (by decide) (by decide)) rfl) (by
              have e := op_ne (c := c) (A := A) (d₁ := .int c₁) (d₂ := .int c₂) rfl rfl (r.line _ (by simp [PyData.depth, PyData.depthAll]))
              rwa [eqv_int, show (!decide (c₁ = c₂)) = true by simp [hc]] at e))) (fun C => ev_name rfl) (.keep [(Str.ofString "n", .int 0)] (fun C => bdc_name rfl rfl) (fun C => ifs_one (tr_cmp (b := true) (ev_item (T := "tuple") (d := .int k₁) (ev_name rfl) (ev_name rfl) (op_item_tuple (j := 0) rfl rfl (by decide) (by decide)) rfl) (ev_item (T := "tuple") (d := .int k₂) (ev_name rfl) (ev_name rfl) (op_item_tuple (j := 0) rfl rfl (by decide) (by decide)) rfl) (by
              have e := op_ne (c := c) (A := A) (d₁ := .int k₁) (d₂ := .int k₂) rfl rfl (r.line _ (by simp [PyData.depth, PyData.depthAll]))
              rwa [eqv_int, show (!decide (k₁ = k₂)) = true by simp [hk]] at e))) (fun C => ev_name rfl) .nil)) (by decide) rfl rfl rfl) ?_
        refine x_cons (x_if (b := false) (o := .next _) (tr_cmp (ev_name rfl) (ev_list evs_nil (by decide)) (op_eq rfl rfl (r.line _ (by simp [PyData.depth, PyData.depthAll])))) (fun h => nomatch h) (fun _ => x_nil)) ?_
        refine x_cons (x_assign (d := .int w₀) (ev_item (T := "tuple") (ev_name rfl) (ev_bin (d := .int 0) (d₂ := .int 1) ev_int (ev_item (T := "list") (ev_name rfl) ev_int (op_item_list (j := 0) rfl rfl (by decide) (by decide)) rfl) op_sub) (op_item_tuple (j := 0) rfl rfl (by decide) (by decide)) rfl) (.inl rfl)) ?_
        refine x_ret (x_return (ev_ifexp (b := decide (c₂ < c₁)) (tr_cmp (ev_item (T := "tuple") (d := .int c₁) (ev_name rfl) (ev_item (T := "list") (d := .int 1) (ev_name rfl) ev_int (op_item_list (j := 0) rfl rfl (by decide) (by decide)) rfl) (op_item_tuple (j := 1) rfl rfl (by decide) (by decide)) rfl) (ev_item (T := "tuple") (d := .int c₂) (ev_name rfl) (ev_item (T := "list") (d := .int 1) (ev_name rfl) ev_int (op_item_list (j := 0) rfl rfl (by decide) (by decide)) rfl) (op_item_tuple (j := 1) rfl rfl (by decide) (by decide)) rfl) op_gt) (fun h => ?_) (fun h => ?_)))
        · rw [if_pos (of_decide_eq_true h)]; exact ev_name rfl
        · rw [if_neg (of_decide_eq_false h)]; exact ev_un (ev_name rfl) op_neg

end Mine
end
/-! ## C12 -/
section
open PySem PySem.W PySem.Calls PyProof.Rows
set_option maxHeartbeats 1000000
set_option maxRecDepth 100000
namespace Mine
/-- a TupleComp whose list is d -/
noncomputable def instD (d : PyData) : PyData := .dict [(.bool true, .int 191), (.bool true, d)]
theorem rd_inst {g : Heap} {v : Value} {d : PyData} (r : Rd g v (instD d)) : ∃ a dx hsh t' n u, v = .ref a ∧ g.get? a = some ⟨.ref 191, some dx, .plain, #[]⟩ ∧ g.get? dx = some (dictOf [⟨hsh, .str (Str.ofString "comp_select_list") t', u⟩] n) ∧ Rd g u d := by
  generalize hpd : instD d = pd at r
  cases r with
  | @inst a dx C hsh t' n u d' h1 h2 h3 =>
    unfold instD at hpd
    simp only [PyData.dict.injEq, List.cons.injEq, Prod.mk.injEq, PyData.int.injEq, true_and, and_true] at hpd
    obtain ⟨hC, rfl⟩ := hpd
    have hC' : C = 191 := (Int.ofNat.inj hC).symm
    subst hC'
    exact ⟨a, dx, hsh, t', n, u, rfl, h1, h2, h3⟩
  | _ => unfold instD at hpd; simp at hpd
structure TcK (c : Cx) (f : Addr) : Prop where
  K : (Kh c.w.params).In c.g0
  ga : findIn (Kh c.w.params) (.ref 191) "__getattribute__" = some (some (.builtin "object.__getattribute__"))
  gt : findIn (Kh c.w.params) (.ref 191) "__getattr__" = some none
  cmp : findIn (Kh c.w.params) (.ref 191) "compare" = some (some (.ref f))
  ft : typeIn (Kh c.w.params) (.ref f) = some (.type "function")
  hasD : hasDictIn (Kh c.w.params) 191 = true
  at_ : findIn (Kh c.w.params) (.ref 191) "comp_select_list" = some none
/-- the method at f -/
noncomputable def MF (c : Cx) (f : Addr) (i j : Nat) : Prop := ∃ fd : FuncData, (∃ o, c.g0.get? f = some o ∧ o.data = .func fd) ∧ c.g0.CodeRec fd.code fd.qualname ∧ c.g0.NoLimit ∧ fd.closure = [] ∧ fd.globals = mainGlobals ∧ fd.builtins = builtinsNs ∧ fd.body = .stmts (mBody i j) ∧ fd.scope = mScope i j ∧ fd.params = mArgs i j ∧ fd.defaults = .none
theorem m_cmp {c : Cx} (hR : PySem.Challenge.rw_jc0014_01 = PySem.Challenge.rw_jc0014_01) (B : Bs c) (X : (Kh c.w.params).In c.g0) : TcK c 188 ∧ MF c 188 20 1 := by
  revert hR X; k_fill; intro hR X
  refine ⟨⟨X, by k_is, by k_is, by k_is, by k_is, by k_is, by k_is⟩, ?_⟩
  exact ⟨_, ⟨_, X _ _ (by k_is), rfl⟩, codeRec_of X (by k_is), B.lim, rfl, rfl, rfl, rfl, rfl, rfl, rfl⟩
theorem fn_ofM {c : Cx} {n : Nat} {fa : Addr} {fd : FuncData} {ns : List Str} {body : List Stmt} {ds : List PyData} {d : PyData} (Dth : ∃ o, c.g0.get? fa = some o ∧ o.data = .func fd) (Dco : c.g0.CodeRec fd.code fd.qualname) (Dli : c.g0.NoLimit) (Dcl : fd.closure = []) (Dgl : fd.globals = mainGlobals) (Dbi : fd.builtins = builtinsNs) (hbody : fd.body = .stmts body) (hlen : ds.length = ns.length)
    (hbind : ∀ vs : List Value, vs.length = ns.length → bindArgs fd ⟨vs, []⟩ = pure (ns.zip vs)) (hnd : ns.Nodup)
    (hkind : ∀ x ∈ ns, fd.scope.names.lookup x = some .local ∨ (fd.scope.names.lookup x = some .cell ∧ ∀ k, ((cellsFrom k fd.scope.names []).lookup x).isSome = true))
    (hX : ∀ (A : Around) (L : Addr), Rm n A → X c A (callEnvC fd L fa) [] (ns.zip ds) body (.ret d))
    (hco : fd.scope.isCoroutine = false) (hgen : fd.scope.isGenerator = false) (hk : fd.scope.kind = .function) : Fn c (n + 1) fa ds d := by
  intro A g s vs Q E hr hg k tk r hQ
  obtain ⟨o, ho, hdat⟩ := Dth
  have st := stays_trans hg k
  have hvl : vs.length = ns.length := by rw [r.length, hlen]
  refine wpAny_call (call_cells_tk (binds := ns.zip vs) hr.room (st _ _ ho) hdat (Dli.keeps st) (Dco.keeps st) hbody (hbind vs hvl) Dcl tk (fun p hp => ?_) (fun s₁ tk₁ I => ?_) hco hgen hk)
  · obtain ⟨y, v⟩ := p
    rcases hkind y (List.of_mem_zip hp).1 with h | ⟨h, h'⟩
    · exact .inl h
    · exact .inr ⟨h, h' _⟩
  · have names := zip_names ns vs hvl
    have F : Frm c g s ({} : Heap) (callEnvC fd s.heap.objs.size fa) [] (ns.zip ds) g s₁ := by
      refine ⟨hk, Dgl, Dbi, hg, stays_refl _, stays_trans k I.toInCall.keep, fun a o e => .inl e, ?_, (fun _ _ e => (nomatch e)), rfl, (fun _ _ _ => rfl), (fun y a e => ?_), (fun _ => .inr rfl), tk₁, _, _, I, (fun _ _ e => nomatch e), fun y e he => ?_⟩
      · cases q : g.get? (callEnvC fd s.heap.objs.size fa).locals with
        | none => rfl
        | some o => exact absurd (Heap.lt_size (k _ _ q)) (Nat.not_lt.mpr I.toInCall.fresh)
      · cases q : g.get? a with
        | none => rfl
        | some o => exact absurd (Heap.lt_size (k _ _ q)) (Nat.not_lt.mpr (Nat.le_trans I.toInCall.fresh (Nat.le_of_lt (I.above y a (PySem.mem_of_lookup e)))))
      · obtain ⟨v, hv, rv⟩ := zip_lookup r he
        refine ⟨v, rv, ?_⟩
        have hy : y ∈ ns := (List.of_mem_zip (PySem.mem_of_lookup he)).1
        rcases hkind y hy with h | ⟨h, h'⟩
        · exact .inl ⟨h, (bindL_at h _ _ (by rw [names]; exact hnd)).1 hv⟩
        · refine .inr ⟨h, Option.isSome_iff_exists.mp (h' _), (bindC_at ?_ _ _ (by rw [names]; exact hnd)).1 hv⟩
          rw [show (callEnvC fd s.heap.objs.size fa).kindOf y = some .cell from h]
          decide
    refine hX _ s.heap.objs.size hr.deeper g s ({} : Heap) g s₁ _ _ F fun v g' s' G rv => ?_
    exact hQ v g' s' G rv

noncomputable def envM (i j : Nat) (L fa : Addr) (q : Str) (code : Value) : Env := newEnv (mScope i j) L mainGlobals (cellsFrom (L + 1) (mScope i j).names []) (q ++ ".<locals>.") (some fa) code none builtinsNs
theorem rd_handed {g : Heap} {v : Value} {d : PyData} (r : Rd g v d) : handedIn v = true := by cases r <;> rfl
section
variable {c : Cx} {A : Around} {env : Env} {ρ : List (Str × PyData)}
theorem inst_at {g : Heap} {s : Shared} {a dx : Addr} {hsh : Int} {t' : Tok} {n : Nat} {u : Value} (k : g.StaysIn s.heap) (h1 : g.get? a = some ⟨.ref 191, some dx, .plain, #[]⟩) (h2 : g.get? dx = some (dictOf [⟨hsh, .str (Str.ofString "comp_select_list") t', u⟩] n)) :
    InstAt s.heap a ⟨.ref 191, some dx, .plain, #[]⟩ 191 (some (dictOf [⟨hsh, .str (Str.ofString "comp_select_list") t', u⟩] n)) := ⟨k _ _ h1, rfl, rfl, k _ _ h2⟩
theorem ev_sel {x : Str} {xp pos : Pos} {d : PyData} {f : Addr} (T : TcK c f) (hx : ρ.lookup x = some (instD d)) (hdb : (x == ("__debug__" : Str)) = false := by decide) : Ev c A env ρ (.Attribute (.Name x xp) (Str.ofString "comp_select_list") pos) d := by
  intro g s Q E hg S hQ
  refine Attribute_name ((ev_name hx hdb) g s _ _ hg S fun v g₁ s₁ G₁ r₁ => ?_)
  obtain ⟨a, dx, hsh, t', n, u, rfl, h1, h2, h3⟩ := rd_inst r₁
  have I := inst_at G₁.gs h1 h2
  have X : (Kh c.w.params).In s₁.heap := T.K.keeps (stays_trans (stays_trans hg G₁.gg) G₁.gs)
  refine get_value X I T.ga (findObj_own T.hasD T.at_ rfl rfl) (rd_handed h3) (hQ u g₁ _ (G₁.trans (Gr.toks G₁.gs _)) h3)
theorem gm_cmp {d : PyData} {f : Addr} (T : TcK c f) {g : Heap} {s : Shared} {v : Value} {pl : Sem Bool} {Q : Value × List Value → Shared → Prop} {E : Value → Shared → Prop} (hg : c.g0.StaysIn g) (k : g.StaysIn s.heap) (r : Rd g v (instD d)) (h : Q (.ref f, [v]) s) : wpAny (model c.prog c.w) A (getMethod v (Str.ofString "compare") pl) Q E s := by
  obtain ⟨a, dx, hsh, t', n, u, rfl, h1, h2, h3⟩ := rd_inst r
  exact method_fn (T.K.keeps (stays_trans hg k)) (inst_at k h1 h2) T.ga T.gt T.cmp T.ft rfl h
end

theorem ad_and {c : Cx} {φ : Prop} {P : As} (h : Ad c P) : Ad c (fun g₀ s₀ k g s => φ ∧ P g₀ s₀ k g s) where
  ks := fun p => h.ks p.2
  gs := fun p => h.gs p.2
  tk := fun p => h.tk p.2
  gk := fun p => h.gk p.2
  iter := fun p a b d e => let ⟨x, y⟩ := h.iter p.2 a b d e; ⟨⟨p.1, x⟩, y⟩
  turn := fun p a b d e f g => ⟨p.1, h.turn p.2 a b d e f g⟩
  re := fun p => let ⟨x, y⟩ := h.re p.2; ⟨⟨p.1, x⟩, y⟩
  un := fun p a b d => ⟨p.1, h.un p.2 a b d⟩
theorem xa_and {c : Cx} {A : Around} {env : Env} {φ : Prop} {P : As} {tgt : Expr} {d : PyData} {body : List Stmt} {o : Po} (h : φ → XB c A env P tgt d body o) : XB c A env (fun g₀ s₀ k g s => φ ∧ P g₀ s₀ k g s) tgt d body o := fun g₀ s₀ k g s v Q E p r hQ => h p.1 g₀ s₀ k g s v Q E p.2 r hQ
theorem xa_phi {c : Cx} {A : Around} {env : Env} {φ : Prop} {P : As} {sts : List Stmt} {o : Po} (h : φ → XA c A env P sts o) : XA c A env (fun g₀ s₀ k g s => φ ∧ P g₀ s₀ k g s) sts o := fun g₀ s₀ k g s Q E p hQ => h p.1 g₀ s₀ k g s Q E p.2 hQ
noncomputable def selD (w₀ w₁ : Int) : PyData := .list [.tuple [.int 1, .int w₀], .tuple [.int 0, .int w₁]]
theorem subs2 {ρ₁ : List (Str × PyData)} {x₁ x₂ x₃ : Str} {d₁ d₂ d₃ : PyData} (h1 : ρ₁.lookup x₁ = some d₁) (h2 : ρ₁.lookup x₂ = some d₂) (h3 : ρ₁.lookup x₃ = some d₃) : ∀ x d, [(x₁, d₁), (x₂, d₂), (x₃, d₃)].lookup x = some d → ρ₁.lookup x = some d := fun x d e => by
  have hm := PySem.mem_of_lookup e
  simp only [List.mem_cons, Prod.mk.injEq, List.not_mem_nil, or_false] at hm
  rcases hm with ⟨rfl, rfl⟩ | ⟨rfl, rfl⟩ | ⟨rfl, rfl⟩ <;> assumption
theorem f_compare {c : Cx} {f : Addr} (T : TcK c f) (M : MF c f 20 1) {w₀ w₁ k₁ c₁ k₂ c₂ : Int} : Fn c 1 f [instD (selD w₀ w₁), .tuple [.int k₁, .int c₁], .tuple [.int k₂, .int c₂]] (.int (toldV w₀ w₁ k₁ c₁ k₂ c₂)) := by
  obtain ⟨fd, Dth, Dco, Dli, Dcl, Dgl, Dbi, h1, h2, h3, h4⟩ := M
  refine fn_ofM (n := 0) (ns := [Str.ofString "self", Str.ofString "left", Str.ofString "right"]) Dth Dco Dli Dcl Dgl Dbi h1 rfl ?_ (by decide) ?_ ?_ (by rw [h2]; rfl) (by rw [h2]; rfl) (by rw [h2]; rfl)
  · obtain ⟨⟩ := fd
    simp only at h3 h4
    subst h3 h4
    exact vs3 fun _ _ _ => rfl
  · intro x hx
    rw [h2]
    simp only [List.mem_cons, List.not_mem_nil, or_false] at hx
    rcases hx with rfl | rfl | rfl <;> exact .inl rfl
  · intro A L r
    have e : callEnvC fd L f = envM 20 1 L f fd.qualname fd.code := by unfold callEnvC envM; rw [h2, Dgl, Dbi]
    rw [e]
    generalize fd.qualname = q
    generalize fd.code = code
    have R0 : ∀ {u v : Int}, True := fun {_ _} => trivial
    refine x_ret_of ?_
    refine xa_cons (fun g₀ s₀ k g s => (c₁ = c₂ ∧ k₁ = k₂) ∧ FO c (envM 20 1 L f q code) [] [(Str.ofString "self", instD (selD w₀ w₁)), (Str.ofString "left", .tuple [.int k₁, .int c₁]), (Str.ofString "right", .tuple [.int k₂, .int c₂])] [] g₀ s₀ k g s)
      (xa1_pre (R := fun g₀ s₀ k g s => (((0 : Nat) ≥ 1 → c₁ = c₂) ∧ ((0 : Nat) ≥ 2 → k₁ = k₂)) ∧ FO c (envM 20 1 L f q code) [] [(Str.ofString "self", instD (selD w₀ w₁)), (Str.ofString "left", .tuple [.int k₁, .int c₁]), (Str.ofString "right", .tuple [.int k₂, .int c₂])] [] g₀ s₀ k g s) (fun g₀ s₀ k g s F => ⟨⟨fun h => absurd h (by decide), fun h => absurd h (by decide)⟩, F⟩)
      (xa_for (ds := [.tuple [.int 1, .int w₀], .tuple [.int 0, .int w₁]]) (fun i g₀ s₀ k g s => ((i ≥ 1 → c₁ = c₂) ∧ (i ≥ 2 → k₁ = k₂)) ∧ FO c (envM 20 1 L f q code) [] [(Str.ofString "self", instD (selD w₀ w₁)), (Str.ofString "left", .tuple [.int k₁, .int c₁]), (Str.ofString "right", .tuple [.int k₂, .int c₂])] [] g₀ s₀ k g s)
        (fun i => ad_and fo_ad) (ad_and fo_ad) (fun g₀ s₀ k g s F => ⟨_, F.2.frm.bg, F.2.frm.st, it_list r.h (ev_sel T rfl)⟩) ?_ (fun g₀ s₀ k g s F => ⟨⟨F.1.1 (show 2 ≥ 1 by decide), F.1.2 (show 2 ≥ 2 by decide)⟩, F.2⟩))) ?_
    · intro i d hd
      match i, hd with
      | 0, hd =>
        cases hd
        refine xa_and fun hφ => xb_pair r.h (.inl rfl) rfl (.inl rfl) rfl ?_
        refine xo_cons (x_assign (d := .int c₁) (ev_item (T := "tuple") (ev_name rfl) (ev_name rfl) (op_item_tuple (j := 1) rfl rfl (by decide) (by decide)) rfl) (.inl rfl)) ?_
        refine xo_cons (x_assign (d := .int c₂) (ev_item (T := "tuple") (ev_name rfl) (ev_name rfl) (op_item_tuple (j := 1) rfl rfl (by decide) (by decide)) rfl) (.inl rfl)) ?_
        refine xa_cons (fun g₀ s₀ k g s => ¬ c₁ < c₂ ∧ FO c _ _ _ _ g₀ s₀ k g s) (xo_if (b := decide (c₁ < c₂)) (tr_cmp (ev_name rfl) (ev_name rfl) op_lt) (fun h => xa_ret (xo_return (ev_un (d := .int (-w₀)) (ev_name rfl) op_neg) ?_)) (fun h => xa_nil fun _ _ _ _ _ F => ⟨of_decide_eq_false h, F⟩)) ?_
        · have h := of_decide_eq_true h
          show PyData.int (-w₀) = .int (toldV w₀ w₁ k₁ c₁ k₂ c₂)
          unfold toldV
          rw [if_neg (by lia), if_neg (by lia)]
        refine xa_phi fun hlt => ?_
        refine xa_cons (fun g₀ s₀ k g s => ¬ c₂ < c₁ ∧ FO c _ _ _ _ g₀ s₀ k g s) (xo_if (b := decide (c₂ < c₁)) (tr_cmp (ev_name rfl) (ev_name rfl) op_gt) (fun h => xa_ret (xo_return (ev_name (d := .int w₀) rfl) ?_)) (fun h => xa_nil fun _ _ _ _ _ F => ⟨of_decide_eq_false h, F⟩)) ?_
        · have h := of_decide_eq_true h
          show PyData.int w₀ = .int (toldV w₀ w₁ k₁ c₁ k₂ c₂)
          unfold toldV
          rw [if_neg (by lia), if_pos h]
        refine xa_phi fun hgt => xa_nil fun g₀ s₀ k g s F => ⟨⟨fun _ => by lia, fun h => absurd h (by decide)⟩, F.weak (subs2 rfl rfl rfl)⟩
      | 1, hd =>
        cases hd
        refine xa_and fun hφ => xb_pair r.h (.inl rfl) rfl (.inl rfl) rfl ?_
        refine xo_cons (x_assign (d := .int k₁) (ev_item (T := "tuple") (ev_name rfl) (ev_name rfl) (op_item_tuple (j := 0) rfl rfl (by decide) (by decide)) rfl) (.inl rfl)) ?_
        refine xo_cons (x_assign (d := .int k₂) (ev_item (T := "tuple") (ev_name rfl) (ev_name rfl) (op_item_tuple (j := 0) rfl rfl (by decide) (by decide)) rfl) (.inl rfl)) ?_
        refine xa_cons (fun g₀ s₀ k g s => ¬ k₁ < k₂ ∧ FO c _ _ _ _ g₀ s₀ k g s) (xo_if (b := decide (k₁ < k₂)) (tr_cmp (ev_name rfl) (ev_name rfl) op_lt) (fun h => xa_ret (xo_return (ev_un (d := .int (-w₁)) (ev_name rfl) op_neg) ?_)) (fun h => xa_nil fun _ _ _ _ _ F => ⟨of_decide_eq_false h, F⟩)) ?_
        · have h := of_decide_eq_true h
          show PyData.int (-w₁) = .int (toldV w₀ w₁ k₁ c₁ k₂ c₂)
          unfold toldV
          rw [if_pos (hφ.1 (by decide)), if_neg (by lia), if_neg (by lia)]
        refine xa_phi fun hlt => ?_
        refine xa_cons (fun g₀ s₀ k g s => ¬ k₂ < k₁ ∧ FO c _ _ _ _ g₀ s₀ k g s) (xo_if (b := decide (k₂ < k₁)) (tr_cmp (ev_name rfl) (ev_name rfl) op_gt) (fun h => xa_ret (xo_return (ev_name (d := .int w₁) rfl) ?_)) (fun h => xa_nil fun _ _ _ _ _ F => ⟨of_decide_eq_false h, F⟩)) ?_
        · have h := of_decide_eq_true h
          show PyData.int w₁ = .int (toldV w₀ w₁ k₁ c₁ k₂ c₂)
          unfold toldV
          rw [if_pos (hφ.1 (by decide)), if_neg (by lia), if_pos h]
        refine xa_phi fun hgt => xa_nil fun g₀ s₀ k g s F => ⟨⟨fun _ => hφ.1 (by decide), fun _ => by lia⟩, F.weak (subs2 rfl rfl rfl)⟩
      | n + 2, hd => exact absurd hd (by simp)
    · refine xa_phi fun hφ => xa_ret (xo_return (d := .int 0) ev_int ?_)
      show PyData.int 0 = .int (toldV w₀ w₁ k₁ c₁ k₂ c₂)
      unfold toldV
      rw [if_pos hφ.1, if_pos hφ.2]
end Mine
end
/-! ## C15 -/
section
open PySem PySem.W PySem.W.X PySem.Calls PyProof.Rows
set_option maxRecDepth 100000
set_option maxHeartbeats 0
namespace Mine
/-- what holds in wider surroundings holds in narrower ones -/
theorem wpAny_up {α : Type} {M : Model} {A A' : Around} {t : Sem α} {Q : α → Shared → Prop} {E : Value → Shared → Prop} {s : Shared} (h : wpAny M A' t Q E s) (hh : A.handled = A'.handled) (hd : A.depth ≤ A'.depth) (hu : A.units ≤ A'.units) (hf : A'.frames = none) (hg : A'.guards = none) : wpAny M A t Q E s := fun Γ p hΓ =>
  h Γ p ⟨hΓ.1.trans hh, Nat.le_trans hΓ.2.1 hd, (fun l e => by rw [hf] at e; cases e), (fun l e => by rw [hg] at e; cases e), Nat.le_trans hΓ.2.2.2.2 hu⟩
noncomputable abbrev A0 : Around := { handled := none, depth := 900, frames := none, guards := none, units := 9000 }
theorem call_tree {M : Model} {A : Around} {f : Value} {args : List Value} {Q : Value → Shared → Prop} {E : Value → Shared → Prop} {s : Shared} (h : wpAny M A (.call (.call f ⟨args, []⟩) none false [] .pure) (fun r s' => match r with | .ok (.ret v) => Q v s' | _ => False) E s) : wpAny M A (call f args) Q E s := by
  have e : run (.call f ⟨args, []⟩) = ((.call (.call f ⟨args, []⟩) none false [] .pure : Sem Result) >>= fun | .ok f => .pure f | .error e => .raise e) := rfl
  unfold call runValue
  rw [e]
  refine wpAny_bind (wpAny_bind (wpAny_mono h (fun r s' hr => ?_) fun _ _ x => x))
  cases r with
  | ok fl =>
    cases fl with
    | ret v => exact wpAny_pure (wpAny_pure hr)
    | _ => exact hr.elim
  | error x => exact hr.elim
set_option hygiene false in
local macro_rules | `(tactic| x_close) => `(tactic| exact hQ _ _ _ _ _ _ _ _ _ (by assumption))
theorem x_make (p : Program) (w : World) (h : Heap) (g : Array GenState) (d : Drawn) (t : Nat) (os : OsState) (Q : Result → Shared → Prop) (E : Value → Shared → Prop)
  (KX : (Kh w.params).In h) (al : Addr) (o : Obj) (H1 : h.get? al = some o)
  (hQ : ∀ (h' : Heap) (tk : Nat) (a x dx : Addr) (fo : Obj) (hsh : Int) (t' : Tok) (n : Nat), Mem h h' [] [(a, fo), (x, { cls := .ref 191, dict := some dx, data := .plain }), (dx, { cls := .type "dict", data := .dict #[⟨hsh, .str (Str.ofString "comp_select_list") t', .ref al⟩] n })] → Q (.ok (.ret (.ref x))) ⟨h', g, d, tk, os⟩) :
  wpAny (model p w) A0 (.call (.call (.ref 191) ⟨[.ref al], []⟩) none false [] .pure) Q E ⟨h, g, d, t, os⟩ := by
  x_run

theorem f_make {c : Cx} (hp : c.prog = PySem.Challenge.pw_jc0014_01) (K : (Kh c.w.params).In c.g0) {A : Around} {g : Heap} {s : Shared} {v : Value} {ds : List PyData} {Q E : Value → Shared → Prop} (r : Rm 0 A) (hg : c.g0.StaysIn g) (k : g.StaysIn s.heap) (rv : Rd g v (.list ds))
    (hQ : ∀ v' g' s', Gr g s g' s' → Rd g' v' (instD (.list ds)) → Q v' s') : wpAny (model c.prog c.w) A (call (.ref 191) [v]) Q E s := by
  obtain ⟨h, gs, d, t, os⟩ := s
  simp only at k
  refine rdL rv fun al o vs n ev ho hc hd' hp' rr => ?_
  subst ev
  rw [hp]
  refine call_tree (wpAny_up (A' := A0) (x_make _ c.w h gs d t os _ _ (K.keeps (stays_trans hg k)) al o (k _ _ ho) fun h' tk a x dx fo hsh t' n D => ?_) r.h (by have := r.d; show A.depth ≤ 900; lia) (by have := r.u; show A.units ≤ 9000; lia) rfl rfl)
  have st : h.StaysIn h' := fun b o e => D.keep b o e (by simp [away])
  obtain ⟨g', G, hgr⟩ := grow (g := g) (s := ⟨h, gs, d, t, os⟩) (h' := h') k st tk
  have n1 := D.nw (x, _) (.tail _ (.head _))
  have n2 := D.nw (dx, _) (.tail _ (.tail _ (.head _)))
  refine hQ _ g' _ G ?_
  exact .inst (hgr _ _ n1.2 n1.1) (hgr _ _ n2.2 n2.1) (rv.mono G.gg)
end Mine
end
/-! ## E1 -/
section
open PySem PySem.W PySem.W.X PySem.Calls PyProof.Rows
set_option maxRecDepth 100000
set_option maxHeartbeats 0
namespace Mine
noncomputable abbrev excVals (a : Addr) : Array Value := #[.ref a, .none, .none, .none, .bool false, .none, .int 0 0, .int 0 0, .int 0 0, .int 0 0, .int (-1) 0]
noncomputable abbrev excObj (C dx a : Addr) : Obj := { cls := .ref C, dict := some dx, data := .fields (excVals a) }
set_option hygiene false in
local macro_rules | `(tactic| x_close) => `(tactic| exact hQ _ _ _ _ _ _ _ _ _ _ (fun b o q => D.keep b o q (by simp [away])) (D.nw (_, _) (.tail _ (.tail _ (.tail _ (.head _))))).2 (D.nw (_, _) (.tail _ (.head _))).2 (D.nw (_, _) (.tail _ (.tail _ (.tail _ (.head _))))).1 (D.nw (_, _) (.tail _ (.head _))).1)
theorem x_exc102 (p : Program) (w : World) (h : Heap) (g : Array GenState) (d : Drawn) (t : Nat) (os : OsState) (Q : Result → Shared → Prop) (E : Value → Shared → Prop)
  (KX : (Kh w.params).In h) (i : Int) (ti : Tok) (x : Str) (tx : Tok)
  (hQ : ∀ (h' : Heap) (tk : Nat) (a dx e : Addr) (h1 h2 : Int) (t1 t2 : Tok) (n : Nat), (∀ b o, h.get? b = some o → h'.get? b = some o) → h.get? e = none → h.get? dx = none → h'.get? e = some (excObj 102 dx a) → h'.get? dx = some (dictOf [⟨h1, .str (Str.ofString "smtp_code") t1, .int i ti⟩, ⟨h2, .str (Str.ofString "smtp_error") t2, .str x tx⟩] n) → Q (.ok (.ret (.ref e))) ⟨h', g, d, tk, os⟩) :
  wpAny (model p w) A0 (.call (.call (.ref 102) ⟨[.int i ti, .str x tx], []⟩) none false [] .pure) Q E ⟨h, g, d, t, os⟩ := by
  x_run
set_option hygiene false in
local macro_rules | `(tactic| x_close) => `(tactic| exact hQ _ _ _ _ _ _ _ _ _ _ _ _ (fun b o q => D.keep b o q (by simp [away])) (D.nw (_, _) (.tail _ (.tail _ (.tail _ (.head _))))).2 (D.nw (_, _) (.tail _ (.head _))).2 (D.nw (_, _) (.tail _ (.tail _ (.tail _ (.head _))))).1 (D.nw (_, _) (.tail _ (.head _))).1)
theorem x_exc90 (p : Program) (w : World) (h : Heap) (g : Array GenState) (d : Drawn) (t : Nat) (os : OsState) (Q : Result → Shared → Prop) (E : Value → Shared → Prop)
  (KX : (Kh w.params).In h) (i : Int) (ti : Tok) (x : Str) (tx : Tok) (y : Str) (ty : Tok)
  (hQ : ∀ (h' : Heap) (tk : Nat) (a dx e : Addr) (h1 h2 h3 : Int) (t1 t2 t3 : Tok) (n : Nat), (∀ b o, h.get? b = some o → h'.get? b = some o) → h.get? e = none → h.get? dx = none → h'.get? e = some (excObj 90 dx a) → h'.get? dx = some (dictOf [⟨h1, .str (Str.ofString "smtp_code") t1, .int i ti⟩, ⟨h2, .str (Str.ofString "smtp_error") t2, .str x tx⟩, ⟨h3, .str (Str.ofString "sender") t3, .str y ty⟩] n) → Q (.ok (.ret (.ref e))) ⟨h', g, d, tk, os⟩) :
  wpAny (model p w) A0 (.call (.call (.ref 90) ⟨[.int i ti, .str x tx, .str y ty], []⟩) none false [] .pure) Q E ⟨h, g, d, t, os⟩ := by
  x_run
end Mine
end
/-! ## E2 -/
section
open PySem PySem.W PySem.W.X PySem.Calls PyProof.Rows
set_option maxRecDepth 100000
set_option maxHeartbeats 0
namespace Mine
set_option hygiene false in
local macro_rules | `(tactic| x_close) => `(tactic| exact hQ _)
theorem x_get_102_smtp_code (hv : Option Value) (p : Program) (w : World) (h : Heap) (g : Array GenState) (d : Drawn) (t : Nat) (os : OsState) (Q : Result → Shared → Prop) (E : Value → Shared → Prop)
  (KX : (Kh w.params).In h) (i : Int) (ti : Tok) (x : Str) (tx : Tok) (y : Str) (ty : Tok) (e dx : Addr) (vs : Array Value) (sl : Array (Option Value)) (h1 h2 h3 : Int) (t1 t2 t3 tn : Tok) (n : Nat)
  (H1 : h.get? e = some { cls := .ref 102, dict := some dx, data := .fields vs, slots := sl }) (H2 : h.get? dx = some { cls := .type "dict", data := .dict #[⟨h1, .str (Str.ofString "smtp_code") t1, .int i ti⟩, ⟨h2, .str (Str.ofString "smtp_error") t2, .str x tx⟩] n })
  (hQ : ∀ tk, Q (.ok (.ret (.int i ti))) ⟨h, g, d, tk, os⟩) :
  wpAny (model p w) { handled := hv, depth := 900, frames := none, guards := none, units := 9000 } (.call (.call (.builtin "BaseException.__getattribute__") ⟨[.ref e, .str (Str.ofString "smtp_code") tn], []⟩) none false [] .pure) Q E ⟨h, g, d, t, os⟩ := by
  x_run
theorem x_get_102_smtp_error (hv : Option Value) (p : Program) (w : World) (h : Heap) (g : Array GenState) (d : Drawn) (t : Nat) (os : OsState) (Q : Result → Shared → Prop) (E : Value → Shared → Prop)
  (KX : (Kh w.params).In h) (i : Int) (ti : Tok) (x : Str) (tx : Tok) (y : Str) (ty : Tok) (e dx : Addr) (vs : Array Value) (sl : Array (Option Value)) (h1 h2 h3 : Int) (t1 t2 t3 tn : Tok) (n : Nat)
  (H1 : h.get? e = some { cls := .ref 102, dict := some dx, data := .fields vs, slots := sl }) (H2 : h.get? dx = some { cls := .type "dict", data := .dict #[⟨h1, .str (Str.ofString "smtp_code") t1, .int i ti⟩, ⟨h2, .str (Str.ofString "smtp_error") t2, .str x tx⟩] n })
  (hQ : ∀ tk, Q (.ok (.ret (.str x tx))) ⟨h, g, d, tk, os⟩) :
  wpAny (model p w) { handled := hv, depth := 900, frames := none, guards := none, units := 9000 } (.call (.call (.builtin "BaseException.__getattribute__") ⟨[.ref e, .str (Str.ofString "smtp_error") tn], []⟩) none false [] .pure) Q E ⟨h, g, d, t, os⟩ := by
  x_run
theorem x_get_90_smtp_code (hv : Option Value) (p : Program) (w : World) (h : Heap) (g : Array GenState) (d : Drawn) (t : Nat) (os : OsState) (Q : Result → Shared → Prop) (E : Value → Shared → Prop)
  (KX : (Kh w.params).In h) (i : Int) (ti : Tok) (x : Str) (tx : Tok) (y : Str) (ty : Tok) (e dx : Addr) (vs : Array Value) (sl : Array (Option Value)) (h1 h2 h3 : Int) (t1 t2 t3 tn : Tok) (n : Nat)
  (H1 : h.get? e = some { cls := .ref 90, dict := some dx, data := .fields vs, slots := sl }) (H2 : h.get? dx = some { cls := .type "dict", data := .dict #[⟨h1, .str (Str.ofString "smtp_code") t1, .int i ti⟩, ⟨h2, .str (Str.ofString "smtp_error") t2, .str x tx⟩, ⟨h3, .str (Str.ofString "sender") t3, .str y ty⟩] n })
  (hQ : ∀ tk, Q (.ok (.ret (.int i ti))) ⟨h, g, d, tk, os⟩) :
  wpAny (model p w) { handled := hv, depth := 900, frames := none, guards := none, units := 9000 } (.call (.call (.builtin "BaseException.__getattribute__") ⟨[.ref e, .str (Str.ofString "smtp_code") tn], []⟩) none false [] .pure) Q E ⟨h, g, d, t, os⟩ := by
  x_run
theorem x_get_90_smtp_error (hv : Option Value) (p : Program) (w : World) (h : Heap) (g : Array GenState) (d : Drawn) (t : Nat) (os : OsState) (Q : Result → Shared → Prop) (E : Value → Shared → Prop)
  (KX : (Kh w.params).In h) (i : Int) (ti : Tok) (x : Str) (tx : Tok) (y : Str) (ty : Tok) (e dx : Addr) (vs : Array Value) (sl : Array (Option Value)) (h1 h2 h3 : Int) (t1 t2 t3 tn : Tok) (n : Nat)
  (H1 : h.get? e = some { cls := .ref 90, dict := some dx, data := .fields vs, slots := sl }) (H2 : h.get? dx = some { cls := .type "dict", data := .dict #[⟨h1, .str (Str.ofString "smtp_code") t1, .int i ti⟩, ⟨h2, .str (Str.ofString "smtp_error") t2, .str x tx⟩, ⟨h3, .str (Str.ofString "sender") t3, .str y ty⟩] n })
  (hQ : ∀ tk, Q (.ok (.ret (.str x tx))) ⟨h, g, d, tk, os⟩) :
  wpAny (model p w) { handled := hv, depth := 900, frames := none, guards := none, units := 9000 } (.call (.call (.builtin "BaseException.__getattribute__") ⟨[.ref e, .str (Str.ofString "smtp_error") tn], []⟩) none false [] .pure) Q E ⟨h, g, d, t, os⟩ := by
  x_run
theorem x_get_90_sender (hv : Option Value) (p : Program) (w : World) (h : Heap) (g : Array GenState) (d : Drawn) (t : Nat) (os : OsState) (Q : Result → Shared → Prop) (E : Value → Shared → Prop)
  (KX : (Kh w.params).In h) (i : Int) (ti : Tok) (x : Str) (tx : Tok) (y : Str) (ty : Tok) (e dx : Addr) (vs : Array Value) (sl : Array (Option Value)) (h1 h2 h3 : Int) (t1 t2 t3 tn : Tok) (n : Nat)
  (H1 : h.get? e = some { cls := .ref 90, dict := some dx, data := .fields vs, slots := sl }) (H2 : h.get? dx = some { cls := .type "dict", data := .dict #[⟨h1, .str (Str.ofString "smtp_code") t1, .int i ti⟩, ⟨h2, .str (Str.ofString "smtp_error") t2, .str x tx⟩, ⟨h3, .str (Str.ofString "sender") t3, .str y ty⟩] n })
  (hQ : ∀ tk, Q (.ok (.ret (.str y ty))) ⟨h, g, d, tk, os⟩) :
  wpAny (model p w) { handled := hv, depth := 900, frames := none, guards := none, units := 9000 } (.call (.call (.builtin "BaseException.__getattribute__") ⟨[.ref e, .str (Str.ofString "sender") tn], []⟩) none false [] .pure) Q E ⟨h, g, d, t, os⟩ := by
  x_run
end Mine
end
/-! ## E3 -/
section
open PySem PySem.W PySem.Calls PyProof.Rows
set_option maxRecDepth 100000
namespace Mine
theorem wp_getE {prog : Program} {w : World} {A : Around} {E Q : Value → Shared → Prop} {s : Shared} {K : Frag} (X : K.In s.heap) {e C : Addr} {oe : Obj} {name : Str} {expr : Bool} (ho : s.heap.get? e = some oe) (hc : oe.cls = .ref C)
    (hga : findIn K (.ref C) "__getattribute__" = some (some (.builtin "BaseException.__getattribute__"))) (hgt : findIn K (.ref C) "__getattr__" = some none)
    (h : wpAny (model prog w) A (call (.builtin "BaseException.__getattribute__") [.ref e, .str name s.toks]) (fun v s' => handedIn v = true ∧ Q v s') (fun _ _ => False) { s with toks := s.toks + 1 }) : wpAny (model prog w) A (getAttr (.ref e) name expr) Q E s := by
  obtain ⟨hh, g, d, t, os⟩ := s
  have L0 : Looks (model prog w) hh (typeOf (.ref e)) (.ref C) := hc ▸ (Looks.ld ho).andThen .now
  have L1 := looks_findIn (M := model prog w) X hga
  have L2 := looks_findIn (M := model prog w) X hgt
  have hx : (onTheHeap (Value.ref C) && Value.builtin "BaseException.__getattribute__" == Value.builtin "object.__getattribute__") = false := by
    rw [show (Value.builtin "BaseException.__getattribute__" == Value.builtin "object.__getattribute__") = false by decide +kernel]; rfl
  have hx0 : (expr && onTheHeap (Value.builtin "BaseException.__getattribute__")) = false := by cases expr <;> rfl
  unfold getAttr getAttrBy
  refine wpAny_bind (wpAny_mkText (wpAny_holding (wpAny_bind (L0.at (wpAny_bind (L1.at ?_))))))
  dsimp only
  rw [hx, if_neg (by decide)]
  unfold getAttrByItsOwn
  refine wpAny_bind (m := hookBefore (.ref C)) ?_
  show wpAny _ _ (typeLookup (.ref C) "__getattr__") _ _ _
  refine L2.at ?_
  refine wpAny_bind (wpAny_attempt (wpAny_holding ?_))
  unfold callGetattribute
  rw [hx0, if_neg (by decide)]
  unfold boundAndCalled
  rw [F.excAttr_ValueError.ga.bind (.ref e)]
  refine wpAny_bind (wpAny_pure ?_)
  refine wpAny_mono h (fun v s' hv => ?_) fun _ _ x => x.elim
  show wpAny _ _ (handedOut v) _ _ _
  rw [handedOut_of hv.1]
  exact wpAny_pure hv.2
end Mine
end
/-! ## E4 -/
section
open PySem PySem.W PySem.Calls PyProof.Rows
set_option maxRecDepth 100000
namespace Mine
/-- an exception on its way: base stays, e bears the frame fl -/
structure XS (base : Heap) (l : List Env) (e : Addr) (oe : Obj) (fl : Value) (h : Heap) : Prop where
  keep : base.StaysIn h
  new : base.get? e = none
  frames : h.FunFrames base l
  exc : ∃ vs T oT ts, h.get? e = some { oe with data := .fields vs } ∧ vs[1]? = some (.ref T) ∧ base.get? T = none ∧ T ≠ e ∧ h.get? T = some oT ∧ oT.data = .fields ts ∧ ts[3]? = some fl
section
variable {M : Model} {A : Around} {E : Value → Shared → Prop} {s : Shared} {base : Heap} {env : Env} {outer : List Env} {L e : Addr} {oe : Obj} {vs : Array Value}
theorem wp_entry {head : Value} {hadNext : Bool} {Q : Unit → Shared → Prop} (hfr : A.frames = some (env :: outer)) (hl : s.heap.FunFrames base (env :: outer)) (hf : env.frame = some L) (he : s.heap.get? e = some { oe with data := .fields vs })
    (hkb : base.StaysIn s.heap) (hen : base.get? e = none) (hsz : 1 < vs.size) (h : ∀ h', XS base (env :: outer) e oe (rawInt L) h' → s.heap.UpToSlots h' → Q () { s with heap := h' }) :
    wpAny M A (do let a ← frameOf env; let pl ← entryPlaceOf L hadNext; let b ← EntryCells.newEntry head a .none (rawInt L) .none pl; setField (.ref e) 1 b) Q E s := by
  have hnf : e ∉ (env :: outer).filterMap (·.frame) := fun hm => by
    obtain ⟨_, o, ho, hn⟩ := hl.mem hm
    rw [he] at ho
    cases ho
    exact hn vs rfl
  refine wpAny_bind (wpAny_frameOf_fun hfr hl hf fun h₁ hs₁ => ?_)
  refine wpAny_bind (wpAny_entryPlaceOf fun pl hpl => ?_)
  unfold EntryCells.newEntry newFields
  refine wpAny_bind (wpAny_newObj_type ?_ (hpl.sizeOk5 _ _ _ _ _))
  have he₁ : h₁.get? e = some { oe with data := .fields vs } := (hs₁.2.1 e hnf).trans he
  have hTe : h₁.objs.size ≠ e := Nat.ne_of_gt (Heap.lt_size he₁)
  generalize hoT : ({ cls := .type "traceback", dict := none, data := .fields ([head, .ref L, .none, rawInt L, .none] ++ (if pl.isEmpty then List.replicate 6 Value.none else pl)).toArray } : Obj) = oT
  have he₂ : (h₁.push oT).get? e = some { oe with data := .fields vs } := Heap.get?_push_of_some _ he₁
  have hT₂ : (h₁.push oT).get? h₁.objs.size = some oT := Heap.get?_push_size _ (by rw [← hoT]; rfl)
  refine wpAny_setField he₂ rfl hsz (h _ ?_ ?_)
  · have away : ∀ b o, b ≠ e → h₁.get? b = some o → ((h₁.push oT).update e (Obj.mapFields (·.setIfInBounds 1 (.ref h₁.objs.size)))).get? b = some o := fun b o hb hq => by
      rw [Heap.get?_update_other _ _ (Ne.symm hb)]
      exact Heap.get?_push_of_some _ hq
    have kb₁ : base.StaysIn h₁ := fun b o hb => (hs₁.2.1 b fun hm => by rw [(hl.mem hm).1] at hb; cases hb).trans (hkb b o hb)
    refine ⟨fun b o hb => away b o (fun z => by rw [z, hen] at hb; cases hb) (kb₁ b o hb), hen, ?_, ?_⟩
    · refine hl.of_keeps fun b o hb hn => ?_
      obtain ⟨sl, hsl⟩ := hs₁.2.2 b o hb
      exact ⟨_, away b _ (fun z => by rw [z, he] at hb; cases hb; exact hn vs rfl) hsl, rfl⟩
    · refine ⟨vs.setIfInBounds 1 (.ref h₁.objs.size), h₁.objs.size, oT, ([head, .ref L, .none, rawInt L, .none] ++ (if pl.isEmpty then List.replicate 6 Value.none else pl)).toArray, ?_, ?_, kb₁.fresh, hTe, ?_, by rw [← hoT], ?_⟩
      · exact Heap.get?_update_self (Obj.mapFields (·.setIfInBounds 1 (.ref h₁.objs.size))) he₂ rfl
      · simp [hsz]
      · rw [Heap.get?_update_other _ _ (Ne.symm hTe)]
        exact hT₂
      · first
          | (simp; done)
          | (rcases hpl with rfl | ⟨_, _, _, _, _, _, _, rfl⟩ <;> simp)
  · intro b o hb hn
    obtain ⟨sl, hsl⟩ := hs₁.2.2 b o hb
    refine ⟨sl, ?_⟩
    rw [Heap.get?_update_other _ _ (fun z => by rw [← z, he] at hb; cases hb; exact hn vs rfl)]
    exact Heap.get?_push_of_some _ hsl
/-- the frame is noted first -/
theorem wp_note_first {Q : Unit → Shared → Prop} (hfr : A.frames = some (env :: outer)) (hl : s.heap.FunFrames base (env :: outer)) (hf : env.frame = some L) (he : s.heap.get? e = some { oe with data := .fields vs }) (h1 : vs[1]? = some .none)
    (hkb : base.StaysIn s.heap) (hen : base.get? e = none) (h : ∀ h', XS base (env :: outer) e oe (rawInt L) h' → s.heap.UpToSlots h' → Q () { s with heap := h' }) : wpAny M A (noteFrame (.ref e) env) Q E s := by
  unfold noteFrame
  simp only [hf]
  refine wpAny_bind (wpAny_field he rfl h1 ?_)
  rw [if_neg (by decide)]
  exact wp_entry hfr hl hf he hkb hen (Array.getElem?_eq_some_iff.mp h1).1 h
/-- the flight is ended -/
theorem wp_land {l : List Env} {fl : Value} {Q : Unit → Shared → Prop} (X : XS base l e oe fl s.heap) (h : ∀ h', XS base l e oe .none h' → s.heap.UpToSlots h' → Q () { s with heap := h' }) : wpAny M A (setFlight (.ref e) none) Q E s := by
  obtain ⟨vs, T, oT, ts, he, h1, hnT, hTe, hT, hdT, h3⟩ := X.exc
  have other : ∀ b, b ≠ T → (s.heap.update T (Obj.mapFields (·.setIfInBounds 3 ((none : Option Addr).elim Value.none fun f => rawInt f)))).get? b = s.heap.get? b := fun b hb => Heap.get?_update_other _ _ (Ne.symm hb)
  have nT : ∀ b o, s.heap.get? b = some o → (∀ ws, o.data ≠ .fields ws) → b ≠ T := fun b o hb hn z => by
    rw [z, hT] at hb; cases hb; exact hn ts hdT
  unfold setFlight
  refine wpAny_bind (wpAny_field he rfl h1 ?_)
  rw [if_pos (show (Value.ref T != Value.none) = true from by simp)]
  refine wpAny_setField hT hdT (Array.getElem?_eq_some_iff.mp h3).1 (h _ ?_ ?_)
  · refine ⟨fun b o hb => (other b fun z => by rw [z, hnT] at hb; cases hb).trans (X.keep b o hb), X.new, X.frames.of_keeps fun b o hb hn => ⟨o, (other b (nT b o hb hn)).trans hb, rfl⟩, vs, T, _, _, (other e (Ne.symm hTe)).trans he, h1, hnT, hTe, Heap.get?_update_self _ hT (Obj.isFreed_of_fields (Obj.data_mapFields hdT _)), Obj.data_mapFields hdT _, by simp [(Array.getElem?_eq_some_iff.mp h3).1]⟩
  · exact fun b o hb hn => ⟨o.slots, (other b (nT b o hb hn)).trans hb⟩
/-- the next frame is noted -/
theorem wp_note_next {Q : Unit → Shared → Prop} (hfr : A.frames = some (env :: outer)) (hf : env.frame = some L) (X : XS base (env :: outer) e oe .none s.heap)
    (h : ∀ h', XS base (env :: outer) e oe (rawInt L) h' → s.heap.UpToSlots h' → Q () { s with heap := h' }) : wpAny M A (noteFrame (.ref e) env) Q E s := by
  obtain ⟨vs, T, oT, ts, he, h1, hnT, hTe, hT, hdT, h3⟩ := X.exc
  have other : ∀ b, b ≠ T → (s.heap.update T (Obj.mapFields (·.setIfInBounds 3 Value.none))).get? b = s.heap.get? b := fun b hb => Heap.get?_update_other _ _ (Ne.symm hb)
  have nT : ∀ b o, s.heap.get? b = some o → (∀ ws, o.data ≠ .fields ws) → b ≠ T := fun b o hb hn z => by
    rw [z, hT] at hb; cases hb; exact hn ts hdT
  unfold noteFrame
  simp only [hf]
  refine wpAny_bind (wpAny_field he rfl h1 ?_)
  rw [if_pos (show (Value.ref T != Value.none) = true from by simp)]
  refine wpAny_bind (wpAny_field hT hdT h3 ?_)
  rw [if_neg (show ¬ ((Value.none == rawInt L) = true) from by simp [rawInt])]
  refine wpAny_bind (wpAny_setField hT hdT (Array.getElem?_eq_some_iff.mp h3).1 ?_)
  refine wp_entry (base := base) hfr (X.frames.of_keeps fun b o hb hn => ⟨o, (other b (nT b o hb hn)).trans hb, rfl⟩) hf ((other e (Ne.symm hTe)).trans he) (fun b o hb => (other b fun z => by rw [z, hnT] at hb; cases hb).trans (X.keep b o hb)) X.new (Array.getElem?_eq_some_iff.mp h1).1 fun h' x1 x2 => h h' x1 fun b o hb hn => ?_
  exact x2 b o ((other b (nT b o hb hn)).trans hb) hn
/-- a frame is left -/
theorem wp_leave_first {Q : Unit → Shared → Prop} (hfr : A.frames = some (env :: outer)) (hl : s.heap.FunFrames base (env :: outer)) (hf : env.frame = some L) (he : s.heap.get? e = some { oe with data := .fields vs }) (h1 : vs[1]? = some .none)
    (hkb : base.StaysIn s.heap) (hen : base.get? e = none) (h : ∀ h', XS base outer e oe .none h' → s.heap.UpToSlots h' → Q () { s with heap := h' }) : wpAny M A (leaving env (.ref e)) Q E s := by
  unfold leaving
  refine wpAny_bind (wp_note_first hfr hl hf he h1 hkb hen fun h₁ X₁ U₁ => wp_land X₁ fun h₂ X₂ U₂ => h h₂ ⟨X₂.keep, X₂.new, X₂.frames.2.2, X₂.exc⟩ (U₁.trans U₂))
end
end Mine
end
/-! ## E5 -/
section
open PySem PySem.W PySem.Calls PyProof.Rows
set_option maxRecDepth 100000
namespace Mine
/-- what is told of an exception's class -/
structure EK (K : Frag) (C : Addr) : Prop where
  ty : typeIn K (.ref C) = some (.type "type")
  sub : subIn K (.ref C) (.type "BaseException") = some true
  ga : findIn K (.ref C) "__getattribute__" = some (some (.builtin "BaseException.__getattribute__"))
  gt : findIn K (.ref C) "__getattr__" = some none
section
variable {M : Model} {A : Around} {E : Value → Shared → Prop} {s : Shared} {env : Env}
theorem wp_raise {K : Frag} {cl : Expr} {pos : Pos} {Q : Flow → Shared → Prop} (hh : A.handled = none)
    (h : wpAny M A (eval cl env) (fun v s₁ => ∃ e C oe vs, v = .ref e ∧ K.In s₁.heap ∧ EK K C ∧ s₁.heap.get? e = some oe ∧ oe.cls = .ref C ∧ oe.data = .fields vs ∧ vs[1]? = some .none ∧ E (.ref e) s₁) E s) :
    wpAny M A (exec (.Raise (some cl) none pos) env) Q E s := by
  rw [arm_exec_Raise]
  refine wpAny_bind (wpAny_standAt ?_)
  show wpAny M A (raiseStmt env (some (do let v ← eval cl env; standAt pos; pure v)) none) Q E s
  unfold raiseStmt
  dsimp only
  refine wpAny_bind (wpAny_bind (wpAny_mono h (fun v s₁ h₁ => ?_) fun _ _ x => x))
  obtain ⟨e, C, oe, vs, rfl, X, B, ho, hc, hd, h1, hE⟩ := h₁
  obtain ⟨hp, g, d, tk, os⟩ := s₁
  have LT : Looks M hp (typeOf (.ref e)) (.ref C) := hc ▸ (Looks.ld ho).andThen .now
  have LC := looks_typeIn (M := M) X B.ty
  have LS := looks_subIn (M := M) X B.sub
  have LI : Looks M hp (isType (.ref e)) false := by
    exact (Looks.ld ho).andThen (by rw [hd]; exact .now)
  refine wpAny_bind (wpAny_standAt (wpAny_pure ?_))
  refine wpAny_bind (wpAny_pure ?_)
  refine wpAny_bind (wpAny_holding ?_)
  unfold excFromValue isExcClass
  refine wpAny_bind (wpAny_bind (LI.at ?_))
  rw [if_neg (by decide)]
  refine wpAny_pure ?_
  rw [if_neg (by decide)]
  refine wpAny_bind ?_
  unfold isInstance
  refine wpAny_bind (LT.at (LS.at ?_))
  rw [if_pos rfl]
  refine wpAny_pure ?_
  refine wpAny_bind (LI.at ?_)
  rw [if_neg (by decide)]
  refine wpAny_bind ?_
  unfold raisedInstance
  refine wpAny_bind (LT.at (wpAny_bind (LC.at ?_)))
  rw [if_pos (by decide)]
  refine wpAny_pure ?_
  refine wpAny_bind ?_
  unfold setFlight
  refine wpAny_bind (wpAny_field ho hd h1 ?_)
  rw [if_neg (by decide)]
  refine wpAny_pure ?_
  exact wpAny_raiseNew_none hh hE
end
end Mine
end
/-! ## E6 -/
section
open PySem PySem.W PySem.Calls PyProof.Rows
set_option maxRecDepth 100000
namespace Mine
/-- a def is called: its frame -/
theorem call_frm {c : Cx} {x : Str} {fa : Addr} {i : Nat} {ns : List Str} {ds : List PyData} {A : Around} {g : Heap} {s : Shared} {vs : List Value} {Q E : Value → Shared → Prop} {n : Nat} (D : DF c x fa i) (hlen : ds.length = ns.length)
    (hbind : ∀ fd : FuncData, fd.params = argsAt i → fd.defaults = .none → ∀ vs : List Value, vs.length = ns.length → bindArgs fd ⟨vs, []⟩ = pure (ns.zip vs)) (hnd : ns.Nodup)
    (hkind : ∀ x ∈ ns, (scopeAt i).names.lookup x = some .local ∨ ((scopeAt i).names.lookup x = some .cell ∧ ∀ k, ((cellsFrom k (scopeAt i).names []).lookup x).isSome = true))
    (hr : Rm (n + 1) A) (hg : c.g0.StaysIn g) (k : g.StaysIn s.heap) (tk : 1 ≤ s.toks) (r : RdA g vs ds)
    (h : ∀ q code s₁, Frm c g s ({} : Heap) (envAt i s.heap.objs.size fa q code) [] (ns.zip ds) g s₁ → Rm n (A.deeper (envAt i s.heap.objs.size fa q code)) →
      wpAny (model c.prog c.w) (A.deeper (envAt i s.heap.objs.size fa q code)) (execs (bodyAt i) (envAt i s.heap.objs.size fa q code)) (fun f s' => Q (match f with | .ret v => v | _ => .none) s')
        (fun e s' => wpAny (model c.prog c.w) (A.deeper (envAt i s.heap.objs.size fa q code)) (leaving (envAt i s.heap.objs.size fa q code) e) (fun _ s'' => E e s'') (fun e' s'' => E e' s'') s') s₁)
    (hco : (scopeAt i).isCoroutine = false) (hgen : (scopeAt i).isGenerator = false) (hk : (scopeAt i).kind = .function) : wpAny (model c.prog c.w) A (call (.ref fa) vs) Q E s := by
  obtain ⟨fd, D, h1, h2, h3, h4⟩ := D
  obtain ⟨o, ho, hdat⟩ := D.there
  have st := stays_trans hg k
  have hvl : vs.length = ns.length := by rw [r.length, hlen]
  have e : callEnvC fd s.heap.objs.size fa = envAt i s.heap.objs.size fa fd.qualname fd.code := by unfold callEnvC envAt; rw [h2, D.glob, D.bi]
  refine wpAny_call (call_cells_tk (binds := ns.zip vs) hr.room (st _ _ ho) hdat (D.lim.keeps st) (D.code.keeps st) h1 (hbind fd h3 h4 vs hvl) D.clo tk (fun p hp => ?_) (fun s₁ tk₁ I => ?_) (by rw [h2]; exact hco) (by rw [h2]; exact hgen) (by rw [h2]; exact hk))
  · obtain ⟨y, v⟩ := p
    rw [h2]
    rcases hkind y (List.of_mem_zip hp).1 with h | ⟨h, h'⟩
    · exact .inl h
    · exact .inr ⟨h, h' _⟩
  · rw [e] at I ⊢
    have names := zip_names ns vs hvl
    have F : Frm c g s ({} : Heap) (envAt i s.heap.objs.size fa fd.qualname fd.code) [] (ns.zip ds) g s₁ := by
      refine ⟨hk, rfl, rfl, hg, stays_refl _, stays_trans k I.toInCall.keep, fun a o e => .inl e, ?_, (fun _ _ e => (nomatch e)), rfl, (fun _ _ _ => rfl), (fun y a e => ?_), (fun _ => .inr rfl), tk₁, _, _, I, (fun _ _ e => nomatch e), fun y e he => ?_⟩
      · cases q : g.get? (envAt i s.heap.objs.size fa fd.qualname fd.code).locals with
        | none => rfl
        | some o => exact absurd (Heap.lt_size (k _ _ q)) (Nat.not_lt.mpr I.toInCall.fresh)
      · cases q : g.get? a with
        | none => rfl
        | some o => exact absurd (Heap.lt_size (k _ _ q)) (Nat.not_lt.mpr (Nat.le_trans I.toInCall.fresh (Nat.le_of_lt (I.above y a (PySem.mem_of_lookup e)))))
      · obtain ⟨v, hv, rv⟩ := zip_lookup r he
        refine ⟨v, rv, ?_⟩
        have hy : y ∈ ns := (List.of_mem_zip (PySem.mem_of_lookup he)).1
        rcases hkind y hy with h | ⟨h, h'⟩
        · exact .inl ⟨h, (bindL_at h _ _ (by rw [names]; exact hnd)).1 hv⟩
        · refine .inr ⟨h, Option.isSome_iff_exists.mp (h' _), (bindC_at ?_ _ _ (by rw [names]; exact hnd)).1 hv⟩
          rw [show (envAt i s.heap.objs.size fa fd.qualname fd.code).kindOf y = some .cell from h]
          decide
    exact h fd.qualname fd.code s₁ F hr.deeper
/-- the heap less the frames of l and e -/
noncomputable def but (h : Heap) (l : List Env) (e : Addr) : Heap := only h fun a => a ≠ e ∧ ∀ env ∈ l, env.frame ≠ some a
theorem but_stays (h : Heap) (l : List Env) (e : Addr) : (but h l e).StaysIn h := fun a o q => (only_get.mp q).2
theorem but_get {h : Heap} {l : List Env} {e a : Addr} {o : Obj} (q : h.get? a = some o) (h1 : a ≠ e) (h2 : ∀ env ∈ l, env.frame ≠ some a) : (but h l e).get? a = some o := only_get.mpr ⟨⟨h1, h2⟩, q⟩
theorem but_e (h : Heap) (l : List Env) (e : Addr) : (but h l e).get? e = none := by
  cases q : (but h l e).get? e with
  | none => rfl
  | some o => exact absurd rfl (only_get.mp q).1.1
theorem but_frame {h : Heap} {l : List Env} {e L : Addr} {env : Env} (hm : env ∈ l) (hf : env.frame = some L) : (but h l e).get? L = none := by
  cases q : (but h l e).get? L with
  | none => rfl
  | some o => exact absurd hf ((only_get.mp q).1.2 env hm)
/-- frames that stand in h -/
noncomputable def Fs (h : Heap) : List Env → Prop
  | [] => True
  | env :: r => (env.scope.kind ≠ .module ∧ ∃ L o, env.frame = some L ∧ h.get? L = some o ∧ ∀ vs, o.data ≠ .fields vs) ∧ Fs h r
theorem Fs.funFrames {h : Heap} {l₀ : List Env} {e : Addr} : ∀ {l : List Env}, (∀ env ∈ l, env ∈ l₀) → Fs h l → h.FunFrames (but h l₀ e) l
  | [], _, _ => trivial
  | env :: r, hm, ⟨⟨hk, L, o, hf, ho, hd⟩, hr⟩ => ⟨hk, ⟨L, o, hf, but_frame (hm env (.head _)) hf, ho, hd⟩, Fs.funFrames (fun e' h' => hm e' (.tail _ h')) hr⟩
theorem Fs.up {h h' : Heap} (k : h.UpToSlots h') : ∀ {l : List Env}, Fs h l → Fs h' l
  | [], _ => trivial
  | env :: r, ⟨⟨hk, L, o, hf, ho, hd⟩, hr⟩ => by
    obtain ⟨sl, e⟩ := k L o ho hd
    exact ⟨⟨hk, L, _, hf, e, hd⟩, Fs.up k hr⟩
theorem up_of_stays {h h' : Heap} (k : h.StaysIn h') : h.UpToSlots h' := .of_keeps k
end Mine
end
/-! ## E7 -/
section
open PySem PySem.W PySem.Calls PyProof.Rows
set_option maxHeartbeats 1000000
set_option maxRecDepth 100000
namespace Mine
structure Ek (c : Cx) : Prop where
  X : (Kh c.w.params).In c.g0
  p : c.prog = PySem.Challenge.pw_jc0014_01
  n90 : GN c (Str.ofString "SMTPSenderRefused") (.ref 90)
  n102 : GN c (Str.ofString "SMTPDataError") (.ref 102)
  k90 : EK (Kh c.w.params) 90
  k102 : EK (Kh c.w.params) 102
  c90 : keepIn (Kh c.w.params) (.ref 90) = true
  c102 : keepIn (Kh c.w.params) (.ref 102) = true
  m1 : exmOne (Kh c.w.params) (.ref 102) (.ref 102) = some true
  m2 : exmOne (Kh c.w.params) (.ref 90) (.ref 102) = some false
  m3 : exmOne (Kh c.w.params) (.ref 90) (.ref 90) = some true
theorem k_exc {c : Cx} (hR : PySem.Challenge.rw_jc0014_01 = PySem.Challenge.rw_jc0014_01) (B : Bs c) (X : (Kh c.w.params).In c.g0) : Ek c := by
  have hp : c.prog = PySem.Challenge.pw_jc0014_01 := B.prog
  revert hR X; k_fill; intro hR X
  exact ⟨X, hp, gn_of B (by k_is), gn_of B (by k_is), ⟨by k_is, by k_is, by k_is, by k_is⟩, ⟨by k_is, by k_is, by k_is, by k_is⟩, by k_is, by k_is, by kernel_rfl, by kernel_rfl, by kernel_rfl⟩
/-- what an exception bears -/
noncomputable def bears (C : Addr) (i : Int) (x : Str) (o : Obj) : Prop := ∃ (h1 h2 : Int) (t1 t2 ti tx : Tok) (n : Nat), 
  (C = 102 ∧ o = dictOf [⟨h1, .str (Str.ofString "smtp_code") t1, .int i ti⟩, ⟨h2, .str (Str.ofString "smtp_error") t2, .str x tx⟩] n) ∨
  (C = 90 ∧ ∃ (h3 : Int) (t3 ty : Tok), o = dictOf [⟨h1, .str (Str.ofString "smtp_code") t1, .int i ti⟩, ⟨h2, .str (Str.ofString "smtp_error") t2, .str x tx⟩, ⟨h3, .str (Str.ofString "sender") t3, .str (Str.ofString "a") ty⟩] n)
section
variable {c : Cx} {A : Around}
theorem wp_make102 (K : Ek c) {g : Heap} {s : Shared} {u v : Value} {i : Int} {x : Str} {Q E : Value → Shared → Prop} (r : Rm 0 A) (hg : c.g0.StaysIn g) (k : g.StaysIn s.heap) (ru : Rd g u (.int i)) (rv : Rd g v (.str x))
    (hQ : ∀ a dx e h' tk od, s.heap.StaysIn h' → s.heap.get? e = none → s.heap.get? dx = none → h'.get? e = some (excObj 102 dx a) → h'.get? dx = some od → bears 102 i x od → Q (.ref e) { s with heap := h', toks := tk }) : wpAny (model c.prog c.w) A (call (.ref 102) [u, v]) Q E s := by
  obtain ⟨h, gs, d, t, os⟩ := s
  simp only at k
  first | (obtain ⟨_, rfl⟩ := rdI ru) | (obtain ⟨_, rfl⟩ := rdS ru) | (obtain rfl := rdN ru) | cases ru
  first | (obtain ⟨_, rfl⟩ := rdI rv) | (obtain ⟨_, rfl⟩ := rdS rv) | (obtain rfl := rdN rv) | cases rv
  rw [K.p]
  refine call_tree (wpAny_up (A' := A0) (x_exc102 _ c.w h gs d t os _ _ (K.X.keeps (stays_trans hg k)) _ _ _ _ fun h' tk a dx e h1 h2 t1 t2 n k1 k2 k3 k4 k5 => ?_) r.h (by have := r.d; show A.depth ≤ 900; lia) (by have := r.u; show A.units ≤ 9000; lia) rfl rfl)
  exact hQ a dx e h' tk _ k1 k2 k3 k4 k5 ⟨h1, h2, t1, t2, _, _, n, .inl ⟨rfl, rfl⟩⟩
theorem wp_make90 (K : Ek c) {g : Heap} {s : Shared} {u v z : Value} {i : Int} {x : Str} {Q E : Value → Shared → Prop} (r : Rm 0 A) (hg : c.g0.StaysIn g) (k : g.StaysIn s.heap) (ru : Rd g u (.int i)) (rv : Rd g v (.str x)) (rz : Rd g z (.str (Str.ofString "a")))
    (hQ : ∀ a dx e h' tk od, s.heap.StaysIn h' → s.heap.get? e = none → s.heap.get? dx = none → h'.get? e = some (excObj 90 dx a) → h'.get? dx = some od → bears 90 i x od → Q (.ref e) { s with heap := h', toks := tk }) : wpAny (model c.prog c.w) A (call (.ref 90) [u, v, z]) Q E s := by
  obtain ⟨h, gs, d, t, os⟩ := s
  simp only at k
  first | (obtain ⟨_, rfl⟩ := rdI ru) | (obtain ⟨_, rfl⟩ := rdS ru) | (obtain rfl := rdN ru) | cases ru
  first | (obtain ⟨_, rfl⟩ := rdI rv) | (obtain ⟨_, rfl⟩ := rdS rv) | (obtain rfl := rdN rv) | cases rv
  first | (obtain ⟨_, rfl⟩ := rdI rz) | (obtain ⟨_, rfl⟩ := rdS rz) | (obtain rfl := rdN rz) | cases rz
  rw [K.p]
  refine call_tree (wpAny_up (A' := A0) (x_exc90 _ c.w h gs d t os _ _ (K.X.keeps (stays_trans hg k)) _ _ _ _ _ _ fun h' tk a dx e h1 h2 h3 t1 t2 t3 n k1 k2 k3 k4 k5 => ?_) r.h (by have := r.d; show A.depth ≤ 900; lia) (by have := r.u; show A.units ≤ 9000; lia) rfl rfl)
  exact hQ a dx e h' tk _ k1 k2 k3 k4 k5 ⟨h1, h2, t1, t2, _, _, n, .inr ⟨rfl, h3, t3, _, rfl⟩⟩
end
/-- what a refused asking hands on -/
noncomputable def Flies (outer : List Env) (C : Addr) (i : Int) (x : Str) (s : Shared) (e : Addr) (h' : Heap) : Prop :=
  ∃ base a dx od, (∀ b o, s.heap.get? b = some o → (∀ env ∈ outer, env.frame ≠ some b) → base.get? b = some o) ∧ XS base outer e (excObj C dx a) .none h' ∧ s.heap.UpToSlots h' ∧ s.heap.get? e = none ∧ s.heap.get? dx = none ∧ base.get? dx = some od ∧ bears C i x od
end Mine
end
/-! ## E8 -/
section
open PySem PySem.W PySem.Calls PyProof.Rows
set_option maxHeartbeats 1000000
set_option maxRecDepth 100000
namespace Mine
noncomputable abbrev askNs : List Str := [Str.ofString "place", Str.ofString "own", Str.ofString "heard", Str.ofString "row"]
noncomputable abbrev askDs (k own heard : Int) (row : Str) : List PyData := [.int k, .int own, .int heard, .str row]
theorem ask_bind : ∀ fd : FuncData, fd.params = argsAt 29 → fd.defaults = .none → ∀ vs : List Value, vs.length = askNs.length → bindArgs fd ⟨vs, []⟩ = pure (askNs.zip vs) := by
  exact bind_via fun fd => vs4 fun _ _ _ _ => rfl
section
variable {c : Cx} {A : Around} {env : Env}
theorem tr_asked1 {ρ : List (Str × PyData)} {fn fe : Addr} {k own heard : Int} {p1 p2 p3 p4 p5 p6 p7 p8 p9 p10 p11 p12 p13 p14 p15 p16 : Pos} {i1 i2 i3} (Dn : DF c (Str.ofString "ne") fn 14) (De : DF c (Str.ofString "eq") fe 13) (r : Rm 1 A) (hk : ρ.lookup (Str.ofString "place") = some (.int k)) (ho : ρ.lookup (Str.ofString "own") = some (.int own)) (hh : ρ.lookup (Str.ofString "heard") = some (.int heard))
    (kn : env.kindOf (Str.ofString "ne") = some .globalImplicit) (ke : env.kindOf (Str.ofString "eq") = some .globalImplicit) :
    Tr c A env ρ (.BoolOp .And [.Compare (.Name (Str.ofString "place") p1) [.Eq] [.Constant (.int 0) i1 p2] p3, .Compare (.Call (.Name (Str.ofString "ne") p4) [.Name (Str.ofString "own") p5, .Name (Str.ofString "heard") p6] [] p7) [.Is] [.Constant (.bool true) i2 p8] p9, .Compare (.Call (.Name (Str.ofString "eq") p10) [.Name (Str.ofString "own") p11, .Name (Str.ofString "heard") p12] [] p13) [.Is] [.Constant (.bool false) i3 p14] p15] p16)
      (decide (k = 0) && (((!decide (own = heard)) == true) && ((decide (own = heard) == false) && true))) := by
  have DN := Dn
  have DE := De
  obtain ⟨_, Dnl, _⟩ := Dn
  obtain ⟨_, Del, _⟩ := De
  refine tr_bool (al_and (tr_cmp (d₁ := .int k) (d₂ := .int 0) (ev_name hk) ev_int ?_) fun _ => al_and (tr_cmp (d₁ := .bool (!decide (own = heard))) (d₂ := .bool true) (ev_call Dnl kn (evs_cons (ev_name ho) (evs_cons (ev_name hh) evs_nil)) (f_ne DN) r rfl) ev_bool op_is_bool) fun _ => al_and (tr_cmp (d₁ := .bool (decide (own = heard))) (d₂ := .bool false) (ev_call Del ke (evs_cons (ev_name ho) (evs_cons (ev_name hh) evs_nil)) (f_eq DE) r rfl) ev_bool op_is_bool) fun _ => al_and_nil)
  rw [← eqv_int]
  exact op_eq rfl rfl (r.line _ (by simp [PyData.depth]))
theorem tr_asked2 {ρ : List (Str × PyData)} {fn fe : Addr} {k own heard : Int} {p1 p2 p3 p4 p5 p6 p7 p8 p9 p10 p11 p12 p13 p14 p15 p16 : Pos} {i1 i2 i3} (Dn : DF c (Str.ofString "ne") fn 14) (De : DF c (Str.ofString "eq") fe 13) (r : Rm 1 A) (hk : ρ.lookup (Str.ofString "place") = some (.int k)) (ho : ρ.lookup (Str.ofString "own") = some (.int own)) (hh : ρ.lookup (Str.ofString "heard") = some (.int heard))
    (kn : env.kindOf (Str.ofString "ne") = some .globalImplicit) (ke : env.kindOf (Str.ofString "eq") = some .globalImplicit) :
    Tr c A env ρ (.BoolOp .And [.Compare (.Name (Str.ofString "place") p1) [.NotEq] [.Constant (.int 0) i1 p2] p3, .Compare (.Call (.Name (Str.ofString "eq") p4) [.Name (Str.ofString "own") p5, .Name (Str.ofString "heard") p6] [] p7) [.Is] [.Constant (.bool true) i2 p8] p9, .Compare (.Call (.Name (Str.ofString "ne") p10) [.Name (Str.ofString "own") p11, .Name (Str.ofString "heard") p12] [] p13) [.Is] [.Constant (.bool false) i3 p14] p15] p16)
      ((!decide (k = 0)) && ((decide (own = heard) == true) && (((!decide (own = heard)) == false) && true))) := by
  have DN := Dn
  have DE := De
  obtain ⟨_, Dnl, _⟩ := Dn
  obtain ⟨_, Del, _⟩ := De
  refine tr_bool (al_and (tr_cmp (d₁ := .int k) (d₂ := .int 0) (ev_name hk) ev_int ?_) fun _ => al_and (tr_cmp (d₁ := .bool (decide (own = heard))) (d₂ := .bool true) (ev_call Del ke (evs_cons (ev_name ho) (evs_cons (ev_name hh) evs_nil)) (f_eq DE) r rfl) ev_bool op_is_bool) fun _ => al_and (tr_cmp (d₁ := .bool (!decide (own = heard))) (d₂ := .bool false) (ev_call Dnl kn (evs_cons (ev_name ho) (evs_cons (ev_name hh) evs_nil)) (f_ne DN) r rfl) ev_bool op_is_bool) fun _ => al_and_nil)
  rw [← eqv_int]
  exact op_ne rfl rfl (r.line _ (by simp [PyData.depth]))
end
theorem Tr.cast {c : Cx} {A : Around} {env : Env} {ρ : List (Str × PyData)} {e : Expr} {b b' : Bool} (h : b = b') (t : Tr c A env ρ e b) : Tr c A env ρ e b' := h ▸ t
theorem f_asked {c : Cx} {x : Str} {fa fn fe : Addr} {k own heard : Int} {row : Str} (D : DF c x fa 29) (Dn : DF c (Str.ofString "ne") fn 14) (De : DF c (Str.ofString "eq") fe 13) (hc : (k = 0 ∧ own = heard) ∨ (k ≠ 0 ∧ own ≠ heard)) : Fn c 2 fa (askDs k own heard row) .none := by
  intro A g s vs Q E hr hg kk tk r hQ
  refine call_frm (n := 1) (ns := askNs) D rfl ask_bind (by decide) (kinds_of (by rfl)) hr hg kk tk r (fun q code s₁ F r1 => ?_) rfl rfl rfl
  have h1 : (decide (k = 0) && (((!decide (own = heard)) == true) && ((decide (own = heard) == false) && true))) = false := by
    rcases hc with ⟨a, b⟩ | ⟨a, b⟩ <;> simp [a, b]
  have h2 : ((!decide (k = 0)) && ((decide (own = heard) == true) && (((!decide (own = heard)) == false) && true))) = false := by
    rcases hc with ⟨a, b⟩ | ⟨a, b⟩ <;> simp [a, b]
  refine x_cons (ρ' := askNs.zip (askDs k own heard row)) (o := .next (askNs.zip (askDs k own heard row))) (x_if (b := false) (o := .next _) (Tr.cast h1 (tr_asked1 Dn De r1 rfl rfl rfl rfl rfl)) (fun h => nomatch h) (fun _ => x_nil)) (x_cons (x_if (b := false) (o := .next _) (Tr.cast h2 (tr_asked2 Dn De r1 rfl rfl rfl rfl rfl)) (fun h => nomatch h) (fun _ => x_nil)) x_nil) _ _ _ _ _ _ _ F fun g' s' F' => ?_
  exact hQ _ g' s' F'.gr .none
end Mine
end
/-! ## E9 -/
section
open PySem PySem.W PySem.Calls PyProof.Rows
set_option maxHeartbeats 1000000
set_option maxRecDepth 100000
namespace Mine
/-- an exception made in a frame leaves it -/
theorem leaves_made {c : Cx} {A : Around} {g₀ : Heap} {s₀ : Shared} {k : Heap} {env : Env} {ν : List (Str × Value)} {ρ : List (Str × PyData)} {g : Heap} {s : Shared} {outer : List Env} {C a dx e : Addr} {i : Int} {x : Str} {h' : Heap} {tk : Nat} {od : Obj} {Q : Unit → Shared → Prop} {E : Value → Shared → Prop}
    (F : Frm c g₀ s₀ k env ν ρ g s) (hf : env.frame = some env.locals) (hfr : A.frames = some outer) (hF : Fs s₀.heap outer) (k1 : s.heap.StaysIn h') (k2 : s.heap.get? e = none) (k3 : s.heap.get? dx = none) (k4 : h'.get? e = some (excObj C dx a)) (k5 : h'.get? dx = some od) (hb : bears C i x od)
    (hQ : ∀ h'', Flies outer C i x s₀ e h'' → Q () { s with heap := h'', toks := tk }) : wpAny (model c.prog c.w) (A.deeper env) (leaving env (.ref e)) Q E { s with heap := h', toks := tk } := by
  obtain ⟨m, cm, I, _⟩ := F.fre
  have st : s₀.heap.StaysIn h' := stays_trans I.toInCall.keep k1
  obtain ⟨oL, es, ep, hoL, hdL, _⟩ := id I.toInCall.ns
  have hFs : Fs h' (env :: outer) := ⟨⟨by rw [F.fn]; decide, env.locals, oL, hf, k1 _ _ hoL, fun vs z => by rw [hdL] at z; cases z⟩, Fs.up (up_of_stays st) hF⟩
  have hFF : h'.FunFrames (but h' (env :: outer) e) (env :: outer) := Fs.funFrames (fun _ h => h) hFs
  have hne : dx ≠ e := fun z => by
    rw [z, k4] at k5
    obtain ⟨_, _, _, _, _, _, _, hb⟩ := hb
    rcases hb with ⟨_, rfl⟩ | ⟨_, _, _, _, rfl⟩ <;> cases k5
  refine wp_leave_first (s := { s with heap := h', toks := tk }) (base := but h' (env :: outer) e) (oe := excObj C dx a) (vs := excVals a) (outer := outer) (Around.frames_deeper hfr) hFF hf k4 rfl (but_stays _ _ _) (but_e _ _ _) fun h'' X U => ?_
  refine hQ h'' ⟨but h' (env :: outer) e, a, dx, od, fun b o hbo hn => ?_, X, (up_of_stays st).trans U, ?_, none_of_stays I.toInCall.keep k3, ?_, hb⟩
  · refine but_get (st _ _ hbo) (fun z => ?_) fun env' he => ?_
    · rw [z] at hbo
      rw [I.toInCall.keep _ _ hbo] at k2; cases k2
    · rcases List.mem_cons.mp he with rfl | he
      · rw [hf]
        intro z
        cases z
        exact absurd (Heap.lt_size hbo) (Nat.not_lt.mpr I.toInCall.fresh)
      · exact hn env' he
  · exact none_of_stays I.toInCall.keep k2
  · refine but_get k5 hne fun env' he => ?_
    rcases List.mem_cons.mp he with rfl | he
    · rw [hf]
      intro z
      cases z
      rw [hoL] at k3; cases k3
    · intro z
      have : ∀ {l : List Env}, Fs s.heap l → env' ∈ l → s.heap.get? dx ≠ none := by
        intro l
        induction l with
        | nil => intro _ h; cases h
        | cons e₁ l ih =>
          intro hfs hm
          rcases List.mem_cons.mp hm with rfl | hm
          · obtain ⟨⟨_, L, o, hL, ho, _⟩, _⟩ := hfs
            rw [z] at hL
            cases hL
            rw [ho]
            exact fun q => nomatch q
          · exact ih hfs.2 hm
      exact this (Fs.up (up_of_stays I.toInCall.keep) hF) he k3
theorem w_asked {c : Cx} (K : Ek c) {x : Str} {fa fn fe : Addr} {k own heard : Int} {row : Str} {A : Around} {outer : List Env} {g : Heap} {s : Shared} {vs : List Value} {Q E : Value → Shared → Prop} (D : DF c x fa 29) (Dn : DF c (Str.ofString "ne") fn 14) (De : DF c (Str.ofString "eq") fe 13) (hc : (k = 0 ∧ own ≠ heard) ∨ (k ≠ 0 ∧ own = heard))
    (hr : Rm 2 A) (hfr : A.frames = some outer) (hg : c.g0.StaysIn g) (kk : g.StaysIn s.heap) (tk : 1 ≤ s.toks) (r : RdA g vs (askDs k own heard row)) (hF : Fs s.heap outer)
    (hE : ∀ e h' tk, Flies outer (if k = 0 then 90 else 102) heard row s e h' → 1 ≤ tk → E (.ref e) { s with heap := h', toks := tk }) : wpAny (model c.prog c.w) A (call (.ref fa) vs) Q E s := by
  refine call_frm (n := 1) (ns := askNs) D rfl ask_bind (by decide) (kinds_of (by rfl)) hr hg kk tk r (fun q code s₁ F r1 => ?_) rfl rfl rfl
  have same : ∀ {g₂ : Heap} {s₂ : Shared} {ν ρ k₀}, Frm c g s k₀ (envAt 29 s.heap.objs.size fa q code) ν ρ g₂ s₂ → s₂ = { s with heap := s₂.heap, toks := s₂.toks } := fun F₂ => by
    obtain ⟨_, _, I, _⟩ := F₂.fre
    obtain ⟨h, t, e⟩ := I.toInCall.same
    rw [e]
  rcases hc with ⟨h0, hne⟩ | ⟨h0, heq⟩
  · have h1 : (decide (k = 0) && (((!decide (own = heard)) == true) && ((decide (own = heard) == false) && true))) = true := by simp [h0, hne]
    rw [if_pos h0] at hE
    refine wpAny_execs_cons (wpAny_If ((Tr.cast h1 (tr_asked1 Dn De r1 rfl rfl rfl rfl rfl)).tk g s₁ _ _ F.bg F.st fun g₂ s₂ G₂ t₂ => ?_))
    have F₂ := F.step G₂ t₂
    refine wpAny_execs_cons (wp_raise (K := Kh c.w.params) r1.h ?_)
    refine wpAny_Call_NameR (name_GN K.n90 rfl F₂.bg F₂.st ?_)
    refine callWith_K (K := Kh c.w.params) (h₀ := c.g0) K.X K.c90 ?_ rfl rfl
    refine (evs_cons (ev_name (d := .int heard) rfl) (evs_cons (ev_name (d := .str row) rfl) (evs_cons ev_str evs_nil))).tk _ g₂ s₂ _ _ F₂.bg F₂.st fun vs' g₃ s₃ G₃ r₃ t₃ => ?_
    have F₃ := F₂.step G₃ t₃
    have zq := rdC r₃; clear r₃; obtain ⟨_, _, rfl, ra, r₃⟩ := zq
    have zq := rdC r₃; clear r₃; obtain ⟨_, _, rfl, rb, r₃⟩ := zq
    have zq := rdC r₃; clear r₃; obtain ⟨_, _, rfl, rc, r₃⟩ := zq
    first | (obtain ⟨_, rfl⟩ := rdI r₃) | (obtain ⟨_, rfl⟩ := rdS r₃) | (obtain rfl := rdN r₃) | cases r₃
    have e₃ := same F₃
    refine ⟨K.X.keeps (stays_trans F₃.bg F₃.gs), wpAny_with_toks F₃.tk (wp_make90 K (r1.less (by lia)) F₃.bg F₃.gs ra rb rc fun a dx e h' tk' od k1 k2 k3 k4 k5 hb ht' => ?_)⟩
    refine ⟨e, 90, _, _, rfl, K.X.keeps (stays_trans (stays_trans F₃.bg F₃.gs) k1), K.k90, k4, rfl, rfl, rfl, ?_⟩
    refine leaves_made F₃ rfl hfr hF k1 k2 k3 k4 k5 hb fun h'' Fl => ?_
    have := hE e h'' tk' Fl ht'
    rw [e₃]
    exact this
  · have h1 : (decide (k = 0) && (((!decide (own = heard)) == true) && ((decide (own = heard) == false) && true))) = false := by simp [h0]
    have h2 : ((!decide (k = 0)) && ((decide (own = heard) == true) && (((!decide (own = heard)) == false) && true))) = true := by simp [h0, heq]
    rw [if_neg h0] at hE
    refine wpAny_execs_cons (wpAny_If ((Tr.cast h1 (tr_asked1 Dn De r1 rfl rfl rfl rfl rfl)).tk g s₁ _ _ F.bg F.st fun g₂ s₂ G₂ t₂ => wpAny_execs_nil ?_))
    have F₂ := F.step G₂ t₂
    refine wpAny_execs_cons (wpAny_If ((Tr.cast h2 (tr_asked2 Dn De r1 rfl rfl rfl rfl rfl)).tk g₂ s₂ _ _ F₂.bg F₂.st fun g₂ s₂ G₂ t₂ => ?_))
    have F₂ := F₂.step G₂ t₂
    refine wpAny_execs_cons (wp_raise (K := Kh c.w.params) r1.h ?_)
    refine wpAny_Call_NameR (name_GN K.n102 rfl F₂.bg F₂.st ?_)
    refine callWith_K (K := Kh c.w.params) (h₀ := c.g0) K.X K.c102 ?_ rfl rfl
    refine (evs_cons (ev_name (d := .int heard) rfl) (evs_cons (ev_name (d := .str row) rfl) evs_nil)).tk _ g₂ s₂ _ _ F₂.bg F₂.st fun vs' g₃ s₃ G₃ r₃ t₃ => ?_
    have F₃ := F₂.step G₃ t₃
    have zq := rdC r₃; clear r₃; obtain ⟨_, _, rfl, ra, r₃⟩ := zq
    have zq := rdC r₃; clear r₃; obtain ⟨_, _, rfl, rb, r₃⟩ := zq
    first | (obtain ⟨_, rfl⟩ := rdI r₃) | (obtain ⟨_, rfl⟩ := rdS r₃) | (obtain rfl := rdN r₃) | cases r₃
    have e₃ := same F₃
    refine ⟨K.X.keeps (stays_trans F₃.bg F₃.gs), wpAny_with_toks F₃.tk (wp_make102 K (r1.less (by lia)) F₃.bg F₃.gs ra rb fun a dx e h' tk' od k1 k2 k3 k4 k5 hb ht' => ?_)⟩
    refine ⟨e, 102, _, _, rfl, K.X.keeps (stays_trans (stays_trans F₃.bg F₃.gs) k1), K.k102, k4, rfl, rfl, rfl, ?_⟩
    refine leaves_made F₃ rfl hfr hF k1 k2 k3 k4 k5 hb fun h'' Fl => ?_
    have := hE e h'' tk' Fl ht'
    rw [e₃]
    exact this
end Mine
end
/-! ## E10 -/
section
open PySem PySem.W PySem.Calls PyProof.Rows
set_option maxHeartbeats 1000000
set_option maxRecDepth 100000
namespace Mine
noncomputable abbrev refuS : Str := Str.ofString "refusal"
/-- an exception stands in g1, bound to refusal -/
structure Rf (c : Cx) (g1 : Heap) (env : Env) (C : Addr) (i : Int) (x : Str) : Prop where
  K : Ek c
  stays : c.g0.StaysIn g1
  there : ∃ e dx od vs sl m, g1.get? e = some { cls := .ref C, dict := some dx, data := .fields vs, slots := sl } ∧ g1.get? dx = some od ∧ bears C i x od ∧ g1.Ns env.locals m ∧ m refuS = some (.ref e)
  loc : env.kindOf refuS = some .local
noncomputable abbrev Ax (A : Around) : Around := { handled := A.handled, depth := 900, frames := none, guards := none, units := 9000 }
section
variable {c : Cx} {g1 : Heap} {A : Around} {env : Env} {ρ : List (Str × PyData)} {C : Addr} {i : Int} {x : Str}
theorem ev_refusal {nm : Str} {p q : Pos} {d : PyData} (R : Rf c g1 env C i x) (hdp : A.depth ≤ 900) (hu : A.units ≤ 9000)
    (h : ∀ (w : World) (h : Heap) (gs : Array GenState) (dr : Drawn) (t : Nat) (os : OsState) (Q E : Value → Shared → Prop) (e dx : Addr) (od : Obj) (vs : Array Value) (sl : Array (Option Value)) (tn : Tok), (Kh w.params).In h → h.get? e = some { cls := .ref C, dict := some dx, data := .fields vs, slots := sl } → h.get? dx = some od → bears C i x od →
      (∀ v tk, Rd g1 v d → handedIn v = true → Q v ⟨h, gs, dr, tk, os⟩) → wpAny (model PySem.Challenge.pw_jc0014_01 w) (Ax A) (call (.builtin "BaseException.__getattribute__") [.ref e, .str nm tn]) Q E ⟨h, gs, dr, t, os⟩)
    (hk : EK (Kh c.w.params) C) (hfl : ∀ g v, Rd g1 v d → Rd g v d) : Ev ⟨c.prog, c.w, g1⟩ A env ρ (.Attribute (.Name refuS p) nm q) d := by
  intro g s Q E hg S hQ
  obtain ⟨e, dx, od, vs, sl, m, he, hdx, hb, hn, hm⟩ := R.there
  have st : g1.StaysIn s.heap := stays_trans hg S.gs
  refine Attribute_name (wpAny_Name (wpAny_loadName_local S.fn R.loc (hn.keeps st) hm ?_))
  refine wp_getE (K := Kh c.w.params) (R.K.X.keeps (stays_trans R.stays st)) (st _ _ he) rfl hk.ga hk.gt ?_
  have hp := R.K.p
  show wpAny (model c.prog c.w) A _ _ _ _
  rw [hp]
  obtain ⟨hh, gs, dr, t, os⟩ := s
  refine wpAny_up (A' := Ax A) (h c.w hh gs dr (t + 1) os _ _ e dx od vs sl t (R.K.X.keeps (stays_trans R.stays st)) (st _ _ he) (st _ _ hdx) hb fun v tk r hv => ⟨hv, ?_⟩) rfl hdp hu rfl rfl
  exact hQ v g _ (Gr.toks S.gs tk) (hfl g v r)
theorem ev_code {p q : Pos} (R : Rf c g1 env C i x) (hdp : A.depth ≤ 900) (hu : A.units ≤ 9000) (hk : EK (Kh c.w.params) C) : Ev ⟨c.prog, c.w, g1⟩ A env ρ (.Attribute (.Name refuS p) (Str.ofString "smtp_code") q) (.int i) := by
  refine ev_refusal R hdp hu (fun w h gs dr t os Q E e dx od vs sl tn X he hdx hb hQ => call_tree ?_) hk (fun g v r => by cases r; exact .int _ _)
  obtain ⟨h1, h2, t1, t2, ti, tx, n, hb⟩ := hb
  rcases hb with ⟨rfl, rfl⟩ | ⟨rfl, h3, t3, ty, rfl⟩
  · exact x_get_102_smtp_code A.handled _ w h gs dr t os _ _ X i ti x tx x tx e dx vs sl h1 h2 h2 t1 t2 t2 tn n he hdx fun tk => hQ _ tk (.int _ _) rfl
  · exact x_get_90_smtp_code A.handled _ w h gs dr t os _ _ X i ti x tx _ ty e dx vs sl h1 h2 h3 t1 t2 t3 tn n he hdx fun tk => hQ _ tk (.int _ _) rfl
theorem ev_error {p q : Pos} (R : Rf c g1 env C i x) (hdp : A.depth ≤ 900) (hu : A.units ≤ 9000) (hk : EK (Kh c.w.params) C) : Ev ⟨c.prog, c.w, g1⟩ A env ρ (.Attribute (.Name refuS p) (Str.ofString "smtp_error") q) (.str x) := by
  refine ev_refusal R hdp hu (fun w h gs dr t os Q E e dx od vs sl tn X he hdx hb hQ => call_tree ?_) hk (fun g v r => by cases r; exact .str _ _)
  obtain ⟨h1, h2, t1, t2, ti, tx, n, hb⟩ := hb
  rcases hb with ⟨rfl, rfl⟩ | ⟨rfl, h3, t3, ty, rfl⟩
  · exact x_get_102_smtp_error A.handled _ w h gs dr t os _ _ X i ti x tx x tx e dx vs sl h1 h2 h2 t1 t2 t2 tn n he hdx fun tk => hQ _ tk (.str _ _) rfl
  · exact x_get_90_smtp_error A.handled _ w h gs dr t os _ _ X i ti x tx _ ty e dx vs sl h1 h2 h3 t1 t2 t3 tn n he hdx fun tk => hQ _ tk (.str _ _) rfl
theorem ev_sender {p q : Pos} (R : Rf c g1 env 90 i x) (hdp : A.depth ≤ 900) (hu : A.units ≤ 9000) (hk : EK (Kh c.w.params) 90) : Ev ⟨c.prog, c.w, g1⟩ A env ρ (.Attribute (.Name refuS p) (Str.ofString "sender") q) (.str (Str.ofString "a")) := by
  refine ev_refusal R hdp hu (fun w h gs dr t os Q E e dx od vs sl tn X he hdx hb hQ => call_tree ?_) hk (fun g v r => by cases r; exact .str _ _)
  obtain ⟨h1, h2, t1, t2, ti, tx, n, hb⟩ := hb
  rcases hb with ⟨z, rfl⟩ | ⟨_, h3, t3, ty, rfl⟩
  · exact absurd z (by decide)
  · exact x_get_90_sender A.handled _ w h gs dr t os _ _ X i ti x tx _ ty e dx vs sl h1 h2 h3 t1 t2 t3 tn n he hdx fun tk => hQ _ tk (.str _ _) rfl
theorem sub_units {A : Around} (h : A.units + 100 < cLine) (n : Nat) (hn : n ≤ 100) : A.units + n < cLine := by lia
theorem tr_suite102 {k heard : Int} {row : Str} {p1 p2 p3 p4 p5 p6 p7 p8 p9 p10 p11 p12 p13 : Pos} {i1 i2 i3} (R : Rf c g1 env 102 heard row) (hdp : A.depth ≤ 900) (hu : A.units ≤ 9000) (hkk : EK (Kh c.w.params) 102) (hk : ρ.lookup (Str.ofString "k") = some (.int k)) (hh : ρ.lookup (Str.ofString "heard") = some (.int heard)) (hr : ρ.lookup (Str.ofString "row") = some (.str row)) (hso : PyData.strOk row = true) (h0 : k ≠ 0) :
    Tr ⟨c.prog, c.w, g1⟩ A env ρ (.BoolOp .Or [.Compare (.Name (Str.ofString "k") p1) [.Eq] [.Constant (.int 0) i1 p2] p3, .Compare (.Tuple [.Attribute (.Name refuS p4) (Str.ofString "smtp_code") p5, .Attribute (.Name refuS p6) (Str.ofString "smtp_error") p7] i2 p8) [.NotEq] [.Tuple [.Name (Str.ofString "heard") p9, .Name (Str.ofString "row") p10] i3 p11] p12] p13) false := by
  have hu' : A.units + 100 < cLine := by show A.units + 100 < 9900; lia
  have e1 : (decide (k = 0) || (!PyData.eqv (.tuple [.int heard, .str row]) (.tuple [.int heard, .str row]) || false)) = false := by
    rw [SeqAt.eqv_refl _ (by simp [PyData.canLay0, PyData.canLayAll0, hso])]
    simp [h0]
  refine Tr.cast e1 (tr_bool (al_or (tr_cmp (d₁ := .int k) (d₂ := .int 0) (ev_name hk) ev_int ?_) fun _ => al_or (tr_cmp (ev_tuple (evs_cons (ev_code R hdp hu hkk) (evs_cons (ev_error R hdp hu hkk) evs_nil)) (show 2 ≤ sizeLine by decide)) (ev_tuple (evs_cons (ev_name hh) (evs_cons (ev_name hr) evs_nil)) (show 2 ≤ sizeLine by decide)) (op_ne ?_ ?_ ?_)) fun _ => al_or_nil))
  · rw [← eqv_int]
    exact op_eq rfl rfl (sub_units hu' _ (by simp [PyData.depth]))
  · simp [PyData.canLay0, PyData.canLayAll0, hso]
  · simp [PyData.canLay0, PyData.canLayAll0, hso]
  · exact sub_units hu' _ (by simp [PyData.depth, PyData.depthAll])
theorem tr_suite90 {k heard : Int} {row : Str} {p1 p2 p3 p4 p5 p6 p7 p8 p9 p10 p11 p12 p13 p14 p15 p16 : Pos} {i1 i2 i3 i4} (R : Rf c g1 env 90 heard row) (hdp : A.depth ≤ 900) (hu : A.units ≤ 9000) (hkk : EK (Kh c.w.params) 90) (hk : ρ.lookup (Str.ofString "k") = some (.int k)) (hh : ρ.lookup (Str.ofString "heard") = some (.int heard)) (hr : ρ.lookup (Str.ofString "row") = some (.str row)) (hso : PyData.strOk row = true) (h0 : k = 0) :
    Tr ⟨c.prog, c.w, g1⟩ A env ρ (.BoolOp .Or [.Compare (.Name (Str.ofString "k") p1) [.NotEq] [.Constant (.int 0) i1 p2] p3, .Compare (.Tuple [.Attribute (.Name refuS p4) (Str.ofString "smtp_code") p5, .Attribute (.Name refuS p6) (Str.ofString "smtp_error") p7, .Attribute (.Name refuS p14) (Str.ofString "sender") p15] i2 p8) [.NotEq] [.Tuple [.Name (Str.ofString "heard") p9, .Name (Str.ofString "row") p10, .Constant (.str (Str.ofString "a")) i4 p16] i3 p11] p12] p13) false := by
  have hu' : A.units + 100 < cLine := by show A.units + 100 < 9900; lia
  have hsa : PyData.strOk (Str.ofString "a") = true := by decide +kernel
  have e1 : (!decide (k = 0) || (!PyData.eqv (.tuple [.int heard, .str row, .str (Str.ofString "a")]) (.tuple [.int heard, .str row, .str (Str.ofString "a")]) || false)) = false := by
    rw [SeqAt.eqv_refl _ (by simp [PyData.canLay0, PyData.canLayAll0, hso, hsa])]
    simp [h0]
  refine Tr.cast e1 (tr_bool (al_or (tr_cmp (d₁ := .int k) (d₂ := .int 0) (ev_name hk) ev_int ?_) fun _ => al_or (tr_cmp (ev_tuple (evs_cons (ev_code R hdp hu hkk) (evs_cons (ev_error R hdp hu hkk) (evs_cons (ev_sender R hdp hu hkk) evs_nil))) (show 3 ≤ sizeLine by decide)) (ev_tuple (evs_cons (ev_name hh) (evs_cons (ev_name hr) (evs_cons ev_str evs_nil))) (show 3 ≤ sizeLine by decide)) (op_ne ?_ ?_ ?_)) fun _ => al_or_nil))
  · rw [← eqv_int]
    exact op_ne rfl rfl (sub_units hu' _ (by simp [PyData.depth]))
  · simp [PyData.canLay0, PyData.canLayAll0, hso, hsa]
  · simp [PyData.canLay0, PyData.canLayAll0, hso, hsa]
  · exact sub_units hu' _ (by simp [PyData.depth, PyData.depthAll])
end
end Mine
end
/-! ## E11 -/
section
open PySem PySem.W PySem.Calls PyProof.Rows
set_option maxHeartbeats 1000000
set_option maxRecDepth 100000
namespace Mine
/-- the object at L stands as it stood, but for its slots; nobody reads or keeps it -/
structure Bes (L : Addr) (oL : Obj) (ω : List (Addr × PyData)) (s₀ : Shared) (k g : Heap) (s : Shared) : Prop where
  z : s₀.heap.get? L = none
  k : k.get? L = none
  g : g.get? L = none
  w : ∀ p ∈ ω, p.1 ≠ L
  at_ : ∃ sl, s.heap.get? L = some { oL with slots := sl }
/-- a frame with the caller's frame at its side -/
structure FB (c : Cx) (env : Env) (L : Addr) (oL : Obj) (ν : List (Str × Value)) (ρ : List (Str × PyData)) (ω : List (Addr × PyData)) (g₀ : Heap) (s₀ : Shared) (k : Heap) (g : Heap) (s : Shared) : Prop where
  fo : FO c env ν ρ ω g₀ s₀ k g s
  bes : Bes L oL ω s₀ k g s
/-- what is told of L within a frame -/
structure Out1 (env : Env) (L : Addr) : Prop where
  l : env.locals ≠ L
  c : ∀ n a, env.cells.lookup n = some a → a ≠ L
theorem addk_has {k h : Heap} {L : Addr} {o : Obj} (hk : k.StaysIn h) (e : h.get? L = some o) : (addk k h L).get? L = some o := (addk_get hk).mpr (.inr ⟨rfl, e⟩)
section
variable {c : Cx} {A : Around} {env : Env} {L : Addr} {oL : Obj} {ν ν' : List (Str × Value)} {ρ ρ' : List (Str × PyData)} {ω ω' : List (Addr × PyData)}
/-- L is kept for the while of a step -/
theorem FB.grab {g₀ : Heap} {s₀ : Shared} {k g : Heap} {s : Shared} (O : Out1 env L) (F : FB c env L oL ν ρ ω g₀ s₀ k g s) : FO c env ν ρ ω g₀ s₀ (addk k s.heap L) g s :=
  ⟨F.fo.frm.grab O.l O.c F.bes.g, fun p hp => let o := F.fo.own p hp; ⟨addk_none F.fo.frm.ks o.kn (F.bes.w p hp), o.gn, o.zn, o.Ln, o.Cn, o.is⟩, F.fo.dis⟩
theorem FB.ungrab {g₀ : Heap} {s₀ : Shared} {k g g' : Heap} {s s' : Shared} (O : Out1 env L) (F : FB c env L oL ν ρ ω g₀ s₀ k g s) (hw : ∀ p ∈ ω', p.1 ≠ L) (F' : FO c env ν' ρ' ω' g₀ s₀ (addk k s.heap L) g' s') : FB c env L oL ν' ρ' ω' g₀ s₀ k g' s' := by
  obtain ⟨sl, e⟩ := F.bes.at_
  have hL := addk_has F.fo.frm.ks e
  refine ⟨⟨F'.frm.back (addk_stays F.fo.frm.ks), fun p hp => let o := F'.own p hp; ⟨none_of_stays (addk_stays F.fo.frm.ks) o.kn, o.gn, o.zn, o.Ln, o.Cn, o.is⟩, F'.dis⟩, F.bes.z, F.bes.k, (F'.frm.gk L).resolve_right (by rw [hL]; exact fun z => nomatch z), hw, sl, F'.frm.ks _ _ hL⟩
/-- a step of a frame, L at its side -/
theorem fb_of {st : Stmt} {rt : PyData → Prop} (O : Out1 env L) (h : XA1 c A env (FO c env ν ρ ω) st ⟨FO c env ν' ρ' ω', rt, fun _ _ _ _ _ => False⟩) (hw : (∀ p ∈ ω, p.1 ≠ L) → ∀ p ∈ ω', p.1 ≠ L) :
    XA1 c A env (FB c env L oL ν ρ ω) st ⟨FB c env L oL ν' ρ' ω', rt, fun _ _ _ _ _ => False⟩ := fun g₀ s₀ k g s Q E F hQ =>
  h g₀ s₀ _ g s Q E (F.grab O) ⟨fun g' s' F' => hQ.1 g' s' (F.ungrab O (hw F.bes.w) F'), fun d v g' s' a b c => hQ.2.1 d v g' s' a b c, fun g' s' z => z.elim⟩
theorem fb_pure {st : Stmt} {bk : As} {rt : PyData → Prop} (O : Out1 env L) (h : X1 c A env ν ρ st (.next ρ')) : XA1 c A env (FB c env L oL ν ρ ω) st ⟨FB c env L oL ν ρ' ω, rt, bk⟩ := fun g₀ s₀ k g s Q E F hQ =>
  (fb_of (rt := rt) O (xo_pure (o := ⟨FO c env ν ρ' ω, rt, fun _ _ _ _ _ => False⟩) h fun _ _ _ _ _ z => z) fun z => z) g₀ s₀ k g s Q E F ⟨hQ.1, hQ.2.1, fun _ _ z => z.elim⟩
theorem FB.step {g₀ : Heap} {s₀ : Shared} {k g g' : Heap} {s s' : Shared} (F : FB c env L oL ν ρ ω g₀ s₀ k g s) (G : Gr g s g' s') (t : 1 ≤ s'.toks) : FB c env L oL ν ρ ω g₀ s₀ k g' s' := by
  obtain ⟨sl, e⟩ := F.bes.at_
  refine ⟨F.fo.step G t, F.bes.z, F.bes.k, ?_, F.bes.w, sl, G.ss _ _ e⟩
  cases q : g'.get? L with
  | none => rfl
  | some o =>
    rcases G.fr _ _ q with z | z
    · rw [F.bes.g] at z; cases z
    · rw [e] at z; cases z
theorem fb_ad (O : Out1 env L) : Ad c (FB c env L oL ν ρ ω) where
  ks := fun F => F.fo.frm.ks
  gs := fun F => F.fo.frm.gs
  tk := fun F => F.fo.frm.tk
  gk := fun F => F.fo.frm.gk
  iter := fun {g₀ s₀ k g s g' s' b} F G t hb hgb => by
    obtain ⟨x, y⟩ := fo_ad.iter F.fo G t hb hgb
    have F' := F.step G t
    obtain ⟨sl, e⟩ := F.bes.at_
    refine ⟨⟨x, F.bes.z, addk_none F'.fo.frm.ks F.bes.k (fun z => by rw [z, hb] at e; cases e), F'.bes.g, F.bes.w, F'.bes.at_⟩, y⟩
  turn := fun {g₀ s₀ K K' g s h' b tk} F ⟨ob, hob⟩ hz he ht hK' hsub => by
    refine ⟨fo_ad.turn F.fo ⟨ob, hob⟩ hz he ht hK' hsub, F.bes.z, hsub _ F.bes.k, F.bes.g, F.bes.w, ?_⟩
    obtain ⟨sl, e⟩ := F.bes.at_
    exact ⟨sl, he _ _ (fun z => by have := F.bes.k; rw [z, hob] at this; cases this) e⟩
  re := fun {g₀ s₀ k g s} F => by
    obtain ⟨a, b⟩ := fo_ad.re F.fo
    exact ⟨⟨a, F.bes⟩, b⟩
  un := fun {g₀ g₁ s₀ k g s} F a b d => ⟨fo_ad.un F.fo a b d, F.bes⟩
/-- all but the frame's own and L stay -/
theorem FB.aside {g₀ : Heap} {s₀ : Shared} {k g : Heap} {s : Shared} {h' : Heap} {tk : Nat} (O : Out1 env L) (hnf : ∀ vs, oL.data ≠ .fields vs) (F : FB c env L oL ν ρ ω g₀ s₀ k g s) (hk : ∀ b o, s.heap.get? b = some o → b ≠ env.locals → b ≠ L → h'.get? b = some o)
    (hu : s.heap.UpToSlots h') (ht : 1 ≤ tk) : FB c env L oL ν ρ ω g₀ s₀ k g { s with heap := h', toks := tk } := by
  obtain ⟨m, cm, I, q⟩ := F.fo.frm.fre
  have ne : ∀ {hp : Heap} {a o}, hp.get? a = some o → hp.get? L = none → a ≠ L := fun e e' z => by rw [z, e'] at e; cases e
  have ne' : ∀ {hp : Heap} {a o}, hp.get? a = some o → hp.get? env.locals = none → a ≠ env.locals := fun e e' z => by rw [z, e'] at e; cases e
  have kn : s₀.heap.get? env.locals = none := by
    cases q : s₀.heap.get? env.locals with
    | none => rfl
    | some o => exact absurd (Heap.lt_size q) (Nat.not_lt.mpr I.toInCall.fresh)
  refine ⟨⟨⟨F.fo.frm.fn, F.fo.frm.gl, F.fo.frm.bl, F.fo.frm.base, F.fo.frm.gg, fun a o e => hk a o (F.fo.frm.gs a o e) (ne' e F.fo.frm.noL) (ne e F.bes.g), F.fo.frm.fr, F.fo.frm.noL, fun a o e => hk a o (F.fo.frm.ks a o e) (ne' e F.fo.frm.kL) (ne e F.bes.k), F.fo.frm.kL, F.fo.frm.kC, F.fo.frm.noC, F.fo.frm.gk, ht, m, cm, ⟨⟨?_, hu.ns I.toInCall.ns, fun a o e => hk a o (I.toInCall.keep a o e) (ne' e kn) (ne e F.bes.z), I.toInCall.fresh⟩, fun n a e => ?_, I.apart, I.above⟩, q⟩, fun p hp => ?_, F.fo.dis⟩, F.bes.z, F.bes.k, F.bes.g, F.bes.w, ?_⟩
  · obtain ⟨h₁, t₁, e⟩ := I.toInCall.same
    exact ⟨h', tk, by rw [e]⟩
  · obtain ⟨o, ho, r⟩ := I.cell n a e
    exact ⟨o, hk _ _ ho (Nat.ne_of_gt (I.above n a (PySem.mem_of_lookup e))) (O.c n a e), r⟩
  · have o := F.fo.own p hp
    exact ⟨o.kn, o.gn, o.zn, o.Ln, o.Cn, o.is.at (stays_refl _) fun x e => hk _ _ e (Ne.symm o.Ln) (F.bes.w p hp)⟩
  · obtain ⟨sl, e⟩ := F.bes.at_
    obtain ⟨sl', e'⟩ := hu _ _ e (fun vs => hnf vs)
    exact ⟨sl', e'⟩
end
end Mine
end
/-! ## E12 -/
section
open PySem PySem.W PySem.Calls PyProof.Rows
set_option maxHeartbeats 1000000
set_option maxRecDepth 100000
namespace Mine
section
variable {c : Cx} {A : Around} {env : Env} {L : Addr} {oL : Obj} {ν ν' : List (Str × Value)} {ρ ρ' : List (Str × PyData)} {ω ω' : List (Addr × PyData)} {o : Po}
theorem fb_name {x : Str} {p : Pos} {d : PyData} {body : List Stmt} (O : Out1 env L) (hk : Names env x) (hν : ν.lookup x = none) (h : XA c A env (FB c env L oL ν (setρ ρ x d) ω) body o) : XB c A env (FB c env L oL ν ρ ω) (.Name x p) d body o := fun g₀ s₀ k g s v Q E F r hQ =>
  wpAny_assign_Name (wp_storeO (F.grab O) r hk hν fun s' F' => h g₀ s₀ k g s' Q E (F.ungrab O F.bes.w F') hQ)
theorem FB.weak {g₀ : Heap} {s₀ : Shared} {k g : Heap} {s : Shared} (F : FB c env L oL ν ρ ω g₀ s₀ k g s) (h : ∀ x d, ρ'.lookup x = some d → ρ.lookup x = some d) : FB c env L oL ν ρ' ω g₀ s₀ k g s := ⟨F.fo.weak h, F.bes⟩
theorem x_expr {e : Expr} {pos : Pos} {d : PyData} (h : Ev c A env ρ e d) (hi : interactive env = false := by rfl) (hs : swapsWith e none pos.line env = pure false := by rfl) : X1 c A env ν ρ (.Expr e pos) (.next ρ) := fun g₀ s₀ k g s Q E F hQ =>
  wpAny_Expr_any (h.tk g s _ _ F.bg F.st fun v g' s' G r t => hQ g' s' (F.step G t)) hi hs
/-- one more object kept -/
theorem FO.grab1 {g₀ : Heap} {s₀ : Shared} {k g : Heap} {s : Shared} {b : Addr} (F : FO c env ν ρ ω g₀ s₀ k g s) (bL : env.locals ≠ b) (bC : ∀ n a, env.cells.lookup n = some a → a ≠ b) (gb : g.get? b = none) (bw : ∀ p ∈ ω, p.1 ≠ b) : FO c env ν ρ ω g₀ s₀ (addk k s.heap b) g s :=
  ⟨F.frm.grab bL bC gb, fun p hp => let o := F.own p hp; ⟨addk_none F.frm.ks o.kn (bw p hp), o.gn, o.zn, o.Ln, o.Cn, o.is⟩, F.dis⟩
theorem FO.back {g₀ : Heap} {s₀ : Shared} {k k' g : Heap} {s : Shared} (F : FO c env ν ρ ω g₀ s₀ k' g s) (h : k.StaysIn k') : FO c env ν ρ ω g₀ s₀ k g s :=
  ⟨F.frm.back h, fun p hp => let o := F.own p hp; ⟨none_of_stays h o.kn, o.gn, o.zn, o.Ln, o.Cn, o.is⟩, F.dis⟩
/-- a raw name is let go -/
theorem wp_unbind {g₀ : Heap} {s₀ : Shared} {k g : Heap} {s : Shared} {n : Str} {v0 : Value} {pos : Pos} {Q : Unit → Shared → Prop} {E : Value → Shared → Prop} (F : Frm c g₀ s₀ k env ((n, v0) :: ν) ρ g s) (hl : env.kindOf n = some .local) (hν : ν.lookup n = none) (hρ : ρ.lookup n = none)
    (h : ∀ s', Frm c g₀ s₀ k env ν ρ g s' → Q () s') : wpAny (model c.prog c.w) A (do bindName env n .none; unbindBehindTheSuite env n pos) Q E s := by
  obtain ⟨m, cm, I, hv, q⟩ := F.fre
  have ne1 : ∀ y u, ν.lookup y = some u → y ≠ n := fun y u e z => by subst z; rw [hν] at e; cases e
  have ne2 : ∀ y u, ρ.lookup y = some u → y ≠ n := fun y u e z => by subst z; rw [hρ] at e; cases e
  have keepL : ∀ (h' : Heap), Heap.SameBut env.locals s.heap h' → g.StaysIn h' := fun h' hs b o e => (hs.2 b (fun z => by subst z; rw [F.noL] at e; cases e)).trans (F.gs b o e)
  refine wpAny_nameGoes_keeps hl I.toInCall.ns (by rw [F.fn]; rfl) fun h' v hn' hs' => h _ ⟨F.fn, F.gl, F.bl, F.base, F.gg, keepL h' hs', F.fr, F.noL, (fun b o e => (hs'.2 b (fun z => by subst z; rw [F.kL] at e; cases e)).trans (F.ks b o e)), F.kL, F.kC, F.noC, F.gk, Nat.succ_le_succ (Nat.zero_le _), (fun y => if y = n then v else m y), cm,
      ⟨⟨?_, hn', fun b o e => ?_, I.toInCall.fresh⟩, fun k c' hc => ?_, I.apart, I.above⟩, fun y u e => ?_, fun y e he => ?_⟩
  · obtain ⟨h₁, tk, e⟩ := I.toInCall.same
    exact ⟨h', _, by rw [e]⟩
  · exact hs'.extBut b o (Nat.ne_of_lt (Nat.lt_of_lt_of_le (Heap.lt_size e) I.toInCall.fresh)) (I.toInCall.keep b o e)
  · exact (I.cell k c' hc).sameBut hs' (Nat.ne_of_gt (I.above k c' (PySem.mem_of_lookup hc)))
  · have hy := ne1 y u e
    have := hv y u (by rw [List.lookup_cons, beq_eq_false_iff_ne.mpr hy]; exact e)
    exact this.imp (fun z => ⟨z.1, (if_neg hy).trans z.2⟩) id
  · obtain ⟨u, ru, qu⟩ := q y e he
    exact ⟨u, ru, qu.imp (fun z => ⟨z.1, (if_neg (ne2 y e he)).trans z.2⟩) id⟩
theorem wp_unbindO {g₀ : Heap} {s₀ : Shared} {k g : Heap} {s : Shared} {n : Str} {v0 : Value} {pos : Pos} {Q : Unit → Shared → Prop} {E : Value → Shared → Prop} (F : FO c env ((n, v0) :: ν) ρ ω g₀ s₀ k g s) (hl : env.kindOf n = some .local) (hν : ν.lookup n = none) (hρ : ρ.lookup n = none)
    (h : ∀ s', FO c env ν ρ ω g₀ s₀ k g s' → Q () s') : wpAny (model c.prog c.w) A (do bindName env n .none; unbindBehindTheSuite env n pos) Q E s :=
  wp_unbind F.grabs hl hν hρ fun s' F' => h s' (F.ungrab (stays_refl _) F')
/-- what is known where an exception is looked at -/
structure Seen (c : Cx) (env : Env) (L : Addr) (oL : Obj) (ν : List (Str × Value)) (ρ : List (Str × PyData)) (ω : List (Addr × PyData)) (g₀ : Heap) (s₀ : Shared) (k g : Heap) (s : Shared) (base : Heap) (e dx : Addr) : Prop where
  F : FB c env L oL ν ρ ω g₀ s₀ k g s
  O : Out1 env L
  hnf : ∀ vs, oL.data ≠ .fields vs
  hb : ∀ b o, s.heap.get? b = some o → b ≠ env.locals → b ≠ L → base.get? b = some o
  en : s.heap.get? e = none
  dn : s.heap.get? dx = none
section
variable {g₀ : Heap} {s₀ : Shared} {k g : Heap} {s : Shared} {base : Heap} {e dx : Addr}
theorem Seen.away (S : Seen c env L oL ν ρ ω g₀ s₀ k g s base e dx) {b : Addr} (hb : s.heap.get? b = none) : env.locals ≠ b ∧ (∀ n a, env.cells.lookup n = some a → a ≠ b) ∧ g.get? b = none ∧ (∀ p ∈ ω, p.1 ≠ b) ∧ L ≠ b := by
  obtain ⟨a1, a2, a3, a4, a5⟩ := S.F.fo.frm.apart hb
  refine ⟨a1, a2, a3, fun p hp z => ?_, fun z => ?_⟩
  · obtain ⟨y, hy⟩ := (S.F.fo.own p hp).there
    rw [z, hb] at hy; cases hy
  · obtain ⟨sl, he⟩ := S.F.bes.at_
    rw [z, hb] at he; cases he
theorem Seen.at (S : Seen c env L oL ν ρ ω g₀ s₀ k g s base e dx) {h' : Heap} {tk : Nat} (st : base.StaysIn h') (U : s.heap.UpToSlots h') (ht : 1 ≤ tk) : FB c env L oL ν ρ ω g₀ s₀ k g { s with heap := h', toks := tk } :=
  S.F.aside S.O S.hnf (fun b o q h1 h2 => st _ _ (S.hb b o q h1 h2)) U ht
/-- the suite of a clause that takes the exception -/
theorem wp_suite (K : Ek c) {outer : List Env} {C a : Addr} {od : Obj} {i : Int} {x : Str} {t : Expr} {ret : List Stmt} {ipos pos : Pos} {Q : Flow → Shared → Prop} {E : Value → Shared → Prop} {h₃ : Heap} {tk₃ : Nat}
    (S : Seen c env L oL ν ρ ω g₀ s₀ k g s base e dx) (X : XS base outer e (excObj C dx a) .none h₃) (U : s.heap.UpToSlots h₃) (ht : 1 ≤ tk₃) (hdx : base.get? dx = some od) (hb : bears C i x od)
    (hl : env.kindOf refuS = some .local) (hν : ν.lookup refuS = none) (hρ : ρ.lookup refuS = none)
    (htest : ∀ g1, Rf c g1 env C i x → Tr ⟨c.prog, c.w, g1⟩ (A.mark (some (.ref e))) env ρ t false)
    (hQ : ∀ s', FB c env L oL ν ρ ω g₀ s₀ k g s' → Q .next s') :
    codeAny (model c.prog c.w) (A.mark (some (.ref e))) (.handlers (.ref e) [.ExceptHandler none (some refuS) [.If t ret [] ipos] pos] env) (fun r s₂ => match r with
        | .ok f => wpAny (model c.prog c.w) A (do bindName env refuS .none; unbindBehindTheSuite env refuS pos) (fun _ s₃ => Q f s₃) E s₂
        | .error y => cameBackBy (model c.prog c.w) A env E y s₂) { s with heap := h₃, toks := tk₃ } := by
  refine codeAny_handlers_suite_as (wpAny_with_toks ht (wp_land (s := { s with heap := h₃, toks := tk₃ }) X fun h₄ X₄ U₄ ht₄ => ?_))
  have F₄ := S.at (tk := tk₃) X₄.keep (U.trans U₄) ht
  obtain ⟨e1, e2, e3, e4, e5⟩ := S.away S.en
  obtain ⟨d1, d2, d3, d4, d5⟩ := S.away S.dn
  obtain ⟨vs, T, oT, ts, he, _⟩ := X₄.exc
  have hdx₄ := X₄.keep _ _ hdx
  have G₁ := F₄.grab S.O
  have G₂ := G₁.grab1 (b := e) e1 e2 e3 e4
  have G₃ := G₂.grab1 (b := dx) d1 d2 d3 d4
  have kk1 := addk_stays (b := L) F₄.fo.frm.ks
  have kk2 := addk_stays (b := e) G₁.frm.ks
  have kk3 := addk_stays (b := dx) G₂.frm.ks
  refine wp_storeOν G₃ (.inl hl) hν hρ fun s₅ F₅ => ?_
  have he₅ := F₅.frm.ks _ _ (kk3 _ _ (addk_has G₁.frm.ks he))
  have hdx₅ := F₅.frm.ks _ _ (addk_has G₂.frm.ks hdx₄)
  obtain ⟨m, cm, I, hv, _⟩ := id F₅.frm.fre
  have hm : m refuS = some (.ref e) := by
    rcases hv refuS (.ref e) (by rw [List.lookup_cons]; simp) with ⟨_, z⟩ | ⟨z, _⟩
    · exact z
    · rw [hl] at z; cases z
  obtain ⟨oE, es, ep, hoE, hr⟩ := id I.toInCall.ns
  obtain ⟨g1, hg1⟩ : ∃ g1, g1 = only s₅.heap fun b => (∃ o, g.get? b = some o) ∨ b = e ∨ b = dx ∨ b = env.locals := ⟨_, rfl⟩
  have gg1 : g.StaysIn g1 := fun b o q => by rw [hg1]; exact only_get.mpr ⟨.inl ⟨o, q⟩, F₅.frm.gs _ _ q⟩
  have g1s : g1.StaysIn s₅.heap := fun b o q => by rw [hg1] at q; exact (only_get.mp q).2
  have R : Rf c g1 env C i x := by
    refine ⟨K, stays_trans F₅.frm.bg gg1, ⟨e, dx, od, vs, #[], m, ?_, ?_, hb, ⟨oE, es, ep, ?_, hr⟩, hm⟩, hl⟩
    · rw [hg1]; exact only_get.mpr ⟨.inr (.inl rfl), he₅⟩
    · rw [hg1]; exact only_get.mpr ⟨.inr (.inr (.inl rfl)), hdx₅⟩
    · rw [hg1]; exact only_get.mpr ⟨.inr (.inr (.inr rfl)), hoE⟩
  have S₁ : St env ρ g1 s₅ := ⟨F₅.frm.fn, F₅.frm.gl, F₅.frm.bl, g1s, F₅.frm.tk, fun y d q => let ⟨v, a, b⟩ := F₅.frm.st.vars y d q; ⟨v, a, b.mono gg1⟩⟩
  refine wpAny_execs_cons (wpAny_If ((htest g1 R).tk g1 s₅ _ _ (stays_refl _) S₁ fun g₆ s₆ G₆ t₆ => wpAny_execs_nil (wpAny_execs_nil ?_)))
  have F₆ : FO c env ((refuS, .ref e) :: ν) ρ ω g₀ s₀ _ g s₆ := F₅.step ⟨stays_refl _, stays_trans F₅.frm.gs G₆.ss, G₆.ss, fun _ _ z => .inl z, G₆.rest⟩ t₆
  refine wp_unbindO F₆ hl hν hρ fun s₇ F₇ => hQ s₇ ?_
  exact F₄.ungrab S.O S.F.bes.w (F₇.back (stays_trans kk2 kk3))
/-- a clause's test -/
theorem wp_clause (K : Ek c) {outer : List Env} {C T a : Addr} {b : Bool} {nm : Str} {np pos : Pos} {body : List Stmt} {rest : List ExceptHandler} {Q : Flow → Shared → Prop} {E : Value → Shared → Prop} {h₃ : Heap} {tk₃ : Nat}
    (S : Seen c env L oL ν ρ ω g₀ s₀ k g s base e dx) (X : XS base outer e (excObj C dx a) .none h₃) (U : s.heap.UpToSlots h₃) (ht : 1 ≤ tk₃) (hn : GN c nm (.ref T)) (hk : env.kindOf nm = some .globalImplicit) (hm : exmOne (Kh c.w.params) (.ref C) (.ref T) = some b) (hd : (nm == ("__debug__" : Str)) = false)
    (h1 : b = true → codeAny (model c.prog c.w) (A.mark (some (.ref e))) (.handlers (.ref e) [.ExceptHandler none (some refuS) body pos] env) (fun r s₂ => match r with
        | .ok f => wpAny (model c.prog c.w) A (do bindName env refuS .none; unbindBehindTheSuite env refuS pos) (fun _ s₃ => Q f s₃) E s₂
        | .error y => cameBackBy (model c.prog c.w) A env E y s₂) { s with heap := h₃, toks := tk₃ })
    (h2 : b = false → wpAny (model c.prog c.w) A (handleBy (.ref e) env rest) Q E { s with heap := h₃, toks := tk₃ }) :
    wpAny (model c.prog c.w) A (handleBy (.ref e) env (.ExceptHandler (some (.Name nm np)) (some refuS) body pos :: rest)) Q E { s with heap := h₃, toks := tk₃ } := by
  have F₃ := S.at (tk := tk₃) X.keep U ht
  obtain ⟨vs, T', oT, ts, he, _⟩ := X.exc
  have XK : (PySem.Challenge.rw_jc0014_01 = PySem.Challenge.rw_jc0014_01) := rfl
  have LT : Looks (model c.prog c.w) h₃ (typeOf (.ref e)) (.ref C) := (Looks.ld he).andThen .now
  refine wpAny_handleBy_cons (codeAny_handlers_test (wpAny_Name (hn _ env _ _ _ F₃.fo.frm.fn hk F₃.fo.frm.gl F₃.fo.frm.bl (stays_trans F₃.fo.frm.bg F₃.fo.frm.gs) ?_) hd)) (fun z => nomatch z)
  refine (exm_one (K.X.keeps (stays_trans F₃.fo.frm.bg F₃.fo.frm.gs)) LT hm).here ?_
  cases b with
  | true => exact h1 rfl
  | false => exact h2 rfl
end
end
end Mine
end
/-! ## C9 -/
section
open PySem PySem.W PySem.Calls PyProof.Rows
set_option maxHeartbeats 1000000
set_option maxRecDepth 100000
namespace Mine
noncomputable def callsV (js : List (Int × Int)) : Int := (js.map (·.2)).sum
noncomputable def callsUp (js : List (Int × Int)) (i : Nat) : Int := ((js.map (·.2)).take i).sum
theorem calls_succ {js : List (Int × Int)} {i : Nat} {p : Int × Int} (h : js[i]? = some p) : callsUp js (i + 1) = callsUp js i + p.2 := by
  unfold callsUp
  rw [List.take_add_one, List.getElem?_map, h, List.sum_append]
  simp
noncomputable def SubL' (ρ₁ : List (Str × PyData)) : List (Str × PyData) → Prop
  | [] => True
  | p :: r => ρ₁.lookup p.1 = some p.2 ∧ SubL' ρ₁ r
theorem subs' {ρ₁ : List (Str × PyData)} : ∀ {ρ₂ : List (Str × PyData)}, SubL' ρ₁ ρ₂ → ∀ x d, ρ₂.lookup x = some d → ρ₁.lookup x = some d
  | [], _, x, d, e => by cases e
  | p :: r, h, x, d, e => by
    rw [List.lookup_cons] at e
    by_cases hx : x = p.1
    · subst hx
      simp at e
      subst e
      exact h.1
    · rw [beq_eq_false_iff_ne.mpr hx] at e
      exact subs' h.2 x d e
theorem f_calls {c : Cx} {x : Str} {fa : Addr} {js : List (Int × Int)} (D : DF c x fa 24) : Fn c 1 fa [dictD js] (.int (callsV js)) := by
  refine fn_at (n := 0) (ns := [Str.ofString "callers"]) D rfl ?_ (by decide) (kinds_of (by rfl)) ?_ rfl rfl rfl
  · exact bind_via fun fd => vs1 fun _ => rfl
  · intro A L q code r
    refine x_cons (x_assign (d := .int 0) ev_int (.inl rfl)) ?_
    refine x_cons (x_for (ds := js.map fun p => .int p.2) (fun i => [(Str.ofString "callers", dictD js), (Str.ofString "nc", .int (callsUp js i))]) (it_values r.h (ev_name rfl)) (.inl rfl) rfl ?_) ?_
    · intro i d hd
      rw [List.getElem?_map] at hd
      cases hp : js[i]? with
      | none => rw [hp] at hd; cases hd
      | some p =>
        rw [hp] at hd
        cases hd
        exact x_next (x_cons (x_aug (d := .int (callsUp js i + p.2)) rfl (ev_name rfl) op_iadd (.inl rfl)) x_nil) (subs' ⟨rfl, by rw [calls_succ hp]; rfl, trivial⟩)
    · have e : callsV js = callsUp js (js.map fun p => PyData.int p.2).length := by
        unfold callsUp callsV
        rw [List.take_of_length_le (by simp)]
      rw [e]
      exact x_ret (x_return (ev_name rfl))
end Mine
end
/-! ## C10 -/
section
open PySem PySem.W PySem.Calls PyProof.Rows
set_option maxHeartbeats 1000000
set_option maxRecDepth 100000
namespace Mine
theorem ev_isinst {c : Cx} {A : Around} {env : Env} {ρ : List (Str × PyData)} {T : Str} {ty : String} {e : Expr} {p tp pos : Pos} {n : Int} {b : Bool} (hx : GN c (Str.ofString "isinstance") (.builtin "isinstance")) (hk : env.kindOf (Str.ofString "isinstance") = some .globalImplicit) (hT : GN c T (.type ty)) (hkT : env.kindOf T = some .globalImplicit)
    (h : Ev c A env ρ e (.int n)) (hop : ∀ (s : Shared) (u : Tok) (Q E : Value → Shared → Prop), (∀ tk, Q (.bool b) { s with toks := tk }) → wpAny (model c.prog c.w) A (call (.builtin "isinstance") [.int n u, .type ty]) Q E s)
    (he : backTo pos (starEach [e, .Name T tp] env) = [(false, eval e env), (false, eval (.Name T tp) env)] := by rfl) (hd : (T == ("__debug__" : Str)) = false := by decide) : Ev c A env ρ (.Call (.Name (Str.ofString "isinstance") p) [e, .Name T tp] [] pos) (.bool b) := by
  intro g s Q E hg S hQ
  refine wpAny_Call_NameR (name_GN hx hk hg S ?_)
  rw [he]
  refine callWith_builtin rfl (evalArgs_plain (spliced_cons (h.tk g s _ _ hg S fun v g₁ s₁ G₁ r₁ t₁ => spliced_cons (name_GN hT hkT (stays_trans hg G₁.gg) (S.grow G₁ t₁) (spliced_nil ?_) hd))))
  obtain ⟨u, rfl⟩ := rdI r₁
  exact hop s₁ u _ _ fun tk => hQ _ _ _ (G₁.trans (Gr.toks G₁.gs tk)) (.bool _)
noncomputable def addJ (acc : List (Int × Int)) (p : Int × Int) : List (Int × Int) := match valJ acc p.1 with
  | some m => putJ acc p.1 (m + p.2)
  | none => putJ acc p.1 p.2
theorem addJ_some {acc : List (Int × Int)} {p : Int × Int} {m : Int} (h : valJ acc p.1 = some m) : addJ acc p = putJ acc p.1 (m + p.2) := by unfold addJ; rw [h]
theorem addJ_none {acc : List (Int × Int)} {p : Int × Int} (h : valJ acc p.1 = none) : addJ acc p = putJ acc p.1 p.2 := by unfold addJ; rw [h]
noncomputable def copyJ (js : List (Int × Int)) : List (Int × Int) := js.foldl (fun acc p => putJ acc p.1 p.2) []
noncomputable def mergeV (js src : List (Int × Int)) : List (Int × Int) := src.foldl addJ (copyJ js)
theorem putJ_len (js : List (Int × Int)) (k v : Int) : (putJ js k v).length ≤ js.length + 1 := by
  unfold putJ
  split
  · rw [List.length_map]; lia
  · rw [List.length_append]; simp
theorem copy_len : ∀ (js acc : List (Int × Int)), (js.foldl (fun acc p => putJ acc p.1 p.2) acc).length ≤ acc.length + js.length
  | [], acc => by simp
  | p :: js, acc => by
    have h := copy_len js (putJ acc p.1 p.2)
    have := putJ_len acc p.1 p.2
    rw [List.foldl_cons, List.length_cons]
    lia
theorem addJ_len (acc : List (Int × Int)) (p : Int × Int) : (addJ acc p).length ≤ acc.length + 1 := by
  unfold addJ
  split <;> exact putJ_len ..
theorem merge_len : ∀ (src acc : List (Int × Int)), (src.foldl addJ acc).length ≤ acc.length + src.length
  | [], acc => by simp
  | p :: src, acc => by
    have h := merge_len src (addJ acc p)
    have := addJ_len acc p
    rw [List.foldl_cons, List.length_cons]
    lia
theorem fold_succ {β : Type} (f : β → Int × Int → β) (b : β) {js : List (Int × Int)} {i : Nat} {p : Int × Int} (h : js[i]? = some p) : (js.take (i + 1)).foldl f b = f ((js.take i).foldl f b) p := by
  rw [List.take_add_one, h, List.foldl_append]
  rfl
theorem f_callers {c : Cx} {x : Str} {fa : Addr} {js src : List (Int × Int)} (hj : js.length ≤ 30) (hs : src.length ≤ 30) (N : Nm c) (B : Big c) (D : DF c x fa 23) : Fn c 1 fa [dictD js, dictD src] (dictD (mergeV js src)) := by
  refine fn_at (n := 0) (ns := [Str.ofString "target", Str.ofString "source"]) D rfl ?_ (by decide) (kinds_of (by rfl)) ?_ rfl rfl rfl
  · exact bind_via fun fd => vs2 fun _ _ => rfl
  · intro A L q code r
    refine x_ret_of ?_
    refine xa_cons (fun g₀ s₀ k g s => ∃ a, FO c (envAt 23 L fa q code) [(Str.ofString "new_callers", .ref a)] [(Str.ofString "target", dictD js), (Str.ofString "source", dictD src)] [(a, dictD [])] g₀ s₀ k g s) (xo_newdict B (.inl rfl) rfl rfl fun a g₀ s₀ k g s F => ⟨a, F⟩) ?_
    refine xa_case fun a => ?_
    have hc : ∀ i, (((js.take i).foldl (fun acc p => putJ acc p.1 p.2) [])).length ≤ 100 := fun i => by
      have := copy_len (js.take i) []
      rw [List.length_take] at this
      simp only [List.length_nil] at this
      lia
    have hm : ∀ i, (((src.take i).foldl addJ (copyJ js))).length ≤ 100 := fun i => by
      have h1 := merge_len (src.take i) (copyJ js)
      have h2 := copy_len js []
      rw [List.length_take] at h1
      simp only [List.length_nil] at h2
      unfold copyJ at h1 ⊢
      lia
    refine xa_cons (FO c (envAt 23 L fa q code) [(Str.ofString "new_callers", .ref a)] [(Str.ofString "target", dictD js), (Str.ofString "source", dictD src)] [(a, dictD (copyJ js))]) (xa_for_items (js := js) (fun i => FO c (envAt 23 L fa q code) [(Str.ofString "new_callers", .ref a)] [(Str.ofString "target", dictD js), (Str.ofString "source", dictD src)] [(a, dictD ((js.take i).foldl (fun acc p => putJ acc p.1 p.2) []))]) r.h (fun i => fo_ad) (fun g₀ s₀ k g s F => ⟨_, F.frm.bg, F.frm.st, it_items (ev_name rfl)⟩) ?_ ?_) ?_
    · intro i p hp g₀ s₀ k g s T t1 t2 Q E F ht hQ
      refine xi_pair r.h F ht (.inl rfl) rfl (.inl rfl) rfl fun s' F' => ?_
      refine wpAny_execs_cons (xo_setitem (ω₁ := []) (ω₂ := []) (o := ⟨FO c (envAt 23 L fa q code) [(Str.ofString "new_callers", .ref a)] [(Str.ofString "target", dictD js), (Str.ofString "source", dictD src)] [(a, dictD ((js.take (i + 1)).foldl (fun acc p => putJ acc p.1 p.2) []))], fun _ => False, fun _ _ _ _ _ => False⟩) rfl (ev_name rfl) (ev_name rfl) (hc i) ?_ rfl (by decide) _ _ _ _ _ _ _ F' ⟨fun g₆ s₆ F₆ => wpAny_execs_nil (hQ _ _ F₆), fun _ _ _ _ h => h.elim, fun _ _ h => h.elim⟩)
      intro g₁ s₁ k₁ g s F
      rw [fold_succ _ _ hp]
      exact F.weak (subs' ⟨rfl, rfl, trivial⟩)
    · intro g₀ s₀ k g s F
      rw [List.take_of_length_le (Nat.le_refl _)] at F
      exact F
    refine xa_cons (FO c (envAt 23 L fa q code) [(Str.ofString "new_callers", .ref a)] [(Str.ofString "target", dictD js), (Str.ofString "source", dictD src)] [(a, dictD (mergeV js src))]) (xa_for_items (js := src) (fun i => FO c (envAt 23 L fa q code) [(Str.ofString "new_callers", .ref a)] [(Str.ofString "target", dictD js), (Str.ofString "source", dictD src)] [(a, dictD ((src.take i).foldl addJ (copyJ js)))]) r.h (fun i => fo_ad) (fun g₀ s₀ k g s F => ⟨_, F.frm.bg, F.frm.st, it_items (ev_name rfl)⟩) ?_ ?_) ?_
    · intro i p hp g₀ s₀ k g s T t1 t2 Q E F ht hQ
      refine xi_pair r.h F ht (.inl rfl) rfl (.inl rfl) rfl fun s' F' => ?_
      have fin : ∀ g s, FO c (envAt 23 L fa q code) [(Str.ofString "new_callers", .ref a)] (setρ (setρ [(Str.ofString "target", dictD js), (Str.ofString "source", dictD src)] (Str.ofString "func") (.int p.1)) (Str.ofString "caller") (.int p.2)) [(a, dictD (addJ ((src.take i).foldl addJ (copyJ js)) p))] g₀ s₀ k g s → Q .next s := fun g s F => by
        refine hQ g s ?_
        rw [fold_succ _ _ hp]
        exact F.weak (subs' ⟨rfl, rfl, trivial⟩)
      refine wpAny_execs_cons (wpAny_If (wp_in_own (ω₁ := []) (ω₂ := []) F' rfl (ev_name rfl) (fun g₆ s₆ F₆ => ?_)))
      cases hv : valJ ((src.take i).foldl addJ (copyJ js)) p.1 with
      | none =>
        refine wpAny_execs_cons (xo_setitem (ω₁ := []) (ω₂ := []) (o := ⟨FO c (envAt 23 L fa q code) [(Str.ofString "new_callers", .ref a)] (setρ (setρ [(Str.ofString "target", dictD js), (Str.ofString "source", dictD src)] (Str.ofString "func") (.int p.1)) (Str.ofString "caller") (.int p.2)) [(a, dictD (addJ ((src.take i).foldl addJ (copyJ js)) p))], fun _ => False, fun _ _ _ _ _ => False⟩) rfl (ev_name rfl) (ev_name rfl) (hm i) ?_ rfl (by decide) _ _ _ _ _ _ _ F₆ ⟨fun g₇ s₇ F₇ => wpAny_execs_nil (wpAny_execs_nil (fin _ _ F₇)), fun _ _ _ _ h => h.elim, fun _ _ h => h.elim⟩)
        intro g₁ s₁ k₁ g s F
        have : addJ ((src.take i).foldl addJ (copyJ js)) p = putJ ((src.take i).foldl addJ (copyJ js)) p.1 p.2 := addJ_none hv
        rw [this]
        exact F
      | some m =>
        refine wpAny_execs_cons (wpAny_If ((tr_val (b := false) (ev_isinst (n := p.2) N.isinstance rfl N.tuple rfl (ev_name rfl) (fun s u Q E h => IsiPair.int_tuple (h _))) rfl (fun _ e => nomatch e)).tk g₆ s₆ _ _ F₆.frm.bg F₆.frm.st fun g₇ s₇ G₇ t₇ => ?_))
        have F₇ := F₆.step G₇ t₇
        refine wpAny_execs_cons (xo_addto (ω₁ := []) (ω₂ := []) (o := ⟨FO c (envAt 23 L fa q code) [(Str.ofString "new_callers", .ref a)] (setρ (setρ [(Str.ofString "target", dictD js), (Str.ofString "source", dictD src)] (Str.ofString "func") (.int p.1)) (Str.ofString "caller") (.int p.2)) [(a, dictD (addJ ((src.take i).foldl addJ (copyJ js)) p))], fun _ => False, fun _ _ _ _ _ => False⟩) rfl rfl (ev_name rfl) hv (hm i) ?_ (by decide) (by decide) _ _ _ _ _ _ _ F₇ ⟨fun g₈ s₈ F₈ => wpAny_execs_nil (wpAny_execs_nil (wpAny_execs_nil (fin _ _ F₈))), fun _ _ _ _ h => h.elim, fun _ _ h => h.elim⟩)
        intro g₁ s₁ k₁ g s F
        have : addJ ((src.take i).foldl addJ (copyJ js)) p = putJ ((src.take i).foldl addJ (copyJ js)) p.1 (m + p.2) := addJ_some hv
        rw [this]
        exact F
    · intro g₀ s₀ k g s F
      rw [List.take_of_length_le (Nat.le_refl _)] at F
      exact F
    exact xa_ret (xo_return_dict (ω₁ := []) (ω₂ := []) rfl rfl)
end Mine
end
/-! ## C11 -/
section
open PySem PySem.W PySem.Calls PyProof.Rows
set_option maxHeartbeats 1000000
set_option maxRecDepth 100000
namespace Mine
noncomputable def statsD (a b d e : Int) (js : List (Int × Int)) : PyData := .tuple [.int a, .int b, .int d, .int e, dictD js]
theorem f_stats {c : Cx} {x : Str} {fa : Addr} {a₁ b₁ d₁ e₁ a₂ b₂ d₂ e₂ : Int} {js₁ js₂ : List (Int × Int)} (hj₁ : js₁.length ≤ 30) (hj₂ : js₂.length ≤ 30) (N : Nm c) (B : Big c) {fc : Addr} (Dc : DF c (Str.ofString "add_callers") fc 23) (D : DF c x fa 22) : Fn c 2 fa [statsD a₁ b₁ d₁ e₁ js₁, statsD a₂ b₂ d₂ e₂ js₂] (statsD (a₂ + a₁) (b₂ + b₁) (d₂ + d₁) (e₂ + e₁) (mergeV js₁ js₂)) := by
  refine fn_at (n := 1) (ns := [Str.ofString "target", Str.ofString "source"]) D rfl ?_ (by decide) (kinds_of (by rfl)) ?_ rfl rfl rfl
  · exact bind_via fun fd => vs2 fun _ _ => rfl
  · intro A L q code r
    have nm : ∀ x ∈ ["cc", "nc", "tt", "ct", "callers", "t_cc", "t_nc", "t_tt", "t_ct", "t_callers"], True := fun _ _ => trivial
    refine x_cons (x_unpack (ds := [.int a₂, .int b₂, .int d₂, .int e₂, dictD js₂]) [(Str.ofString "cc", _), (Str.ofString "nc", _), (Str.ofString "tt", _), (Str.ofString "ct", _), (Str.ofString "callers", _)] r.h (ev_name rfl) rfl ?_ rfl rfl rfl rfl rfl) ?_
    · intro x hx
      simp only [List.mem_cons, List.not_mem_nil, or_false] at hx
      rcases hx with rfl | rfl | rfl | rfl | rfl <;> exact ⟨.inl rfl, rfl⟩
    refine x_cons (x_unpack (ds := [.int a₁, .int b₁, .int d₁, .int e₁, dictD js₁]) [(Str.ofString "t_cc", _), (Str.ofString "t_nc", _), (Str.ofString "t_tt", _), (Str.ofString "t_ct", _), (Str.ofString "t_callers", _)] r.h (ev_name rfl) rfl ?_ rfl rfl rfl rfl rfl) ?_
    · intro x hx
      simp only [List.mem_cons, List.not_mem_nil, or_false] at hx
      rcases hx with rfl | rfl | rfl | rfl | rfl <;> exact ⟨.inl rfl, rfl⟩
    have DC := Dc
    obtain ⟨fd, Dcl, _⟩ := Dc
    exact x_ret (x_return (ev_tuple (evs_cons (ev_bin (ev_name rfl) (ev_name rfl) op_add) (evs_cons (ev_bin (ev_name rfl) (ev_name rfl) op_add) (evs_cons (ev_bin (ev_name rfl) (ev_name rfl) op_add) (evs_cons (ev_bin (ev_name rfl) (ev_name rfl) op_add) (evs_cons (ev_call Dcl rfl (evs_cons (ev_name rfl) (evs_cons (ev_name rfl) evs_nil)) ((f_callers hj₁ hj₂ N B DC).less (Nat.le_refl _)) r) evs_nil))))) (show 5 ≤ sizeLine by decide)))
end Mine
end
/-! ## C13 -/
section
open PySem PySem.W PySem.Calls PyProof.Rows
set_option maxHeartbeats 1000000
set_option maxRecDepth 100000
namespace Mine
theorem ev_cmpcall {c : Cx} {A : Around} {env : Env} {ρ : List (Str × PyData)} {o e₁ e₂ : Expr} {ap cp : Pos} {f : Addr} {w₀ w₁ k₁ c₁ k₂ c₂ : Int} {pl : Sem Bool} (T : TcK c f) (M : MF c f 20 1) (hr : Rm 1 A) (h₀ : Ev c A env ρ o (instD (selD w₀ w₁))) (h₁ : Ev c A env ρ e₁ (.tuple [.int k₁, .int c₁])) (h₂ : Ev c A env ρ e₂ (.tuple [.int k₂, .int c₂]))
    (he : eval (.Call (.Attribute o (Str.ofString "compare") ap) [e₁, e₂] [] cp) env = (do
      let ov ← eval o env
      standAt ap.atName
      let (f, first) ← holding [ov] (getMethod ov (Str.ofString "compare") pl)
      callWith cp f first (backTo cp (starEach [e₁, e₂] env)) []) := by rfl)
    (he2 : starEach [e₁, e₂] env = (false, eval e₁ env) :: starEach [e₂] env := by rfl) (he3 : starEach [e₂] env = (false, eval e₂ env) :: starEach [] env := by rfl) : Ev c A env ρ (.Call (.Attribute o (Str.ofString "compare") ap) [e₁, e₂] [] cp) (.int (toldV w₀ w₁ k₁ c₁ k₂ c₂)) := by
  intro g s Q E hg S hQ
  refine MethodCall_ (pl := pl) (h₀.tk g s _ _ hg S fun v g₁ s₁ G₁ r₁ t₁ => gm_cmp T (stays_trans hg G₁.gg) G₁.gs r₁ ?_) he
  have FC := f_compare (w₀ := w₀) (w₁ := w₁) (k₁ := k₁) (c₁ := c₁) (k₂ := k₂) (c₂ := c₂) T M
  obtain ⟨fd, ⟨of, hof, hdat⟩, _⟩ := M
  refine callWith_meth (h₀ := c.g0) hdat hof ?_ he2
  refine (evs_cons h₁ (evs_cons h₂ evs_nil he3) he2).tk cp g₁ s₁ _ _ (stays_trans hg G₁.gg) (S.grow G₁ t₁) fun vs g₂ s₂ G₂ r₂ t₂ => ?_
  have hg2 := stays_trans hg (stays_trans G₁.gg G₂.gg)
  refine ⟨fun b ob e => G₂.gs _ _ (hg2 _ _ e), ?_⟩
  exact FC A g₂ s₂ (v :: vs) Q E hr hg2 G₂.gs t₂ (.cons (r₁.mono G₂.gg) r₂) fun z g₃ s₃ G₃ r₃ => hQ z g₃ s₃ ((G₁.trans G₂).trans G₃) r₃
end Mine
end
/-! ## C8 -/
section
open PySem PySem.W PySem.Calls PyProof.Rows
set_option maxHeartbeats 1000000
set_option maxRecDepth 100000
namespace Mine
noncomputable def movesD (l : List (Int × Bool)) : PyData := .list (l.map fun p => .tuple [.int p.1, .bool p.2])
noncomputable def firstsV (ms : List Int) : List Int := ((List.range ms.length).filter fun j => !((ms.take j).any fun y => decide (y = ms.getD j 0))).map fun j => ms.getD j 0
noncomputable def entryV (l : List (Int × Bool)) : List PyData :=
  let ms := l.map (·.1)
  [.int ((l.filter (·.2)).length : Nat), .int (ms.length : Nat), .int ms.sum, .int (ms.map fun d => d * d).sum, .list ((firstsV ms).map fun d => .tuple [.int d, .int (ms.count d : Nat)])]
noncomputable def sqF : PyData → PyData
  | .int i => .int (i * i)
  | d => d
theorem any_eqv (d : Int) : ∀ xs : List Int, ((xs.map PyData.int).any fun y => PyData.eqv y (.int d)) = xs.any fun y => decide (y = d)
  | [] => rfl
  | x :: xs => by
    rw [List.map_cons, List.any_cons, List.any_cons, any_eqv d xs, eqv_int]
theorem flats_ints : ∀ xs : List Int, flats (xs.map PyData.int) = true
  | [] => rfl
  | x :: xs => by rw [List.map_cons]; unfold flats; rw [flats_ints xs]; rfl
theorem depthAll_ints : ∀ xs : List Int, PyData.depthAll (xs.map PyData.int) ≤ 1
  | [] => by simp [PyData.depthAll]
  | x :: xs => by
    have := depthAll_ints xs
    rw [List.map_cons]
    simp only [PyData.depthAll, PyData.depth]
    lia
theorem range_data (n : Nat) : rangeD 0 1 n = (List.range n).map fun (i : Nat) => PyData.int (i : Int) := by
  unfold rangeD
  apply List.map_congr_left
  intro i hi
  simp
theorem mul_ok {d : Int} (h1 : 1 ≤ d) (h2 : d ≤ 4) : IntMulOk d d := by
  have hd : d = 1 ∨ d = 2 ∨ d = 3 ∨ d = 4 := by lia
  rcases hd with rfl | rfl | rfl | rfl <;> exact IntMulOk.of_left (by decide +kernel)
theorem f_entry {c : Cx} {x : Str} {fa : Addr} {l : List (Int × Bool)} (hl : l.length ≤ 64) (hb : ∀ p ∈ l, 1 ≤ p.1 ∧ p.1 ≤ 4) (N : Nm c) (D : DF c x fa 33) : Fn c 1 fa [movesD l] (.tuple (entryV l)) := by
  refine fn_at (n := 0) (ns := [Str.ofString "moves"]) D rfl ?_ (by decide) (kinds_of (by rfl)) ?_ rfl rfl rfl
  · exact bind_via fun fd => vs1 fun _ => rfl
  · intro A L q code r
    have hsz : sizeLine = 2 ^ 24 := rfl
    refine x_cons (x_assign (d := .list ((l.map (·.1)).map .int)) (ev_comp [] (it_list (ds := l.map fun p => .tuple [.int p.1, .bool p.2]) r.h (ev_name rfl)) rfl rfl (by decide) (by decide) (caps trivial) (Cp.cast ?_ (cp_pairs (α := Int × Bool) (fun p => .int p.1) (fun p => .bool p.2) (fun p => .int p.1) r.h (by decide) (fun C => rfl) (fun C => rfl) (fun C => rfl) (fun d hd C => ev_name rfl))) (by rw [List.length_map]; lia)) (.inr ⟨rfl, _, rfl⟩)) ?_
    · rw [List.map_map]; rfl
    generalize hms : l.map (·.1) = ms
    have hml : ms.length = l.length := by rw [← hms, List.length_map]
    refine x_cons (x_assign_comp (rs := (firstsV ms).map .int) [(Str.ofString "seen", .list (ms.map .int))] (it_range1 (N := (ms.length : Nat)) r.h N.range rfl (ev_len N.len rfl (ev_name rfl) (by rw [List.length_map]; lia) (by rw [List.length_map])) (by lia) (by lia)) rfl rfl (by decide) (by decide) (caps ⟨⟨rfl, rfl, rfl, rfl⟩, trivial⟩) (Cp.cast ?_ (cp_filter (fun d => match d with | .int i => .int (ms.getD i.toNat 0) | d => d) (fun d => match d with | .int i => !((ms.take i.toNat).any fun y => decide (y = ms.getD i.toNat 0)) | d => false) (fun C => rfl) (fun C => rfl) ?_ ?_)) ?_ rfl rfl rfl) ?_
    · rw [Int.toNat_natCast, range_data, List.filter_map, List.map_map]
      unfold firstsV
      rw [List.map_map]
      rfl
    · intro d hd C
      rw [Int.toNat_natCast, range_data] at hd
      obtain ⟨i, hi, rfl⟩ := List.mem_map.mp hd
      have hi := List.mem_range.mp hi
      have hg : (ms.map PyData.int)[i]? = some (.int (ms.getD i 0)) := by
        rw [List.getElem?_map, List.getElem?_eq_getElem hi]
        simp [List.getD_eq_getElem?_getD, hi]
      refine tr_cmp (ev_item (T := "list") (ev_name rfl) (ev_name rfl) (op_item_list (j := i) (seq_ok (by lia) (by rw [List.length_map]; lia)) hg (by lia) (by lia)) rfl) (ev_upto_list (n := i) (ev_name rfl) (ev_name rfl) (by rw [List.length_map]; lia)) ?_
      have := op_notIn_list (c := c) (A := A) (xs := (ms.take i).map .int) (d := .int (ms.getD i 0)) (ke_canLayAll0 _) rfl (by have := depthAll_ints (ms.take i); have := r.u; show A.units + 1 + min _ _ < 9900; lia) (flats_ints _) rfl
      rw [any_eqv] at this
      rw [List.map_take] at this
      exact this
    · intro d hd hq C
      rw [Int.toNat_natCast, range_data] at hd
      obtain ⟨i, hi, rfl⟩ := List.mem_map.mp hd
      have hi := List.mem_range.mp hi
      have hg : (ms.map PyData.int)[i]? = some (.int (ms.getD i 0)) := by
        rw [List.getElem?_map, List.getElem?_eq_getElem hi]
        simp [List.getD_eq_getElem?_getD, hi]
      exact ev_item (T := "list") (ev_name rfl) (ev_name rfl) (op_item_list (j := i) (seq_ok (by lia) (by rw [List.length_map]; lia)) hg (by lia) (by lia)) rfl
    · rw [range_data, List.length_map, List.length_range]; lia
    have hfl : (firstsV ms).length ≤ 64 := by
      unfold firstsV
      rw [List.length_map]
      have := List.length_filter_le (fun j => !((ms.take j).any fun y => decide (y = ms.getD j 0))) (List.range ms.length)
      rw [List.length_range] at this
      lia
    refine x_cons (x_assign_comp (rs := (firstsV ms).map fun d => .tuple [.int d, .int (ms.count d : Nat)]) [(Str.ofString "seen", .list (ms.map .int))] (it_list (ds := (firstsV ms).map .int) r.h (ev_name rfl)) rfl rfl (by decide) (by decide) (caps ⟨⟨rfl, rfl, rfl, rfl⟩, trivial⟩) (Cp.cast ?_ (cp_map (fun d => match d with | .int i => .tuple [.int i, .int (ms.count i : Nat)] | d => d) (fun C => rfl) (fun C => rfl) ?_)) (by rw [List.length_map]; lia) rfl rfl rfl) ?_
    · rw [List.map_map]; rfl
    · intro d hd C
      obtain ⟨i, hi, rfl⟩ := List.mem_map.mp hd
      exact ev_tuple (evs_cons (ev_name rfl) (evs_cons (ev_meth1 (ev_name rfl) gm_count (ev_name rfl) op_count) evs_nil)) (show 2 ≤ sizeLine by decide)
    have he : entryV l = [.int ((l.filter (·.2)).length : Nat), .int (ms.length : Nat), .int ms.sum, .int (ms.map fun d => d * d).sum, .list ((firstsV ms).map fun d => .tuple [.int d, .int (ms.count d : Nat)])] := by
      unfold entryV
      simp only [hms]
    rw [he]
    refine x_ret (x_return (ev_tuple (evs_cons (ev_len (ds := (l.filter (·.2)).map fun p => .int p.1) N.len rfl (ev_comp [] (it_list (ds := l.map fun p => .tuple [.int p.1, .bool p.2]) r.h (ev_name rfl)) rfl rfl (by decide) (by decide) (caps trivial) (cp_pairs_if (α := Int × Bool) (fun p => .int p.1) (fun p => .bool p.2) (fun p => .int p.1) (·.2) r.h (by decide) (fun C => rfl) (fun C => rfl) (fun C => rfl) (fun d hd C => tr_val (d := .bool d.2) (ev_name rfl) rfl (fun _ e => nomatch e)) (fun d hd C => ev_name rfl)) (by rw [List.length_map]; lia)) ?_ ?_)
      (evs_cons (ev_len N.len rfl (ev_name rfl) (by rw [List.length_map]; lia) (by rw [List.length_map]))
      (evs_cons (ev_sum r.h N.sum rfl (ev_name rfl))
      (evs_cons (ev_sum (ns := ms.map fun d => d * d) r.h N.sum rfl (ev_comp [] (it_list (ds := ms.map .int) r.h (ev_name rfl)) rfl rfl (by decide) (by decide) (caps trivial) (Cp.cast ?_ (cp_map sqF (fun C => rfl) (fun C => rfl) ?_)) (by rw [List.length_map]; lia)))
      (evs_cons (ev_name rfl) evs_nil))))) (show 5 ≤ sizeLine by decide)))
    · rw [List.length_map]
      have := List.length_filter_le (·.2) l
      lia
    · rw [List.length_map]
    · rw [List.map_map, List.map_map]; rfl
    · intro d hd C
      obtain ⟨i, hi, rfl⟩ := List.mem_map.mp hd
      rw [← hms] at hi
      obtain ⟨p, hp, rfl⟩ := List.mem_map.mp hi
      exact ev_bin (ev_name rfl) (ev_name rfl) (op_mul (mul_ok (hb p hp).1 (hb p hp).2))
end Mine
end
/-! ## C14 -/
section
open PySem PySem.W PySem.Calls PyProof.Rows
set_option maxHeartbeats 1000000
set_option maxRecDepth 100000
namespace Mine
structure Bk where
  a : Int
  b : Int
  d : Int
  e : Int
  js : List (Int × Int)
noncomputable def Bk.data (x : Bk) : PyData := statsD x.a x.b x.d x.e x.js
noncomputable def bookD (B : Nat → Bk) : PyData := .list [(B 0).data, (B 1).data, (B 2).data, (B 3).data]
noncomputable def movesL (m : Nat → List (Int × Bool)) : PyData := .list [movesD (m 0), movesD (m 1), movesD (m 2), movesD (m 3)]
noncomputable def keysD (n : Nat → Int) : PyData := .list [.tuple [.int 0, .int (n 0)], .tuple [.int 1, .int (n 1)], .tuple [.int 2, .int (n 2)], .tuple [.int 3, .int (n 3)]]
noncomputable def tolds (w₀ w₁ : Int) (n : Nat → Int) (fr : List Nat) (k : Nat) : List Int := fr.map fun (j : Nat) => toldV w₀ w₁ (j : Int) (n j) (k : Int) (n k)
noncomputable def moversV (w₀ w₁ : Int) (n : Nat → Int) (fr : List Nat) (cnt : Int) : List Nat := fr.filter fun k => decide ((((tolds w₀ w₁ n fr k).filter fun t => decide (t < 0)).length : Int) < cnt)
noncomputable def natsD (fr : List Nat) : List PyData := fr.map fun (k : Nat) => PyData.int (k : Int)
theorem keys_get {n : Nat → Int} {j : Nat} (h : j < 4) : [PyData.tuple [.int 0, .int (n 0)], .tuple [.int 1, .int (n 1)], .tuple [.int 2, .int (n 2)], .tuple [.int 3, .int (n 3)]][j]? = some (.tuple [.int (j : Int), .int (n j)]) := by
  match j, h with
  | 0, _ => rfl
  | 1, _ => rfl
  | 2, _ => rfl
  | 3, _ => rfl
theorem canLay_ints (xs : List Int) : (PyData.list (xs.map .int)).canLay0 = true := by
  show PyData.canLayAll0 _ = true
  exact ke_canLayAll0 xs
theorem rangeD4' : rangeD 0 1 (4 : Int).toNat = [.int 0, .int 1, .int 2, .int 3] := rfl
theorem f_movers {c : Cx} {x : Str} {fa : Addr} {w₀ w₁ cnt : Int} {fr : List Nat} {B : Nat → Bk} {m : Nat → List (Int × Bool)} {n : Nat → Int} (hn : ∀ k < 4, n k = ((m k).length : Nat)) (hcall : ∀ k < 4, callsV (B k).js = n k) (hlen : ∀ k < 4, (m k).length ≤ 64) (hfr : fr.length ≤ 4) (hf4 : ∀ k ∈ fr, k < 4) (N : Nm c) {fc ft fl f : Addr} (Dc : DF c (Str.ofString "count_calls") fc 24) (Dt : DF c (Str.ofString "_law_told") ft 31) (Dl : DF c (Str.ofString "lt") fl 11) (T : TcK c f) (M : MF c f 20 1) (D : DF c x fa 32) : Fn c 2 fa [instD (selD w₀ w₁), .tuple [.int w₀, .int w₁], .list (natsD fr), bookD B, movesL m, .int cnt] (.list (natsD (moversV w₀ w₁ n fr cnt))) := by
  refine fn_at (n := 1) (ns := [Str.ofString "judge", Str.ofString "ways", Str.ofString "free", Str.ofString "book", Str.ofString "moves", Str.ofString "count"]) D rfl ?_ (by decide) (kinds_of (by rfl)) ?_ rfl rfl rfl
  · exact bind_via fun fd => vs6 fun _ _ _ _ _ _ => rfl
  · intro A L q code r
    have DC := Dc
    have DT := Dt
    have DL := Dl
    obtain ⟨_, Dtl, _⟩ := Dt
    obtain ⟨_, Dlt, _⟩ := Dl
    obtain ⟨fd, Dcl, _⟩ := Dc
    refine x_ret_of ?_
    refine xo_cons (x_assign (d := keysD n) (ev_comp [(Str.ofString "book", bookD B)] (it_range1 (N := 4) r.h N.range rfl ev_int (by decide) (by decide)) rfl rfl (by decide) (by decide) (caps ⟨⟨rfl, rfl, rfl, rfl⟩, trivial⟩) (ds := rangeD 0 1 (4 : Int).toNat) ?_ (by decide)) (.inr ⟨rfl, _, rfl⟩)) ?_
    · rw [rangeD4']
      refine .keep [(Str.ofString "k", .int 0)] (fun C => bdc_name rfl rfl) (fun C => ifs_nil) (fun C => ev_tuple (evs_cons (ev_name rfl) (evs_cons (ev_call Dcl rfl (evs_cons (ev_item (T := "tuple") (d := dictD (B 0).js) (ev_item (T := "list") (d := (B 0).data) (ev_name rfl) (ev_name rfl) (op_item_list (j := 0) rfl rfl (by decide) (by decide)) rfl) ev_int (op_item_tuple (j := 4) rfl rfl (by decide) (by decide)) rfl) evs_nil) (by rw [← hcall 0 (by decide)]; exact (f_calls DC).less (Nat.le_refl _)) r) evs_nil)) (show 2 ≤ sizeLine by decide)) ?_
      refine .keep [(Str.ofString "k", .int 1)] (fun C => bdc_name rfl rfl) (fun C => ifs_nil) (fun C => ev_tuple (evs_cons (ev_name rfl) (evs_cons (ev_call Dcl rfl (evs_cons (ev_item (T := "tuple") (d := dictD (B 1).js) (ev_item (T := "list") (d := (B 1).data) (ev_name rfl) (ev_name rfl) (op_item_list (j := 1) rfl rfl (by decide) (by decide)) rfl) ev_int (op_item_tuple (j := 4) rfl rfl (by decide) (by decide)) rfl) evs_nil) (by rw [← hcall 1 (by decide)]; exact (f_calls DC).less (Nat.le_refl _)) r) evs_nil)) (show 2 ≤ sizeLine by decide)) ?_
      refine .keep [(Str.ofString "k", .int 2)] (fun C => bdc_name rfl rfl) (fun C => ifs_nil) (fun C => ev_tuple (evs_cons (ev_name rfl) (evs_cons (ev_call Dcl rfl (evs_cons (ev_item (T := "tuple") (d := dictD (B 2).js) (ev_item (T := "list") (d := (B 2).data) (ev_name rfl) (ev_name rfl) (op_item_list (j := 2) rfl rfl (by decide) (by decide)) rfl) ev_int (op_item_tuple (j := 4) rfl rfl (by decide) (by decide)) rfl) evs_nil) (by rw [← hcall 2 (by decide)]; exact (f_calls DC).less (Nat.le_refl _)) r) evs_nil)) (show 2 ≤ sizeLine by decide)) ?_
      refine .keep [(Str.ofString "k", .int 3)] (fun C => bdc_name rfl rfl) (fun C => ifs_nil) (fun C => ev_tuple (evs_cons (ev_name rfl) (evs_cons (ev_call Dcl rfl (evs_cons (ev_item (T := "tuple") (d := dictD (B 3).js) (ev_item (T := "list") (d := (B 3).data) (ev_name rfl) (ev_name rfl) (op_item_list (j := 3) rfl rfl (by decide) (by decide)) rfl) ev_int (op_item_tuple (j := 4) rfl rfl (by decide) (by decide)) rfl) evs_nil) (by rw [← hcall 3 (by decide)]; exact (f_calls DC).less (Nat.le_refl _)) r) evs_nil)) (show 2 ≤ sizeLine by decide)) ?_
      exact .nil
    refine xo_cons (x_if (b := false) (o := .next _) (tr_cmp (d₂ := keysD n) (ev_name rfl) (ev_comp [(Str.ofString "moves", movesL m)] (it_range1 (N := 4) r.h N.range rfl ev_int (by decide) (by decide)) rfl rfl (by decide) (by decide) (caps ⟨⟨rfl, rfl, rfl, rfl⟩, trivial⟩) (ds := rangeD 0 1 (4 : Int).toNat) ?_ (by decide)) ?_) (fun h => nomatch h) (fun _ => x_nil)) ?_
    · rw [rangeD4']
      refine .keep [(Str.ofString "k", .int 0)] (fun C => bdc_name rfl rfl) (fun C => ifs_nil) (fun C => ev_tuple (evs_cons (ev_name rfl) (evs_cons (ev_len N.len rfl (ev_item (T := "list") (d := movesD (m 0)) (ev_name rfl) (ev_name rfl) (op_item_list (j := 0) rfl rfl (by decide) (by decide)) rfl) (by rw [List.length_map]; have := hlen 0 (by decide); lia) (by rw [List.length_map]; exact hn 0 (by decide))) evs_nil)) (show 2 ≤ sizeLine by decide)) ?_
      refine .keep [(Str.ofString "k", .int 1)] (fun C => bdc_name rfl rfl) (fun C => ifs_nil) (fun C => ev_tuple (evs_cons (ev_name rfl) (evs_cons (ev_len N.len rfl (ev_item (T := "list") (d := movesD (m 1)) (ev_name rfl) (ev_name rfl) (op_item_list (j := 1) rfl rfl (by decide) (by decide)) rfl) (by rw [List.length_map]; have := hlen 1 (by decide); lia) (by rw [List.length_map]; exact hn 1 (by decide))) evs_nil)) (show 2 ≤ sizeLine by decide)) ?_
      refine .keep [(Str.ofString "k", .int 2)] (fun C => bdc_name rfl rfl) (fun C => ifs_nil) (fun C => ev_tuple (evs_cons (ev_name rfl) (evs_cons (ev_len N.len rfl (ev_item (T := "list") (d := movesD (m 2)) (ev_name rfl) (ev_name rfl) (op_item_list (j := 2) rfl rfl (by decide) (by decide)) rfl) (by rw [List.length_map]; have := hlen 2 (by decide); lia) (by rw [List.length_map]; exact hn 2 (by decide))) evs_nil)) (show 2 ≤ sizeLine by decide)) ?_
      refine .keep [(Str.ofString "k", .int 3)] (fun C => bdc_name rfl rfl) (fun C => ifs_nil) (fun C => ev_tuple (evs_cons (ev_name rfl) (evs_cons (ev_len N.len rfl (ev_item (T := "list") (d := movesD (m 3)) (ev_name rfl) (ev_name rfl) (op_item_list (j := 3) rfl rfl (by decide) (by decide)) rfl) (by rw [List.length_map]; have := hlen 3 (by decide); lia) (by rw [List.length_map]; exact hn 3 (by decide))) evs_nil)) (show 2 ≤ sizeLine by decide)) ?_
      exact .nil
    · have h := op_ne (c := c) (A := A) (d₁ := keysD n) (d₂ := keysD n) rfl rfl (r.line _ (by simp [keysD, PyData.depth, PyData.depthAll])) rfl rfl
      rw [SeqAt.eqv_refl _ rfl] at h
      exact h
    refine xa_cons (fun g₀ s₀ k g s => ∃ a, FO c (envAt 32 L fa q code) [(Str.ofString "movers", .ref a)] (setρ [(Str.ofString "judge", instD (selD w₀ w₁)), (Str.ofString "ways", .tuple [.int w₀, .int w₁]), (Str.ofString "free", .list (natsD fr)), (Str.ofString "book", bookD B), (Str.ofString "moves", movesL m), (Str.ofString "count", .int cnt)] (Str.ofString "keys") (keysD n)) [(a, .list [])] g₀ s₀ k g s) (xo_newlist (.inl rfl) rfl rfl fun a g₀ s₀ k g s F => ⟨a, F⟩) ?_
    refine xa_case fun a => ?_
    refine xa_cons (FO c (envAt 32 L fa q code) [(Str.ofString "movers", .ref a)] (setρ [(Str.ofString "judge", instD (selD w₀ w₁)), (Str.ofString "ways", .tuple [.int w₀, .int w₁]), (Str.ofString "free", .list (natsD fr)), (Str.ofString "book", bookD B), (Str.ofString "moves", movesL m), (Str.ofString "count", .int cnt)] (Str.ofString "keys") (keysD n)) [(a, .list (natsD (moversV w₀ w₁ n fr cnt)))]) (xa_for (ds := natsD fr) (fun i => FO c (envAt 32 L fa q code) [(Str.ofString "movers", .ref a)] (setρ [(Str.ofString "judge", instD (selD w₀ w₁)), (Str.ofString "ways", .tuple [.int w₀, .int w₁]), (Str.ofString "free", .list (natsD fr)), (Str.ofString "book", bookD B), (Str.ofString "moves", movesL m), (Str.ofString "count", .int cnt)] (Str.ofString "keys") (keysD n)) [(a, .list (natsD ((fr.take i).filter fun k => decide ((((tolds w₀ w₁ n fr k).filter fun t => decide (t < 0)).length : Int) < cnt))))]) (fun i => fo_ad) fo_ad (fun g₀ s₀ k g s F => ⟨_, F.frm.bg, F.frm.st, it_list r.h (ev_name rfl)⟩) ?_ ?_) ?_
    · intro i d hd
      unfold natsD at hd
      rw [List.getElem?_map] at hd
      cases hk : fr[i]? with
      | none => rw [hk] at hd; cases hd
      | some kk =>
        rw [hk] at hd
        cases hd
        have hkm : kk ∈ fr := List.mem_of_getElem? hk
        have hk4 := hf4 kk hkm
        have hsz : sizeLine = 2 ^ 24 := rfl
        refine xb_name (.inr ⟨rfl, _, rfl⟩) rfl ?_
        have item : ∀ {env : Env} {ρ : List (Str × PyData)} {x y : Str} {p1 p2 p3 : Pos} {j : Nat}, j < 4 → ρ.lookup x = some (keysD n) → ρ.lookup y = some (.int (j : Int)) → (x == ("__debug__" : Str)) = false → (y == ("__debug__" : Str)) = false → Ev c A env ρ (.Subscript (.Name x p1) (.Name y p2) p3) (.tuple [.int (j : Int), .int (n j)]) := fun {env ρ x y p1 p2 p3 j} hj hx hy hdx hdy =>
          ev_item (T := "list") (ev_name hx hdx) (ev_name hy hdy) (op_item_list (j := j) (seq_ok (by lia) (show (j : Int) < ((4 : Nat) : Int) by lia)) (keys_get hj) (by lia) (by lia)) rfl
        refine xo_cons (x_assign_comp (rs := (tolds w₀ w₁ n fr kk).map .int) [(Str.ofString "judge", instD (selD w₀ w₁)), (Str.ofString "k", .int (kk : Int)), (Str.ofString "keys", keysD n)] (it_list (ds := natsD fr) r.h (ev_name rfl)) rfl rfl (by decide) (by decide) (caps ⟨⟨rfl, rfl, rfl, rfl⟩, ⟨rfl, rfl, rfl, rfl⟩, ⟨rfl, rfl, rfl, rfl⟩, trivial⟩)
          (Cp.cast ?_ (cp_map (fun d => match d with | .int j => .int (toldV w₀ w₁ j (n j.toNat) (kk : Int) (n kk)) | d => d) (fun C => rfl) (fun C => rfl) ?_)) (by unfold natsD; rw [List.length_map]; lia) rfl rfl rfl) ?_
        · unfold natsD tolds
          rw [List.map_map, List.map_map]
          rfl
        · intro d hd C
          obtain ⟨j, hj, rfl⟩ := List.mem_map.mp hd
          exact ev_cmpcall T M r (ev_name rfl) (item (hf4 j hj) rfl rfl (by decide) (by decide)) (item hk4 rfl rfl (by decide) (by decide))
        refine xo_cons (x_if (b := false) (o := .next _) (tr_cmp (d₂ := .list ((tolds w₀ w₁ n fr kk).map .int)) (ev_name rfl) (ev_comp [(Str.ofString "k", .int (kk : Int)), (Str.ofString "keys", keysD n), (Str.ofString "ways", .tuple [.int w₀, .int w₁])] (it_list (ds := natsD fr) r.h (ev_name rfl)) rfl rfl (by decide) (by decide) (caps ⟨⟨rfl, rfl, rfl, rfl⟩, ⟨rfl, rfl, rfl, rfl⟩, ⟨rfl, rfl, rfl, rfl⟩, trivial⟩)
          (Cp.cast ?_ (cp_map (fun d => match d with | .int j => .int (toldV w₀ w₁ j (n j.toNat) (kk : Int) (n kk)) | d => d) (fun C => rfl) (fun C => rfl) ?_)) (by unfold natsD; rw [List.length_map]; lia)) ?_) (fun h => nomatch h) (fun _ => x_nil)) ?_
        · unfold natsD tolds
          rw [List.map_map, List.map_map]
          rfl
        · intro d hd C
          obtain ⟨j, hj, rfl⟩ := List.mem_map.mp hd
          exact ev_call Dtl rfl (evs_cons (ev_name rfl) (evs_cons (item (hf4 j hj) rfl rfl (by decide) (by decide)) (evs_cons (item hk4 rfl rfl (by decide) (by decide)) evs_nil))) ((f_told DT).less (Nat.le_refl _)) r
        · have h := op_ne (c := c) (A := A) (d₁ := .list ((tolds w₀ w₁ n fr kk).map .int)) (d₂ := .list ((tolds w₀ w₁ n fr kk).map .int)) (canLay_ints _) (canLay_ints _) (r.line _ (by have := depthAll_ints (tolds w₀ w₁ n fr kk); simp only [PyData.depth]; lia)) (flats_ints _) (flats_ints _)
          rw [SeqAt.eqv_refl _ (canLay_ints _)] at h
          exact h
        refine xa_cons (FO c (envAt 32 L fa q code) [(Str.ofString "movers", .ref a)] (setρ [(Str.ofString "judge", instD (selD w₀ w₁)), (Str.ofString "ways", .tuple [.int w₀, .int w₁]), (Str.ofString "free", .list (natsD fr)), (Str.ofString "book", bookD B), (Str.ofString "moves", movesL m), (Str.ofString "count", .int cnt)] (Str.ofString "keys") (keysD n)) [(a, .list (natsD ((fr.take (i + 1)).filter fun k => decide ((((tolds w₀ w₁ n fr k).filter fun t => decide (t < 0)).length : Int) < cnt))))])
          (xo_if (b := decide ((((tolds w₀ w₁ n fr kk).filter fun t => decide (t < 0)).length : Int) < cnt)) (tr_cmp (ev_len (ds := ((tolds w₀ w₁ n fr kk).filter fun t => decide (t < 0)).map .int) N.len rfl (ev_comp [] (it_list (ds := (tolds w₀ w₁ n fr kk).map .int) r.h (ev_name rfl)) rfl rfl (by decide) (by decide) (caps trivial)
            (Cp.cast ?_ (cp_filter (fun d => d) (fun d => match d with | .int t => decide (t < 0) | _ => false) (fun C => rfl) (fun C => rfl) ?_ ?_)) ?_) ?_ (by rw [List.length_map])) (ev_name rfl) op_lt) (fun h => ?_) (fun h => ?_)) (xa_nil fun _ _ _ _ _ F => F)
        · rw [List.map_id', List.filter_map]
          rfl
        · intro d hd C
          obtain ⟨t, ht, rfl⟩ := List.mem_map.mp hd
          refine tr_cmp (ev_call Dlt rfl (evs_cons (ev_name rfl) (evs_cons ev_int evs_nil)) ((f_lt DL).less (Nat.le_refl _)) r) ev_bool ?_
          have h := op_isNot_bool (c := c) (A := A) (a := decide (t < 0)) (b := false)
          simpa using h
        · intro d hd hq C
          exact ev_name rfl
        · unfold tolds
          rw [List.length_map, List.length_map]
          lia
        · rw [List.length_map]
          have := List.length_filter_le (fun t => decide (t < 0)) (tolds w₀ w₁ n fr kk)
          have h2 : (tolds w₀ w₁ n fr kk).length = fr.length := by unfold tolds; rw [List.length_map]
          lia
        · refine xa_cons _ (xo_append (ω₁ := []) (ω₂ := []) (d := .int (kk : Int)) rfl (ev_name rfl) ?_ fun g₀ s₀ k g s F => F) (xa_nil fun g₀ s₀ k g s F => ?_)
          · unfold natsD
            rw [List.length_map]
            have := List.length_filter_le (fun k => decide ((((tolds w₀ w₁ n fr k).filter fun t => decide (t < 0)).length : Int) < cnt)) (fr.take i)
            rw [List.length_take] at this
            lia
          · have e : natsD ((fr.take (i + 1)).filter fun k => decide ((((tolds w₀ w₁ n fr k).filter fun t => decide (t < 0)).length : Int) < cnt)) = natsD ((fr.take i).filter fun k => decide ((((tolds w₀ w₁ n fr k).filter fun t => decide (t < 0)).length : Int) < cnt)) ++ [.int (kk : Int)] := by
              rw [take_succ_filter _ _ _ _ hk, h]
              unfold natsD
              rw [List.map_append]
              rfl
            rw [e]
            exact FO.weak F (subs' ⟨rfl, rfl, rfl, rfl, rfl, rfl, rfl, trivial⟩)
        · refine xa_nil fun g₀ s₀ k g s F => ?_
          have e : (fr.take (i + 1)).filter (fun k => decide ((((tolds w₀ w₁ n fr k).filter fun t => decide (t < 0)).length : Int) < cnt)) = (fr.take i).filter fun k => decide ((((tolds w₀ w₁ n fr k).filter fun t => decide (t < 0)).length : Int) < cnt) := by
            rw [take_succ_filter _ _ _ _ hk, h]
            simp
          rw [e]
          exact FO.weak F (subs' ⟨rfl, rfl, rfl, rfl, rfl, rfl, rfl, trivial⟩)
    · intro g₀ s₀ k g s F
      unfold natsD at F
      rw [List.length_map, List.take_of_length_le (Nat.le_refl _)] at F
      exact F
    exact xa_ret (xo_return_own (ω₁ := []) (ω₂ := []) rfl rfl)
end Mine
end
/-! ## C4 -/
section
open PySem PySem.W PySem.Calls PyProof.Rows
set_option maxRecDepth 100000
namespace Mine
noncomputable def stdV (y : Str) (n : Int) (z : Str) : Str :=
  if PyData.eqv (.tuple [.str y, .int n]) (.tuple [.str (Str.ofString "~"), .int 0]) = true then
    (if (Txt.startswith z (Str.ofString "<") && (Txt.endswith z (Str.ofString ">") && true)) = true then Str.ofString "{" ++ Txt.slice z (some 1) (some (-1)) ++ Str.ofString "}" else z)
  else y ++ Str.ofString ":" ++ Str.ofString (toString n) ++ Str.ofString "(" ++ z ++ Str.ofString ")"
theorem f_std {c : Cx} {x : Str} {fa : Addr} {y z : Str} {n : Int} (hy : y.length ≤ 1000) (hz : z.length ≤ 1000) (ho : PyData.strOk y = true) (hn0 : 0 ≤ n) (hn1 : n < 10 ^ 10) (D : DF c x fa 21) : Fn c 1 fa [.tuple [.str y, .int n, .str z]] (.str (stdV y n z)) := by
  refine fn_at (n := 0) (ns := [Str.ofString "func_name"]) D rfl ?_ (by decide) (kinds_of (by rfl)) ?_ rfl rfl rfl
  · exact bind_via fun fd => vs1 fun _ => rfl
  · intro A L q code r
    have hsz : sizeLine = 2 ^ 24 := rfl
    have hsl : (Txt.slice z (some 1) (some (-1))).length ≤ 1000000 := Nat.le_trans (Txt.slice_le z _ _) (by lia)
    refine x_ret (x_if (b := PyData.eqv (.tuple [.str y, .int n]) (.tuple [.str (Str.ofString "~"), .int 0])) (tr_cmp (ev_upto_tuple (n := 2) (ev_name rfl) ev_int (show 3 ≤ sizeLine by decide) (show 2 < 3 by decide)) (ev_tuple (evs_cons ev_str (evs_cons ev_int evs_nil)) (by decide)) (op_eq (by simp [PyData.canLay0, PyData.canLayAll0, ho]) (by decide +kernel) (r.line _ (by simp [PyData.depth, PyData.depthAll])))) (fun h => ?_) (fun h => ?_))
    · unfold stdV
      rw [if_pos h]
      refine x_cons (x_assign (d := .str z) (ev_item (T := "tuple") (ev_name rfl) ev_int (op_item_tuple (j := 2) rfl rfl (by decide) (by decide)) rfl) (.inl rfl)) ?_
      refine x_ret (x_if (b := Txt.startswith z (Str.ofString "<") && (Txt.endswith z (Str.ofString ">") && true)) (tr_bool (al_and (tr_val (ev_meth1 (ev_name rfl) gm_startswith ev_str op_startswith) rfl (fun _ e => nomatch e)) (fun _ => al_and (tr_val (ev_meth1 (ev_name rfl) gm_endswith ev_str op_endswith) rfl (fun _ e => nomatch e)) (fun _ => al_and_nil)))) (fun h => ?_) (fun h => ?_))
      · rw [if_pos h]
        exact x_ret (x_return (ev_bin ev_str (ev_slice_str (ev_name rfl) ev_int (ev_un ev_int op_neg) (by lia)) (op_mod_brace hsl)))
      · rw [if_neg (by rw [h]; decide)]
        exact x_ret (x_return (ev_name rfl))
    · unfold stdV
      rw [if_neg (by rw [h]; decide)]
      exact x_ret (x_return (ev_bin ev_str (ev_name rfl) (op_mod_std (by lia) (by lia) hn0 hn1)))
end Mine
end
/-! ## C5 -/
section
open PySem PySem.W PySem.Calls PyProof.Rows
set_option maxRecDepth 100000
namespace Mine
noncomputable def endV (i : Int) : Str := if i = 0 then Str.ofString "\n" else if i = 1 then Str.ofString "\u000d" else Str.ofString "\u000d\n"
noncomputable def nameV (i : Int) : Str := if i = 0 then Str.ofString "<e\u000b.>" else if i = 1 then Str.ofString "<e\u000b." else if i = 2 then Str.ofString "e\u000b.>" else Str.ofString "<e\u000b.>"
noncomputable def dotS (d : Int) : Str := Txt.mul (Str.ofString ".") d
noncomputable def letV (k : Nat) : Str := ⟨#[97 + k]⟩ ++ Str.ofString "."
noncomputable def rowV (d : Int) (k : Nat) : Str := stdV (dotS d) k (letV k)
noncomputable def lastV (t : Int) : Str := stdV (Str.ofString "~") ((t.fmod 4).fdiv 3) (nameV (t.fmod 4))
noncomputable def txtV (d : Nat → Int) (t : Int) : Nat → Str
  | 0 => Str.ofString ""
  | k + 1 => txtV d t k ++ rowV (d k) k ++ endV (((k : Int) + t).fmod 3)
noncomputable def mailV (d : Nat → Int) (t : Int) : Str :=
  let e (k : Int) := endV ((k + t).fmod 3)
  let x := txtV d t 4 ++ lastV t ++ e 4 ++ e 4 ++ e 5 ++ Str.ofString "."
  if t.fmod 2 = 0 then x ++ e 6 else x
/-- what is known of a row -/
structure RowOk (d : Int) (k : Nat) : Prop where
  mul : MulOk (Str.ofString ".") d
  so : PyData.strOk (dotS d) = true
  ld : (dotS d).length ≤ 1000
  lr : (rowV d k).length ≤ 100
theorem row_ok {d : Int} {k : Nat} (h1 : 1 ≤ d) (h2 : d ≤ 4) (hk : k < 4) : RowOk d k := by
  have hd : d = 1 ∨ d = 2 ∨ d = 3 ∨ d = 4 := by lia
  have h : ∀ k < 4, (rowV 1 k).length ≤ 100 ∧ (rowV 2 k).length ≤ 100 ∧ (rowV 3 k).length ≤ 100 ∧ (rowV 4 k).length ≤ 100 := by decide +kernel
  have := h k hk
  rcases hd with rfl | rfl | rfl | rfl
  · exact ⟨⟨by decide, by decide, by decide⟩, by decide +kernel, by decide +kernel, this.1⟩
  · exact ⟨⟨by decide, by decide, by decide⟩, by decide +kernel, by decide +kernel, this.2.1⟩
  · exact ⟨⟨by decide, by decide, by decide⟩, by decide +kernel, by decide +kernel, this.2.2.1⟩
  · exact ⟨⟨by decide, by decide, by decide⟩, by decide +kernel, by decide +kernel, this.2.2.2⟩
theorem end_len (i : Int) : (endV i).length ≤ 2 := by
  unfold endV
  split
  · decide
  · split <;> decide
theorem fmod_mem (a : Int) {n : Int} (hn : 0 < n) : 0 ≤ a.fmod n ∧ a.fmod n < n := ⟨Int.fmod_nonneg_of_pos _ hn, Int.fmod_lt_of_pos _ hn⟩
theorem last_len (t : Int) : (lastV t).length ≤ 100 := by
  have h := fmod_mem t (n := 4) (by decide)
  have h4 : t.fmod 4 = 0 ∨ t.fmod 4 = 1 ∨ t.fmod 4 = 2 ∨ t.fmod 4 = 3 := by lia
  unfold lastV
  rcases h4 with e | e | e | e <;> rw [e] <;> decide +kernel
theorem txt_len {d : Nat → Int} (hd : ∀ k < 4, 1 ≤ d k ∧ d k ≤ 4) (t : Int) : ∀ k ≤ 4, (txtV d t k).length ≤ 200 * k
  | 0, _ => Nat.le_refl 0
  | k + 1, h => by
    have ih := txt_len hd t k (by lia)
    have h1 := (row_ok (hd k (by lia)).1 (hd k (by lia)).2 (show k < 4 by lia)).lr
    have h2 := end_len (((k : Int) + t).fmod 3)
    unfold txtV
    rw [Str.length_append, Str.length_append]
    lia
theorem end_item {i : Int} (h0 : 0 ≤ i) (h1 : i < 3) : [PyData.str (Str.ofString "\n"), .str (Str.ofString "\u000d"), .str (Str.ofString "\u000d\n")][i.toNat]? = some (.str (endV i)) := by
  have h : i = 0 ∨ i = 1 ∨ i = 2 := by lia
  rcases h with rfl | rfl | rfl <;> rfl
theorem name_item {i : Int} (h0 : 0 ≤ i) (h1 : i < 4) : [PyData.str (Str.ofString "<e\u000b.>"), .str (Str.ofString "<e\u000b."), .str (Str.ofString "e\u000b.>"), .str (Str.ofString "<e\u000b.>")][i.toNat]? = some (.str (nameV i)) := by
  have h : i = 0 ∨ i = 1 ∨ i = 2 ∨ i = 3 := by lia
  rcases h with rfl | rfl | rfl | rfl <;> rfl
noncomputable def SubL (ρ₁ : List (Str × PyData)) : List (Str × PyData) → Prop
  | [] => True
  | p :: r => ρ₁.lookup p.1 = some p.2 ∧ SubL ρ₁ r
theorem subs {ρ₁ : List (Str × PyData)} : ∀ {ρ₂ : List (Str × PyData)}, SubL ρ₁ ρ₂ → ∀ x d, ρ₂.lookup x = some d → ρ₁.lookup x = some d
  | [], _, x, d, e => by cases e
  | p :: r, h, x, d, e => by
    rw [List.lookup_cons] at e
    by_cases hx : x = p.1
    · subst hx
      simp at e
      subst e
      exact h.1
    · rw [beq_eq_false_iff_ne.mpr hx] at e
      exact subs h.2 x d e
noncomputable def endsV (t : Int) : List PyData := [.str (endV (((0 : Int) + t).fmod 3)), .str (endV (((1 : Int) + t).fmod 3)), .str (endV (((2 : Int) + t).fmod 3)), .str (endV (((3 : Int) + t).fmod 3)), .str (endV (((4 : Int) + t).fmod 3)), .str (endV (((5 : Int) + t).fmod 3)), .str (endV (((6 : Int) + t).fmod 3))]
theorem rangeD4 : rangeD 0 1 4 = [.int 0, .int 1, .int 2, .int 3] := rfl
noncomputable def dotsD (d : Nat → Int) : PyData := .list [.int (d 0), .int (d 1), .int (d 2), .int (d 3)]
theorem f_mail {c : Cx} {x : Str} {fa : Addr} {d : Nat → Int} {t : Int} (hd' : ∀ k < 4, 1 ≤ d k ∧ d k ≤ 4) (N : Nm c) {fs : Addr} (Dst : DF c (Str.ofString "func_std_string") fs 21) (D : DF c x fa 27) : Fn c 2 fa [dotsD d, .int t] (.str (mailV d t)) := by
  refine fn_at (n := 1) (ns := [Str.ofString "dots", Str.ofString "turn"]) D rfl ?_ (by decide) (kinds_of (by rfl)) ?_ rfl rfl rfl
  · exact bind_via fun fd => vs2 fun _ _ => rfl
  · intro A L q code r
    have DFstd := Dst
    obtain ⟨fd, Dstd, _⟩ := Dst
    have t3 : ∀ k : Int, 0 ≤ (k + t).fmod 3 ∧ (k + t).fmod 3 < 3 := fun k => fmod_mem _ (by decide)
    have t4 := fmod_mem t (n := 4) (by decide)
    refine x_cons (x_assign_comp (rs := endsV t) [(Str.ofString "turn", .int t)] (it_range1 (N := 7) r.h N.range rfl ev_int (by decide) (by decide)) rfl rfl (by decide) (by decide) (caps ⟨⟨rfl, rfl, rfl, rfl⟩, trivial⟩)
      (Cp.cast ?_ (cp_map (fun x => match x with | .int k => .str (endV ((k + t).fmod 3)) | x => x) (fun C => rfl) (fun C => rfl) ?_)) (by decide) rfl rfl rfl) ?_
    · rfl
    · intro x hx C
      unfold rangeD at hx
      obtain ⟨k, hk, rfl⟩ := List.mem_map.mp hx
      exact ev_item (T := "tuple") (ev_tuple (evs_cons ev_str (evs_cons ev_str (evs_cons ev_str evs_nil))) (by decide)) (ev_bin (ev_bin (ev_name rfl) (ev_name rfl) op_add) ev_int (op_mod (by decide))) (op_item_tuple (seq_ok (t3 _).1 (t3 _).2) (end_item (t3 _).1 (t3 _).2) (by have := (t3 (0 + (k : Int) * 1)).1; lia) (by have := (t3 (0 + (k : Int) * 1)).2; lia)) rfl
    refine x_cons (x_assign (d := .str (nameV (t.fmod 4))) (ev_item (T := "tuple") (ev_tuple (evs_cons ev_str (evs_cons ev_str (evs_cons ev_str (evs_cons ev_str evs_nil)))) (by decide)) (ev_bin (ev_name rfl) ev_int (op_mod (by decide))) (op_item_tuple (seq_ok t4.1 t4.2) (name_item t4.1 t4.2) (by lia) (by lia)) rfl) (.inl rfl)) ?_
    refine x_cons (x_assign (d := .str (Str.ofString "")) ev_str (.inl rfl)) ?_
    refine x_cons (x_for (ds := rangeD 0 1 4) (fun i => [(Str.ofString "dots", dotsD d), (Str.ofString "turn", .int t), (Str.ofString "ends", .list (endsV t)), (Str.ofString "name", .str (nameV (t.fmod 4))), (Str.ofString "text", .str (txtV d t i))]) (it_range1 (N := 4) r.h N.range rfl ev_int (by decide) (by decide)) (.inl rfl) rfl ?_) ?_
    · intro i x hd
      rw [rangeD4] at hd
      obtain ⟨hi, hx, k4, k7, hdt, hen, hc⟩ : i < 4 ∧ x = .int (i : Int) ∧ seqIndex? (i : Int) 4 = some i ∧ seqIndex? (i : Int) 7 = some i ∧ [PyData.int (d 0), .int (d 1), .int (d 2), .int (d 3)][i]? = some (.int (d i)) ∧ (endsV t)[i]? = some (.str (endV (((i : Int) + t).fmod 3))) ∧ (seqIndex? (i : Int) (Str.ofString "abcd").length).bind ((Str.ofString "abcd").cps[·]?) = some (97 + i) := by
        match i, hd with
        | 0, hd => cases hd; exact ⟨by decide, rfl, rfl, rfl, rfl, rfl, rfl⟩
        | 1, hd => cases hd; exact ⟨by decide, rfl, rfl, rfl, rfl, rfl, rfl⟩
        | 2, hd => cases hd; exact ⟨by decide, rfl, rfl, rfl, rfl, rfl, rfl⟩
        | 3, hd => cases hd; exact ⟨by decide, rfl, rfl, rfl, rfl, rfl, rfl⟩
        | n + 4, hd => exact absurd hd (by simp)
      subst hx
      have R := row_ok (hd' i hi).1 (hd' i hi).2 hi
      have RL := R.lr
      have T := txt_len hd' t i (Nat.le_of_lt hi)
      have E := end_len (((i : Int) + t).fmod 3)
      have hsz : sizeLine = 2 ^ 24 := rfl
      have b1 : -(2 ^ 63) ≤ (i : Int) := by omega
      have b2 : (i : Int) < 2 ^ 63 := by omega
      refine x_next (x_cons (x_assign (d := .str (txtV d t (i + 1))) (ev_bin (ev_bin (ev_name rfl) (ev_call Dstd rfl (evs_cons (ev_tuple (evs_cons (ev_bin ev_str (ev_item (T := "list") (d := .int (d i)) (ev_name rfl) (ev_name rfl) (op_item_list k4 hdt b1 b2) rfl) (op_mul_str R.mul)) (evs_cons (ev_name rfl) (evs_cons (ev_bin (ev_item (T := "str") ev_str (ev_name rfl) (op_item_str (ch := 97 + i) hc b1 b2) rfl) ev_str (op_add_str (show (2 : Nat) ≤ 2 ^ 24 by decide))) evs_nil))) (show 3 ≤ sizeLine by decide)) evs_nil) ((f_std (n := i) (z := letV i) R.ld (show (2 : Nat) ≤ 1000 by decide) R.so (Int.natCast_nonneg i) (by omega) DFstd).less (by decide)) r) (op_add_str (x := txtV d t i) (y := rowV (d i) i) (by omega))) (ev_item (T := "list") (ev_name rfl) (ev_name rfl) (op_item_list k7 hen b1 b2) rfl) (op_add_str (by rw [Str.length_append]; omega))) (.inl rfl)) x_nil) (subs ⟨rfl, rfl, rfl, rfl, rfl, trivial⟩)
    have NL : (nameV (t.fmod 4)).length ≤ 1000 := by
      unfold nameV
      repeat' split
      all_goals decide
    have n0 : 0 ≤ (t.fmod 4).fdiv 3 := by have h : t.fmod 4 = 0 ∨ t.fmod 4 = 1 ∨ t.fmod 4 = 2 ∨ t.fmod 4 = 3 := by lia
                                          rcases h with h | h | h | h <;> rw [h] <;> decide
    have n1 : (t.fmod 4).fdiv 3 < 10 ^ 10 := by have h : t.fmod 4 = 0 ∨ t.fmod 4 = 1 ∨ t.fmod 4 = 2 ∨ t.fmod 4 = 3 := by lia
                                                rcases h with h | h | h | h <;> rw [h] <;> decide
    have hsz : sizeLine = 2 ^ 24 := rfl
    have T := txt_len hd' t 4 (by decide)
    have T1 := last_len t
    have T4 := end_len ((4 + t).fmod 3)
    have T5 := end_len ((5 + t).fmod 3)
    have T6 := end_len ((6 + t).fmod 3)
    have Td : (Str.ofString ".").length = 1 := by decide
    refine x_cons (x_assign (d := .str (txtV d t 4 ++ lastV t ++ endV ((4 + t).fmod 3) ++ endV ((4 + t).fmod 3) ++ endV ((5 + t).fmod 3) ++ Str.ofString ".")) (ev_bin (ev_bin (ev_bin (ev_bin (ev_bin (ev_name rfl) (ev_call Dstd rfl (evs_cons (ev_tuple (evs_cons ev_str (evs_cons (ev_bin (ev_bin (ev_name rfl) ev_int (op_mod (by decide))) ev_int (op_div r.h (by decide) (by decide))) (evs_cons (ev_name rfl) evs_nil))) (show 3 ≤ sizeLine by decide)) evs_nil) ((f_std (y := Str.ofString "~") (n := (t.fmod 4).fdiv 3) (z := nameV (t.fmod 4)) (by decide) NL (by decide +kernel) n0 n1 DFstd).less (by decide)) r) (op_add_str (x := txtV d t 4) (y := lastV t) (by lia))) (ev_item (T := "list") (d := .str (endV ((4 + t).fmod 3))) (ev_name rfl) ev_int (op_item_list (j := 4) rfl rfl (by decide) (by decide)) rfl) (op_add_str (x := txtV d t 4 ++ lastV t) (y := endV ((4 + t).fmod 3)) (by simp only [Str.length_append]; lia))) (ev_item (T := "list") (d := .str (endV ((4 + t).fmod 3))) (ev_name rfl) ev_int (op_item_list (j := 4) rfl rfl (by decide) (by decide)) rfl) (op_add_str (x := txtV d t 4 ++ lastV t ++ endV ((4 + t).fmod 3)) (y := endV ((4 + t).fmod 3)) (by simp only [Str.length_append]; lia))) (ev_item (T := "list") (d := .str (endV ((5 + t).fmod 3))) (ev_name rfl) ev_int (op_item_list (j := 5) rfl rfl (by decide) (by decide)) rfl) (op_add_str (x := txtV d t 4 ++ lastV t ++ endV ((4 + t).fmod 3) ++ endV ((4 + t).fmod 3)) (y := endV ((5 + t).fmod 3)) (by simp only [Str.length_append]; lia))) ev_str (op_add_str (x := txtV d t 4 ++ lastV t ++ endV ((4 + t).fmod 3) ++ endV ((4 + t).fmod 3) ++ endV ((5 + t).fmod 3)) (y := Str.ofString ".") (by simp only [Str.length_append]; lia))) (.inl rfl)) ?_
    have hm : mailV d t = if t.fmod 2 = 0 then (txtV d t 4 ++ lastV t ++ endV ((4 + t).fmod 3) ++ endV ((4 + t).fmod 3) ++ endV ((5 + t).fmod 3) ++ Str.ofString ".") ++ endV ((6 + t).fmod 3) else txtV d t 4 ++ lastV t ++ endV ((4 + t).fmod 3) ++ endV ((4 + t).fmod 3) ++ endV ((5 + t).fmod 3) ++ Str.ofString "." := rfl
    rw [hm]
    refine x_ret (x_return (ev_ifexp (b := decide (t.fmod 2 = 0)) (tr_cmp (ev_bin (ev_name rfl) ev_int (op_mod (by decide))) ev_int (by rw [← eqv_int]; exact op_eq rfl rfl (r.line _ (by simp [PyData.depth, PyData.depthAll])))) (fun h => ?_) (fun h => ?_)))
    · rw [if_pos (of_decide_eq_true h)]
      exact (ev_bin (ev_name rfl) (ev_item (T := "list") (d := .str (endV ((6 + t).fmod 3))) (ev_name rfl) ev_int (op_item_list (j := 6) rfl rfl (by decide) (by decide)) rfl) (op_add_str (x := txtV d t 4 ++ lastV t ++ endV ((4 + t).fmod 3) ++ endV ((4 + t).fmod 3) ++ endV ((5 + t).fmod 3) ++ Str.ofString ".") (y := endV ((6 + t).fmod 3)) (by simp only [Str.length_append]; lia)))
    · rw [if_neg (of_decide_eq_false h)]
      exact ev_name rfl
end Mine
end
/-! ## C6 -/
section
open PySem PySem.W PySem.Calls PyProof.Rows
set_option maxHeartbeats 1000000
set_option maxRecDepth 100000
namespace Mine
noncomputable def kindV (i : Int) : Str := if i = 0 then Str.ofString "{e\u000b.}" else if i = 1 then Str.ofString "<e\u000b." else if i = 2 then Str.ofString "e\u000b.>" else Str.ofString "~:1(<e\u000b.>)"
theorem kind_item {i : Int} (h0 : 0 ≤ i) (h1 : i < 4) : [PyData.str (Str.ofString "{e\u000b.}"), .str (Str.ofString "<e\u000b."), .str (Str.ofString "e\u000b.>"), .str (Str.ofString "~:1(<e\u000b.>)")][i.toNat]? = some (.str (kindV i)) := by
  have h : i = 0 ∨ i = 1 ∨ i = 2 ∨ i = 3 := by lia
  rcases h with rfl | rfl | rfl | rfl <;> rfl
noncomputable def rowD (d : Int) (a b : Str) : Str := Txt.mul (Str.ofString ".") (d + 1) ++ Str.ofString ":" ++ a ++ Str.ofString "(" ++ b ++ Str.ofString ".)"
noncomputable def dueL (d : Nat → Int) (t : Int) : List PyData := [.str (rowD (d 0) ⟨#[48]⟩ ⟨#[97]⟩), .str (rowD (d 1) ⟨#[49]⟩ ⟨#[98]⟩), .str (rowD (d 2) ⟨#[50]⟩ ⟨#[99]⟩), .str (rowD (d 3) ⟨#[51]⟩ ⟨#[100]⟩)] ++ [.str (kindV (t.fmod 4)), .str (Str.ofString ""), .str (Str.ofString ""), .str (Str.ofString "..")]
noncomputable def dueV (d : Nat → Int) (t : Int) : List PyData := if t.fmod 2 = 0 then dueL d t ++ [.str (Str.ofString "")] else dueL d t
structure DueOk (d : Int) : Prop where
  mul : MulOk (Str.ofString ".") (d + 1)
  len : (Txt.mul (Str.ofString ".") (d + 1)).length ≤ 10
theorem due_ok {d : Int} (h1 : 1 ≤ d) (h2 : d ≤ 4) : DueOk d := by
  have hd : d = 1 ∨ d = 2 ∨ d = 3 ∨ d = 4 := by lia
  rcases hd with rfl | rfl | rfl | rfl <;> exact ⟨⟨by decide, by decide, by decide⟩, by decide⟩
theorem f_due {c : Cx} {x : Str} {fa : Addr} {d : Nat → Int} {t : Int} (hd' : ∀ k < 4, 1 ≤ d k ∧ d k ≤ 4) (N : Nm c) (D : DF c x fa 28) : Fn c 1 fa [dotsD d, .int t] (.list (dueV d t)) := by
  refine fn_at (n := 0) (ns := [Str.ofString "dots", Str.ofString "turn"]) D rfl ?_ (by decide) (kinds_of (by rfl)) ?_ rfl rfl rfl
  · exact bind_via fun fd => vs2 fun _ _ => rfl
  · intro A L q code r
    have hsz : sizeLine = 2 ^ 24 := rfl
    have t4 := fmod_mem t (n := 4) (by decide)
    have O0 := due_ok (hd' 0 (by decide)).1 (hd' 0 (by decide)).2
    have O1 := due_ok (hd' 1 (by decide)).1 (hd' 1 (by decide)).2
    have O2 := due_ok (hd' 2 (by decide)).1 (hd' 2 (by decide)).2
    have O3 := due_ok (hd' 3 (by decide)).1 (hd' 3 (by decide)).2
    have l0 := O0.len
    have l1 := O1.len
    have l2 := O2.len
    have l3 := O3.len
    have LC : (Str.ofString ":").length = 1 := by decide
    have LP : (Str.ofString "(").length = 1 := by decide
    have LD : (Str.ofString ".)").length = 2 := by decide
    have LE : ∀ n : Nat, (⟨#[n]⟩ : Str).length = 1 := fun _ => rfl
    refine x_cons (x_assign_comp (rs := [.str (rowD (d 0) ⟨#[48]⟩ ⟨#[97]⟩), .str (rowD (d 1) ⟨#[49]⟩ ⟨#[98]⟩), .str (rowD (d 2) ⟨#[50]⟩ ⟨#[99]⟩), .str (rowD (d 3) ⟨#[51]⟩ ⟨#[100]⟩)]) [(Str.ofString "dots", dotsD d)] (it_range1 (N := 4) r.h N.range rfl ev_int (by decide) (by decide)) rfl rfl (by decide) (by decide) (caps ⟨⟨rfl, rfl, rfl, rfl⟩, trivial⟩) ?_ (by decide) rfl rfl rfl) ?_
    · rw [show (4 : Int).toNat = 4 from rfl, rangeD4]
      refine .keep [(Str.ofString "k", .int 0)] (fun C => bdc_name rfl rfl) (fun C => ifs_nil) (fun C => show Ev c A _ _ _ (.str (rowD (d 0) ⟨#[48]⟩ ⟨#[97]⟩)) from (ev_bin (ev_bin (ev_bin (ev_bin (ev_bin (ev_bin ev_str (ev_bin (ev_item (T := "list") (d := .int (d 0)) (ev_name rfl) (ev_name rfl) (op_item_list (j := 0) rfl rfl (by decide) (by decide)) rfl) ev_int op_add) (op_mul_str O0.mul)) ev_str (op_add_str (x := Txt.mul (Str.ofString ".") (d 0 + 1)) (y := Str.ofString ":") (by (try simp only [Str.length_append]); (try simp only [LC, LP, LD, LE]); lia))) (ev_item (T := "str") ev_str (ev_name rfl) (op_item_str (ch := 48) rfl (by decide) (by decide)) rfl) (op_add_str (x := Txt.mul (Str.ofString ".") (d 0 + 1) ++ Str.ofString ":") (y := (⟨#[48]⟩ : Str)) (by (try simp only [Str.length_append]); (try simp only [LC, LP, LD, LE]); lia))) ev_str (op_add_str (x := Txt.mul (Str.ofString ".") (d 0 + 1) ++ Str.ofString ":" ++ (⟨#[48]⟩ : Str)) (y := Str.ofString "(") (by (try simp only [Str.length_append]); (try simp only [LC, LP, LD, LE]); lia))) (ev_item (T := "str") ev_str (ev_name rfl) (op_item_str (ch := 97) rfl (by decide) (by decide)) rfl) (op_add_str (x := Txt.mul (Str.ofString ".") (d 0 + 1) ++ Str.ofString ":" ++ (⟨#[48]⟩ : Str) ++ Str.ofString "(") (y := (⟨#[97]⟩ : Str)) (by (try simp only [Str.length_append]); (try simp only [LC, LP, LD, LE]); lia))) ev_str (op_add_str (x := Txt.mul (Str.ofString ".") (d 0 + 1) ++ Str.ofString ":" ++ (⟨#[48]⟩ : Str) ++ Str.ofString "(" ++ (⟨#[97]⟩ : Str)) (y := Str.ofString ".)") (by (try simp only [Str.length_append]); (try simp only [LC, LP, LD, LE]); lia)))) ?_
      refine .keep [(Str.ofString "k", .int 1)] (fun C => bdc_name rfl rfl) (fun C => ifs_nil) (fun C => show Ev c A _ _ _ (.str (rowD (d 1) ⟨#[49]⟩ ⟨#[98]⟩)) from (ev_bin (ev_bin (ev_bin (ev_bin (ev_bin (ev_bin ev_str (ev_bin (ev_item (T := "list") (d := .int (d 1)) (ev_name rfl) (ev_name rfl) (op_item_list (j := 1) rfl rfl (by decide) (by decide)) rfl) ev_int op_add) (op_mul_str O1.mul)) ev_str (op_add_str (x := Txt.mul (Str.ofString ".") (d 1 + 1)) (y := Str.ofString ":") (by (try simp only [Str.length_append]); (try simp only [LC, LP, LD, LE]); lia))) (ev_item (T := "str") ev_str (ev_name rfl) (op_item_str (ch := 49) rfl (by decide) (by decide)) rfl) (op_add_str (x := Txt.mul (Str.ofString ".") (d 1 + 1) ++ Str.ofString ":") (y := (⟨#[49]⟩ : Str)) (by (try simp only [Str.length_append]); (try simp only [LC, LP, LD, LE]); lia))) ev_str (op_add_str (x := Txt.mul (Str.ofString ".") (d 1 + 1) ++ Str.ofString ":" ++ (⟨#[49]⟩ : Str)) (y := Str.ofString "(") (by (try simp only [Str.length_append]); (try simp only [LC, LP, LD, LE]); lia))) (ev_item (T := "str") ev_str (ev_name rfl) (op_item_str (ch := 98) rfl (by decide) (by decide)) rfl) (op_add_str (x := Txt.mul (Str.ofString ".") (d 1 + 1) ++ Str.ofString ":" ++ (⟨#[49]⟩ : Str) ++ Str.ofString "(") (y := (⟨#[98]⟩ : Str)) (by (try simp only [Str.length_append]); (try simp only [LC, LP, LD, LE]); lia))) ev_str (op_add_str (x := Txt.mul (Str.ofString ".") (d 1 + 1) ++ Str.ofString ":" ++ (⟨#[49]⟩ : Str) ++ Str.ofString "(" ++ (⟨#[98]⟩ : Str)) (y := Str.ofString ".)") (by (try simp only [Str.length_append]); (try simp only [LC, LP, LD, LE]); lia)))) ?_
      refine .keep [(Str.ofString "k", .int 2)] (fun C => bdc_name rfl rfl) (fun C => ifs_nil) (fun C => show Ev c A _ _ _ (.str (rowD (d 2) ⟨#[50]⟩ ⟨#[99]⟩)) from (ev_bin (ev_bin (ev_bin (ev_bin (ev_bin (ev_bin ev_str (ev_bin (ev_item (T := "list") (d := .int (d 2)) (ev_name rfl) (ev_name rfl) (op_item_list (j := 2) rfl rfl (by decide) (by decide)) rfl) ev_int op_add) (op_mul_str O2.mul)) ev_str (op_add_str (x := Txt.mul (Str.ofString ".") (d 2 + 1)) (y := Str.ofString ":") (by (try simp only [Str.length_append]); (try simp only [LC, LP, LD, LE]); lia))) (ev_item (T := "str") ev_str (ev_name rfl) (op_item_str (ch := 50) rfl (by decide) (by decide)) rfl) (op_add_str (x := Txt.mul (Str.ofString ".") (d 2 + 1) ++ Str.ofString ":") (y := (⟨#[50]⟩ : Str)) (by (try simp only [Str.length_append]); (try simp only [LC, LP, LD, LE]); lia))) ev_str (op_add_str (x := Txt.mul (Str.ofString ".") (d 2 + 1) ++ Str.ofString ":" ++ (⟨#[50]⟩ : Str)) (y := Str.ofString "(") (by (try simp only [Str.length_append]); (try simp only [LC, LP, LD, LE]); lia))) (ev_item (T := "str") ev_str (ev_name rfl) (op_item_str (ch := 99) rfl (by decide) (by decide)) rfl) (op_add_str (x := Txt.mul (Str.ofString ".") (d 2 + 1) ++ Str.ofString ":" ++ (⟨#[50]⟩ : Str) ++ Str.ofString "(") (y := (⟨#[99]⟩ : Str)) (by (try simp only [Str.length_append]); (try simp only [LC, LP, LD, LE]); lia))) ev_str (op_add_str (x := Txt.mul (Str.ofString ".") (d 2 + 1) ++ Str.ofString ":" ++ (⟨#[50]⟩ : Str) ++ Str.ofString "(" ++ (⟨#[99]⟩ : Str)) (y := Str.ofString ".)") (by (try simp only [Str.length_append]); (try simp only [LC, LP, LD, LE]); lia)))) ?_
      refine .keep [(Str.ofString "k", .int 3)] (fun C => bdc_name rfl rfl) (fun C => ifs_nil) (fun C => show Ev c A _ _ _ (.str (rowD (d 3) ⟨#[51]⟩ ⟨#[100]⟩)) from (ev_bin (ev_bin (ev_bin (ev_bin (ev_bin (ev_bin ev_str (ev_bin (ev_item (T := "list") (d := .int (d 3)) (ev_name rfl) (ev_name rfl) (op_item_list (j := 3) rfl rfl (by decide) (by decide)) rfl) ev_int op_add) (op_mul_str O3.mul)) ev_str (op_add_str (x := Txt.mul (Str.ofString ".") (d 3 + 1)) (y := Str.ofString ":") (by (try simp only [Str.length_append]); (try simp only [LC, LP, LD, LE]); lia))) (ev_item (T := "str") ev_str (ev_name rfl) (op_item_str (ch := 51) rfl (by decide) (by decide)) rfl) (op_add_str (x := Txt.mul (Str.ofString ".") (d 3 + 1) ++ Str.ofString ":") (y := (⟨#[51]⟩ : Str)) (by (try simp only [Str.length_append]); (try simp only [LC, LP, LD, LE]); lia))) ev_str (op_add_str (x := Txt.mul (Str.ofString ".") (d 3 + 1) ++ Str.ofString ":" ++ (⟨#[51]⟩ : Str)) (y := Str.ofString "(") (by (try simp only [Str.length_append]); (try simp only [LC, LP, LD, LE]); lia))) (ev_item (T := "str") ev_str (ev_name rfl) (op_item_str (ch := 100) rfl (by decide) (by decide)) rfl) (op_add_str (x := Txt.mul (Str.ofString ".") (d 3 + 1) ++ Str.ofString ":" ++ (⟨#[51]⟩ : Str) ++ Str.ofString "(") (y := (⟨#[100]⟩ : Str)) (by (try simp only [Str.length_append]); (try simp only [LC, LP, LD, LE]); lia))) ev_str (op_add_str (x := Txt.mul (Str.ofString ".") (d 3 + 1) ++ Str.ofString ":" ++ (⟨#[51]⟩ : Str) ++ Str.ofString "(" ++ (⟨#[100]⟩ : Str)) (y := Str.ofString ".)") (by (try simp only [Str.length_append]); (try simp only [LC, LP, LD, LE]); lia)))) ?_
      exact .nil
    refine x_cons (x_assign (d := .list (dueL d t)) (ev_bin (ev_name rfl) (ev_list (evs_cons (ev_item (T := "tuple") (ev_tuple (evs_cons ev_str (evs_cons ev_str (evs_cons ev_str (evs_cons ev_str evs_nil)))) (by decide)) (ev_bin (ev_name rfl) ev_int (op_mod (by decide))) (op_item_tuple (seq_ok t4.1 t4.2) (kind_item t4.1 t4.2) (by lia) (by lia)) rfl) (evs_cons ev_str (evs_cons ev_str (evs_cons ev_str evs_nil)))) (show 4 ≤ sizeLine by decide)) (op_add_list (show 8 ≤ sizeLine by decide))) (.inl rfl)) ?_
    refine x_ret (x_return (ev_ifexp (b := decide (t.fmod 2 = 0)) (tr_cmp (ev_bin (ev_name rfl) ev_int (op_mod (by decide))) ev_int (by rw [← eqv_int]; exact op_eq rfl rfl (r.line _ (by simp [PyData.depth, PyData.depthAll])))) (fun h => ?_) (fun h => ?_)))
    · unfold dueV
      rw [if_pos (of_decide_eq_true h)]
      exact ev_bin (ev_name rfl) (ev_list (evs_cons ev_str evs_nil) (show 1 ≤ sizeLine by decide)) (op_add_list (show 9 ≤ sizeLine by decide))
    · unfold dueV
      rw [if_neg (of_decide_eq_false h)]
      exact ev_name rfl
end Mine
end
/-! ## E13 -/
section
open PySem PySem.W PySem.Calls PyProof.Rows
set_option maxHeartbeats 2000000
set_option maxRecDepth 100000
namespace Mine
noncomputable def isFree (d m : Nat → Int) (k : Nat) : Bool := decide (d k = m ((k + 3) % 4)) == decide (k = 0)
noncomputable def freeL (d m : Nat → Int) : List Nat := (List.range 4).filter (isFree d m)
theorem dots_get (d : Nat → Int) {k : Nat} (h : k < 4) : [PyData.int (d 0), .int (d 1), .int (d 2), .int (d 3)][k]? = some (.int (d k)) := by
  match k, h with
  | 0, _ => rfl
  | 1, _ => rfl
  | 2, _ => rfl
  | 3, _ => rfl
theorem behind_ix {i : Nat} (h : i < 4) {n : Nat} (hn : 4 ≤ n) : seqIndex? (((i : Int) + 3).fmod 4) n = some ((i + 3) % 4) := by
  have e : ((i : Int) + 3).fmod 4 = (((i + 3) % 4 : Nat) : Int) := by
    rw [Int.fmod_eq_emod_of_nonneg _ (by decide)]
    lia
  rw [e]
  have := Nat.mod_lt (i + 3) (show 0 < 4 by decide)
  rw [seq_ok (by lia) (by lia)]
  rfl
noncomputable abbrev freeNs : List Str := [Str.ofString "dots", Str.ofString "told", Str.ofString "rows"]
theorem free_bind : ∀ fd : FuncData, fd.params = argsAt 30 → fd.defaults = .none → ∀ vs : List Value, vs.length = freeNs.length → bindArgs fd ⟨vs, []⟩ = pure (freeNs.zip vs) := by
  exact bind_via fun fd => vs3 fun _ _ _ => rfl
theorem only_size (h : Heap) (p : Addr → Prop) : (only h p).objs.size = h.objs.size := by unfold only; simp
/-- the frame, its start told less -/
theorem Frm.ghost {c : Cx} {g₀ : Heap} {s₀ : Shared} {k : Heap} {env : Env} {ν : List (Str × Value)} {ρ : List (Str × PyData)} {g : Heap} {s : Shared} (p : Addr → Prop) (F : Frm c g₀ s₀ k env ν ρ g s) : Frm c g₀ { s₀ with heap := only s₀.heap p } k env ν ρ g s := by
  obtain ⟨m, cm, I, q⟩ := F.fre
  refine ⟨F.fn, F.gl, F.bl, F.base, F.gg, F.gs, fun a o e => (F.fr a o e).imp id fun z => ?_, F.noL, F.ks, F.kL, F.kC, F.noC, F.gk, F.tk, m, cm, ⟨⟨?_, I.toInCall.ns, fun a o e => I.toInCall.keep a o (only_get.mp e).2, by show (only s₀.heap p).objs.size ≤ _; rw [only_size]; exact I.toInCall.fresh⟩, I.cell, I.apart, I.above⟩, q⟩
  · exact none_of_stays (fun b o e => (only_get.mp e).2) z
  · obtain ⟨h, t, e⟩ := I.toInCall.same
    exact ⟨h, t, by rw [e]⟩
noncomputable def freeRho (d m : Nat → Int) (rs : List PyData) : List (Str × PyData) := [(Str.ofString "dots", dotsD d), (Str.ofString "told", dotsD m), (Str.ofString "rows", .list rs)]
noncomputable abbrev AsF : As := fun _ _ _ _ _ => False
theorem filter_succ (p : Nat → Bool) (i : Nat) : (List.range (i + 1)).filter p = (List.range i).filter p ++ (if p i then [i] else []) := by
  rw [List.range_succ, List.filter_append]
  by_cases h : p i <;> simp [h]
/-- a def of the top is called, its end told by hand -/
theorem wp_call_def {c : Cx} {A : Around} {env : Env} {ρ : List (Str × PyData)} {x : Str} {fa : Addr} {fd : FuncData} {e : Expr} {es : List Expr} {ds : List PyData} {p pos : Pos} {g : Heap} {s : Shared} {Q E : Value → Shared → Prop} (D : Df c x fa fd) (hk : env.kindOf x = some .globalImplicit) (ha : Evs c A env ρ (e :: es) ds) (hg : c.g0.StaysIn g) (S : St env ρ g s)
    (h : ∀ vs g₁ s₁, Gr g s g₁ s₁ → RdA g₁ vs ds → 1 ≤ s₁.toks → wpAny (model c.prog c.w) A (call (.ref fa) vs) Q E s₁) (he : starEach (e :: es) env = (false, eval e env) :: starEach es env := by rfl) (hd : (x == ("__debug__" : Str)) = false := by decide) :
    wpAny (model c.prog c.w) A (eval (.Call (.Name x p) (e :: es) [] pos) env) Q E s := by
  refine wpAny_Call_NameR (name_GN D.name hk hg S ?_ hd)
  obtain ⟨o, ho, hdat⟩ := D.there
  refine callWith_function (o := o) (fd := fd) ?_
  have := ha.tk pos g s (fun vs s' => (s'.heap.get? fa = some o ∧ o.data = .func fd) ∧ wpAny (model c.prog c.w) A (call (.ref fa) ([] ++ vs) []) Q E s') E hg S fun vs g₁ s₁ G₁ r₁ t₁ =>
    ⟨⟨stays_trans (stays_trans hg G₁.gg) G₁.gs _ _ ho, hdat⟩, h vs g₁ s₁ G₁ r₁ t₁⟩
  rw [he] at this ⊢
  exact evalArgs_plain this
theorem xa_run {c : Cx} {A : Around} {env : Env} {P : As} {o : Po} {sts : List Stmt} {g₀ : Heap} {s₀ : Shared} {k g : Heap} {s : Shared} {Q : Flow → Shared → Prop} {E : Value → Shared → Prop} (h : XA c A env P sts o) (p : P g₀ s₀ k g s) (q : o.ok g₀ s₀ k Q) : wpAny (model c.prog c.w) A (execs sts env) Q E s := h g₀ s₀ k g s Q E p q
/-- statements that return -/
noncomputable def XR (c : Cx) (A : Around) (env : Env) (P : As) (sts : List Stmt) (R : Value → As) : Prop :=
  ∀ g₀ s₀ k g s (Q : Flow → Shared → Prop) (E : Value → Shared → Prop), P g₀ s₀ k g s → (∀ v g' s', R v g₀ s₀ k g' s' → Q (.ret v) s') → wpAny (model c.prog c.w) A (execs sts env) Q E s
theorem xr_cons {c : Cx} {A : Around} {env : Env} {P : As} {st : Stmt} {sts : List Stmt} {R : Value → As} (P' : As) (h₁ : XA1 c A env P st ⟨P', fun _ => False, AsF⟩) (h₂ : XR c A env P' sts R) : XR c A env P (st :: sts) R := fun g₀ s₀ k g s Q E p hQ =>
  wpAny_execs_cons (h₁ g₀ s₀ k g s _ E p ⟨fun g' s' p' => h₂ g₀ s₀ k g' s' Q E p' hQ, fun _ _ _ _ z => z.elim, fun _ _ z => z.elim⟩)
theorem xr_case {c : Cx} {A : Around} {env : Env} {ι : Sort _} {P : ι → As} {sts : List Stmt} {R : Value → As} (h : ∀ i, XR c A env (P i) sts R) : XR c A env (fun g₀ s₀ k g s => ∃ i, P i g₀ s₀ k g s) sts R := fun g₀ s₀ k g s Q E ⟨i, p⟩ hQ => h i g₀ s₀ k g s Q E p hQ
theorem xr_phi {c : Cx} {A : Around} {env : Env} {φ : Prop} {P : As} {sts : List Stmt} {R : Value → As} (h : φ → XR c A env P sts R) : XR c A env (fun g₀ s₀ k g s => φ ∧ P g₀ s₀ k g s) sts R := fun g₀ s₀ k g s Q E p hQ => h p.1 g₀ s₀ k g s Q E p.2 hQ
section
variable {c : Cx} {A : Around} {L₀ fa : Addr} {q : Str} {code : Value} {envl : Env} {L : Addr} {oL : Obj} {d m : Nat → Int} {rs : List PyData} {rowS : Nat → Str} {a : Addr} {ffa fn fe : Addr}
theorem xa_free (K : Ek c) (N : Nm c) (Da : DF c (Str.ofString "_law_asked") ffa 29) (Dn : DF c (Str.ofString "ne") fn 14) (De : DF c (Str.ofString "eq") fe 13) (hA : A.frames = some [envAt 30 L₀ fa q code, envl]) (hf : envl.frame = some L) (hkm : envl.scope.kind ≠ .module) (r : Rm 2 A)
    (O : Out1 (envAt 30 L₀ fa q code) L) (hnf : ∀ vs, oL.data ≠ .fields vs) (hrs : ∀ j < 4, rs[j]? = some (.str (rowS j))) (hrl : 4 ≤ rs.length) (hrl' : rs.length ≤ 100) (hso : ∀ j < 4, PyData.strOk (rowS j) = true) :
    XR c A (envAt 30 L₀ fa q code) (FB c (envAt 30 L₀ fa q code) L oL [] (freeRho d m rs) []) (bodyAt 30) (fun v g₀ s₀ k g s => ∃ a, v = .ref a ∧ FB c (envAt 30 L₀ fa q code) L oL [(Str.ofString "free", .ref a)] (freeRho d m rs) [(a, .list (natsD (freeL d m)))] g₀ s₀ k g s) := by
  refine xr_cons (fun g₀ s₀ k g s => ∃ a, a ≠ L ∧ FB c (envAt 30 L₀ fa q code) L oL [(Str.ofString "free", .ref a)] (freeRho d m rs) [(a, .list [])] g₀ s₀ k g s) ?_ ?_
  · intro g₀ s₀ k g s Q E F hQ
    obtain ⟨sl, eL⟩ := F.bes.at_
    have hL := addk_has F.fo.frm.ks eL
    refine xo_newlist (o := ⟨fun g₀ s₀ k g s => ∃ a, FO c (envAt 30 L₀ fa q code) [(Str.ofString "free", .ref a)] (freeRho d m rs) [(a, .list [])] g₀ s₀ k g s, fun _ => False, AsF⟩) (.inl rfl) rfl rfl (fun a _ _ _ _ _ F' => ⟨a, F'⟩) _ _ _ _ _ Q E (F.grab O) ⟨fun g' s' ⟨a, F'⟩ => ?_, fun _ _ _ _ z => z.elim, fun _ _ z => z.elim⟩
    have ha : a ≠ L := fun z => by
      have := (F'.own (a, .list []) (.head _)).kn
      rw [show a = L from z, hL] at this
      cases this
    refine hQ.1 g' s' ⟨a, ha, F.ungrab O (fun p hp => ?_) F'⟩
    rcases List.mem_cons.mp hp with rfl | hp
    · exact ha
    · cases hp
  refine xr_case fun a => ?_
  refine xr_phi fun haL => ?_
  refine xr_cons (FB c (envAt 30 L₀ fa q code) L oL [(Str.ofString "free", .ref a)] (freeRho d m rs) [(a, .list (natsD (freeL d m)))]) (xa_for (ds := rangeD 0 1 (4 : Int).toNat) (fun i => FB c (envAt 30 L₀ fa q code) L oL [(Str.ofString "free", .ref a)] (freeRho d m rs) [(a, .list (natsD ((List.range i).filter (isFree d m))))]) (fun i => fb_ad O) (fb_ad O) (fun g₀ s₀ k g s F => ⟨_, F.fo.frm.bg, F.fo.frm.st, it_range1 (N := 4) r.h N.range rfl ev_int (by decide) (by decide)⟩) ?_ (fun g₀ s₀ k g s F => F)) ?_
  · intro i dd hdd
    have hi : i < 4 := by
      rcases Nat.lt_or_ge i 4 with h | h
      · exact h
      · rw [List.getElem?_eq_none (by show 4 ≤ i; exact h)] at hdd; cases hdd
    have hdd' : dd = .int (i : Int) := by
      match i, hi, hdd with
      | 0, _, e => cases e; rfl
      | 1, _, e => cases e; rfl
      | 2, _, e => cases e; rfl
      | 3, _, e => cases e; rfl
    subst hdd'
    have hj : (i + 3) % 4 < 4 := Nat.mod_lt _ (by decide)
    have hlo : -(2 ^ 63) ≤ ((i : Int) + 3).fmod 4 ∧ ((i : Int) + 3).fmod 4 < 2 ^ 63 := by
      have := fmod_mem ((i : Int) + 3) (n := 4) (by decide)
      lia
    refine fb_name O (.inl rfl) rfl ?_
    refine xa_cons _ (fb_pure O (x_assign (d := .int (m ((i + 3) % 4))) (ev_item (T := "list") (d₁ := dotsD m) (ev_name rfl) (ev_bin (ev_bin (d := .int ((i : Int) + 3)) (ev_name rfl) ev_int op_add) ev_int (op_mod (by decide))) (op_item_list (behind_ix hi (show 4 ≤ 4 by decide)) (dots_get m hj) hlo.1 hlo.2) rfl) (.inl rfl))) ?_
    refine xa_cons _ (fb_pure O (x_assign (d := .str (rowS ((i + 3) % 4))) (ev_item (T := "list") (d₁ := .list rs) (ev_name rfl) (ev_bin (ev_bin (d := .int ((i : Int) + 3)) (ev_name rfl) ev_int op_add) ev_int (op_mod (by decide))) (op_item_list (behind_ix hi hrl) (hrs _ hj) hlo.1 hlo.2) rfl) (.inl rfl))) ?_
    refine xa_cons (FB c (envAt 30 L₀ fa q code) L oL [(Str.ofString "free", .ref a)] (freeRho d m rs) [(a, .list (natsD ((List.range (i + 1)).filter (isFree d m))))]) ?_ (xa_nil fun _ _ _ _ _ F => F)
    intro g₀ s₀ k g s Q E F hQ
    obtain ⟨_, Dal, _⟩ := id Da
    have hfr : isFree d m i = (decide (d i = m ((i + 3) % 4)) == decide (i = 0)) := rfl
    have hcnt : ((List.range i).filter (isFree d m)).length ≤ i := by
      have := List.length_filter_le (isFree d m) (List.range i)
      rw [List.length_range] at this
      exact this
    by_cases hff : isFree d m i = true
    · have hc : ((i : Int) = 0 ∧ d i = m ((i + 3) % 4)) ∨ ((i : Int) ≠ 0 ∧ d i ≠ m ((i + 3) % 4)) := by
        rw [hfr] at hff
        by_cases h0 : i = 0
        · subst h0
          exact .inl ⟨rfl, by simpa using hff⟩
        · exact .inr ⟨by lia, by simpa [h0] using hff⟩
      refine wpAny_Try_except (xa_run (P := (FB c (envAt 30 L₀ fa q code) L oL [(Str.ofString "free", .ref a)] (setρ (setρ (setρ (freeRho d m rs) (Str.ofString "k") (.int i)) (Str.ofString "heard") (.int (m ((i + 3) % 4)))) (Str.ofString "row") (.str (rowS ((i + 3) % 4)))) [(a, .list (natsD ((List.range i).filter (isFree d m))))])) (o := ⟨FB c (envAt 30 L₀ fa q code) L oL [(Str.ofString "free", .ref a)] (setρ (setρ (setρ (freeRho d m rs) (Str.ofString "k") (.int i)) (Str.ofString "heard") (.int (m ((i + 3) % 4)))) (Str.ofString "row") (.str (rowS ((i + 3) % 4)))) [(a, .list (natsD ((List.range i).filter (isFree d m)) ++ [.int (i : Int)]))], fun _ => False, AsF⟩) ?_ F ⟨fun g' s' F' => wpAny_execs_nil (hQ.1 g' s' ?_), fun _ _ _ _ z => z.elim, fun _ _ z => z.elim⟩)
      · exact xa_cons _ (fb_pure O (x_expr (ev_call Dal rfl (evs_cons (ev_name (d := .int (i : Int)) rfl) (evs_cons (ev_item (T := "list") (d := .int (d i)) (d₁ := dotsD d) (ev_name rfl) (ev_name rfl) (op_item_list (seq_ok (by lia) (show (i : Int) < ((4 : Nat) : Int) by lia)) (dots_get d hi) (by lia) (by lia)) rfl) (evs_cons (ev_name (d := .int (m ((i + 3) % 4))) rfl) (evs_cons (ev_name (d := .str (rowS ((i + 3) % 4))) rfl) evs_nil)))) (f_asked Da Dn De hc) r)))
          (xa_cons _ (fb_of O (xo_append (ω₁ := []) (ω₂ := []) (d := .int (i : Int)) (ds := natsD ((List.range i).filter (isFree d m))) rfl (ev_name rfl) (by unfold natsD; rw [List.length_map]; lia) (fun _ _ _ _ _ z => z)) (fun _ p hp => by rcases List.mem_cons.mp hp with rfl | hp; exact haL; cases hp)) (xa_nil fun _ _ _ _ _ z => z))
      rw [filter_succ, hff]
      show FB c _ L oL _ _ [(a, .list (natsD ((List.range i).filter (isFree d m) ++ [i])))] g₀ s₀ k g' s'
      unfold natsD at F' ⊢
      rw [List.map_append]
      exact F'.weak (subs ⟨rfl, rfl, rfl, trivial⟩)
    · have hff' : isFree d m i = false := by cases h : isFree d m i; rfl; exact absurd h hff
      have hc : ((i : Int) = 0 ∧ d i ≠ m ((i + 3) % 4)) ∨ ((i : Int) ≠ 0 ∧ d i = m ((i + 3) % 4)) := by
        rw [hfr] at hff'
        by_cases h0 : i = 0
        · subst h0
          exact .inl ⟨rfl, by simpa using hff'⟩
        · exact .inr ⟨by lia, by simpa [h0] using hff'⟩
      refine wpAny_Try_except (wpAny_execs_cons (wpAny_Expr_any (wp_call_def Dal rfl (evs_cons (ev_name (d := .int (i : Int)) rfl) (evs_cons (ev_item (T := "list") (d := .int (d i)) (d₁ := dotsD d) (ev_name rfl) (ev_name rfl) (op_item_list (seq_ok (by lia) (show (i : Int) < ((4 : Nat) : Int) by lia)) (dots_get d hi) (by lia) (by lia)) rfl) (evs_cons (ev_name (d := .int (m ((i + 3) % 4))) rfl) (evs_cons (ev_name (d := .str (rowS ((i + 3) % 4))) rfl) evs_nil)))) F.fo.frm.bg F.fo.frm.st fun vs g₁ s₁ G₁ r₁ t₁ => ?_) rfl rfl))
      have F₁ := F.step G₁ t₁
      obtain ⟨mL, _, IL, _⟩ := id F₁.fo.frm.fre
      obtain ⟨oE, es, ep, hoE, hdE, _⟩ := id IL.toInCall.ns
      obtain ⟨sl, eL⟩ := F₁.bes.at_
      have hFs : Fs s₁.heap [envAt 30 L₀ fa q code, envl] := ⟨⟨by show ScopeKind.function ≠ _; decide, L₀, oE, rfl, hoE, fun vs z => by rw [hdE] at z; cases z⟩, ⟨hkm, L, _, hf, eL, hnf⟩, trivial⟩
      refine w_asked K Da Dn De hc r hA F₁.fo.frm.bg F₁.fo.frm.gs t₁ r₁ hFs fun e h' tk Fl htk => ?_
      obtain ⟨base, a', dx, od, hb1, X, U, hen, hdn, hdx, hb⟩ := Fl
      have Sn : Seen c (envAt 30 L₀ fa q code) L oL [(Str.ofString "free", .ref a)] (setρ (setρ (setρ (freeRho d m rs) (Str.ofString "k") (.int i)) (Str.ofString "heard") (.int (m ((i + 3) % 4)))) (Str.ofString "row") (.str (rowS ((i + 3) % 4)))) [(a, .list (natsD ((List.range i).filter (isFree d m))))] g₀ s₀ k g₁ s₁ base e dx := by
        refine ⟨F₁, O, hnf, fun b o hbo n1 n2 => hb1 b o hbo fun env' he => ?_, hen, hdn⟩
        rcases List.mem_cons.mp he with rfl | he
        · intro z; exact n1 (Option.some.inj z).symm
        · rcases List.mem_cons.mp he with rfl | he
          · rw [hf]; intro z; exact n2 (Option.some.inj z).symm
          · cases he
      have fin : ∀ s', FB c (envAt 30 L₀ fa q code) L oL [(Str.ofString "free", .ref a)] (setρ (setρ (setρ (freeRho d m rs) (Str.ofString "k") (.int i)) (Str.ofString "heard") (.int (m ((i + 3) % 4)))) (Str.ofString "row") (.str (rowS ((i + 3) % 4)))) [(a, .list (natsD ((List.range i).filter (isFree d m))))] g₀ s₀ k g₁ s' → Q .next s' := fun s' F' => by
        refine hQ.1 g₁ s' ?_
        rw [filter_succ, hff']
        show FB c _ L oL _ _ [(a, .list (natsD ((List.range i).filter (isFree d m) ++ [])))] g₀ s₀ k g₁ s'
        rw [List.append_nil]
        exact F'.weak (subs ⟨rfl, rfl, rfl, trivial⟩)
      have rd : ∀ e : Value, (A.mark (some e)).depth ≤ 900 := fun e => by have := r.d; show A.depth ≤ 900; lia
      have ru : ∀ e : Value, (A.mark (some e)).units ≤ 9000 := fun e => by have := r.u; show A.units ≤ 9000; lia
      have sorow := hso _ hj
      refine wp_note_next (s := { s₁ with heap := h', toks := tk }) hA rfl X fun h₁ X₁ U₁ => wp_land (s := { s₁ with heap := h₁, toks := tk }) X₁ fun h₂ X₂ U₂ => ?_
      rcases hc with ⟨h0, hne⟩ | ⟨h0, heq⟩
      · rw [if_pos h0] at X₂ hb
        refine wp_clause (s := s₁) (h₃ := h₂) (tk₃ := tk) K Sn X₂ (U.trans (U₁.trans U₂)) htk K.n102 rfl K.m2 rfl (fun z => nomatch z) fun _ => ?_
        refine wp_clause (s := s₁) (h₃ := h₂) (tk₃ := tk) K Sn X₂ (U.trans (U₁.trans U₂)) htk K.n90 rfl K.m3 rfl (fun _ => ?_) (fun z => nomatch z)
        exact wp_suite (s := s₁) (h₃ := h₂) (tk₃ := tk) K Sn X₂ (U.trans (U₁.trans U₂)) htk hdx hb rfl rfl rfl (fun g1 R => tr_suite90 R (rd _) (ru _) K.k90 rfl rfl rfl sorow h0) fin
      · rw [if_neg h0] at X₂ hb
        refine wp_clause (s := s₁) (h₃ := h₂) (tk₃ := tk) K Sn X₂ (U.trans (U₁.trans U₂)) htk K.n102 rfl K.m1 rfl (fun _ => ?_) (fun z => nomatch z)
        exact wp_suite (s := s₁) (h₃ := h₂) (tk₃ := tk) K Sn X₂ (U.trans (U₁.trans U₂)) htk hdx hb rfl rfl rfl (fun g1 R => tr_suite102 R (rd _) (ru _) K.k102 rfl rfl rfl sorow h0) fin
  · exact fun g₀ s₀ k g s Q E F hQ => wpAny_execs_cons (wpAny_Return_some (wp_raw F.fo.frm (v := .ref a) rfl (hQ _ g s ⟨a, rfl, F⟩)))
end
end Mine
end
/-! ## E14 -/
section
open PySem PySem.W PySem.Calls PyProof.Rows
set_option maxHeartbeats 1000000
set_option maxRecDepth 100000
namespace Mine
theorem frm_old {c : Cx} {g₀ : Heap} {s₀ : Shared} {k : Heap} {env : Env} {ν : List (Str × Value)} {ρ : List (Str × PyData)} {g : Heap} {s : Shared} (F : Frm c g₀ s₀ k env ν ρ g s) {a : Addr} {o : Obj} (h : s₀.heap.get? a = some o) : env.locals ≠ a ∧ (∀ n b, env.cells.lookup n = some b → b ≠ a) ∧ s.heap.get? a = some o := by
  obtain ⟨m, cm, I, _⟩ := F.fre
  have hlt := Nat.lt_of_lt_of_le (Heap.lt_size h) I.toInCall.fresh
  exact ⟨fun z => by rw [z] at hlt; exact Nat.lt_irrefl _ hlt, fun n b e z => by have := I.above n b (PySem.mem_of_lookup e); rw [z] at this; exact Nat.lt_irrefl _ (Nat.lt_trans hlt this), I.toInCall.keep a o h⟩
theorem w_free {c : Cx} (K : Ek c) (N : Nm c) {x : Str} {fa ffa fn fe : Addr} {A : Around} {envl : Env} {L : Addr} {oL : Obj} {d m : Nat → Int} {rs : List PyData} {rowS : Nat → Str} {g : Heap} {s : Shared} {vs : List Value} {Q E : Value → Shared → Prop} (D : DF c x fa 30) (Da : DF c (Str.ofString "_law_asked") ffa 29) (Dn : DF c (Str.ofString "ne") fn 14) (De : DF c (Str.ofString "eq") fe 13)
    (hA : A.frames = some [envl]) (hf : envl.frame = some L) (hkm : envl.scope.kind ≠ .module) (hr : Rm 3 A) (hg : c.g0.StaysIn g) (kk : g.StaysIn s.heap) (tk : 1 ≤ s.toks) (r : RdA g vs [dotsD d, dotsD m, .list rs]) (hL : s.heap.get? L = some oL) (hnf : ∀ vs, oL.data ≠ .fields vs) (gL : g.get? L = none)
    (hrs : ∀ j < 4, rs[j]? = some (.str (rowS j))) (hrl : 4 ≤ rs.length) (hrl' : rs.length ≤ 100) (hso : ∀ j < 4, PyData.strOk (rowS j) = true)
    (hQ : ∀ v g' h' tk', g.StaysIn g' → g'.StaysIn h' → (∀ a o, g'.get? a = some o → g.get? a = some o ∨ s.heap.get? a = none) → (∀ a o, s.heap.get? a = some o → a ≠ L → h'.get? a = some o) → (∃ sl, h'.get? L = some { oL with slots := sl }) → 1 ≤ tk' → Rd g' v (.list (natsD (freeL d m))) → Q v { s with heap := h', toks := tk' }) :
    wpAny (model c.prog c.w) A (call (.ref fa) vs) Q E s := by
  refine call_frm (n := 2) (ns := freeNs) D rfl free_bind (by decide) (kinds_of (by rfl)) hr hg kk tk r (fun q code s₁ F r2 => ?_) rfl rfl rfl
  obtain ⟨o1, o2, o3⟩ := frm_old F hL
  have Fg := F.ghost (p := fun b => b ≠ L)
  have z0 : ({ s with heap := only s.heap fun b => b ≠ L } : Shared).heap.get? L = none := by
    cases q : (only s.heap fun b => b ≠ L).get? L with
    | none => rfl
    | some o => exact absurd rfl (only_get.mp q).1
  have FBs : FB c (envAt 30 s.heap.objs.size fa q code) L oL [] (freeRho d m rs) [] g { s with heap := only s.heap fun b => b ≠ L } {} g s₁ :=
    ⟨⟨Fg, fun _ h => (nomatch h), List.nodup_nil⟩, z0, rfl, gL, fun _ h => (nomatch h), _, o3⟩
  refine xa_free K N Da Dn De (Around.frames_deeper hA) hf hkm r2 ⟨o1, o2⟩ hnf hrs hrl hrl' hso g _ {} g s₁ _ _ FBs fun v g' s' ⟨a, hv, F'⟩ => ?_
  subst hv
  have o₀ := F'.fo.own (a, .list (natsD (freeL d m))) (.head _)
  have his := o₀.is
  have haL : a ≠ L := F'.bes.w _ (.head _)
  generalize hpd : PyData.list (natsD (freeL d m)) = pd at his
  cases his with
  | @list vs ds' hpl hr' =>
    cases hpd
    obtain ⟨n, hob⟩ := id hpl
    have hGr := F'.fo.frm.gr
    obtain ⟨h', tk', hs⟩ := hGr.rest
    have gg : g'.StaysIn (addk g' s'.heap a) := addk_stays F'.fo.frm.gs
    have hh : s' = { s with heap := h', toks := tk' } := hs
    have hQ' := hQ (.ref a) (addk g' s'.heap a) s'.heap s'.toks (stays_trans hGr.gg gg) (fun b ob e => (only_get.mp e).2) (fun b ob e => ?_) (fun b ob e hb => hGr.ss b ob ((only_get (h := s.heap) (p := fun b => b ≠ L)).mpr ⟨hb, e⟩)) F'.bes.at_ F'.fo.frm.tk (.list ((addk_get F'.fo.frm.gs).mpr (.inr ⟨rfl, hob⟩)) rfl rfl rfl (hr'.mono gg))
    · subst hh
      exact hQ'
    · have aux : ∀ b, b ≠ L → (only s.heap fun b => b ≠ L).get? b = none → s.heap.get? b = none := fun b hb e => by
        cases q : s.heap.get? b with
        | none => rfl
        | some o => rw [(only_get (h := s.heap) (p := fun b => b ≠ L)).mpr ⟨hb, q⟩] at e; cases e
      rcases (addk_get F'.fo.frm.gs).mp e with z | ⟨rfl, _⟩
      · exact (hGr.fr b ob z).imp id (aux b fun z' => by rw [z', F'.bes.g] at z; cases z)
      · exact .inr (aux b haL o₀.zn)
  | dict => cases hpd
end Mine
end
/-! ## E15 -/
section
open PySem PySem.W PySem.Calls PyProof.Rows
set_option maxHeartbeats 1000000
set_option maxRecDepth 100000
namespace Mine
/-- an object at the side, and what is known of it -/
structure Sd where
  T : Addr
  p : Heap → Obj → Prop
  mono : ∀ {g g' : Heap} {o : Obj}, g.StaysIn g' → p g o → p g' o
structure LB (c : Cx) (env : Env) (σ : Sd) (ν : List (Str × Value)) (ρ : List (Str × PyData)) (ω : List (Addr × PyData)) (g₀ : Heap) (s₀ : Shared) (k : Heap) (g : Heap) (s : Shared) : Prop where
  fo : FO c env ν ρ ω g₀ s₀ k g s
  z : s₀.heap.get? σ.T = none
  kT : k.get? σ.T = none
  gT : g.get? σ.T = none
  w : ∀ p ∈ ω, p.1 ≠ σ.T
  l : env.locals ≠ σ.T
  c : ∀ n a, env.cells.lookup n = some a → a ≠ σ.T
  at_ : ∃ o, s.heap.get? σ.T = some o ∧ σ.p g o
section
variable {c : Cx} {A : Around} {env : Env} {σ : Sd} {ν ν' : List (Str × Value)} {ρ ρ' : List (Str × PyData)} {ω ω' : List (Addr × PyData)}
theorem FO.base {g₀ : Heap} {s₀ : Shared} {k g : Heap} {s : Shared} (F : FO c env ν ρ ω g₀ s₀ k g s) : FO c env ν ρ ω g s₀ k g s := (fo_ad.re F).1
theorem LB.grab {g₀ : Heap} {s₀ : Shared} {k g : Heap} {s : Shared} (F : LB c env σ ν ρ ω g₀ s₀ k g s) : FO c env ν ρ ω g s₀ (addk k s.heap σ.T) g s :=
  FO.base ⟨F.fo.frm.grab F.l F.c F.gT, fun p hp => let o := F.fo.own p hp; ⟨addk_none F.fo.frm.ks o.kn (F.w p hp), o.gn, o.zn, o.Ln, o.Cn, o.is⟩, F.fo.dis⟩
theorem LB.ungrab {g₀ : Heap} {s₀ : Shared} {k g g' : Heap} {s s' : Shared} (F : LB c env σ ν ρ ω g₀ s₀ k g s) (F' : FO c env ν' ρ' ω' g s₀ (addk k s.heap σ.T) g' s') : LB c env σ ν' ρ' ω' g₀ s₀ k g' s' := by
  obtain ⟨o, e, ho⟩ := F.at_
  have hL := addk_has F.fo.frm.ks e
  obtain ⟨_, b1, b2, b3⟩ := fo_ad.re F.fo
  have F'' : FO c env ν' ρ' ω' g₀ s₀ (addk k s.heap σ.T) g' s' := fo_ad.un F' b3 b1 b2
  refine ⟨⟨F''.frm.back (addk_stays F.fo.frm.ks), fun p hp => let o := F''.own p hp; ⟨none_of_stays (addk_stays F.fo.frm.ks) o.kn, o.gn, o.zn, o.Ln, o.Cn, o.is⟩, F''.dis⟩, F.z, F.kT, (F''.frm.gk σ.T).resolve_right (by rw [hL]; exact fun z => nomatch z), fun p hp z => ?_, F.l, F.c, o, F''.frm.ks _ _ hL, σ.mono F'.frm.gg ho⟩
  have := (F''.own p hp).kn
  rw [z, hL] at this
  cases this
/-- a step of a frame, the side's object untouched -/
theorem lb_of {st : Stmt} {rt : PyData → Prop} (h : XA1 c A env (FO c env ν ρ ω) st ⟨FO c env ν' ρ' ω', rt, AsF⟩) {bk : As} : XA1 c A env (LB c env σ ν ρ ω) st ⟨LB c env σ ν' ρ' ω', rt, bk⟩ := fun g₀ s₀ k g s Q E F hQ => by
  obtain ⟨_, b1, b2, b3⟩ := fo_ad.re F.fo
  exact h g s₀ _ g s Q E F.grab ⟨fun g' s' F' => hQ.1 g' s' (F.ungrab F'), fun d v g' s' a G b => hQ.2.1 d v g' s' a ⟨stays_trans b1 G.gg, G.gs, G.ss, fun a o e => (G.fr a o e).elim (fun z => b2 a o z) .inr, G.rest⟩ b, fun g' s' z => z.elim⟩
theorem lb_pure {st : Stmt} {bk : As} {rt : PyData → Prop} (h : X1 c A env ν ρ st (.next ρ')) : XA1 c A env (LB c env σ ν ρ ω) st ⟨LB c env σ ν ρ' ω, rt, bk⟩ :=
  lb_of (xo_pure (o := ⟨FO c env ν ρ' ω, rt, AsF⟩) h fun _ _ _ _ _ z => z)
theorem LB.step {g₀ : Heap} {s₀ : Shared} {k g g' : Heap} {s s' : Shared} (F : LB c env σ ν ρ ω g₀ s₀ k g s) (G : Gr g s g' s') (t : 1 ≤ s'.toks) : LB c env σ ν ρ ω g₀ s₀ k g' s' :=
  F.ungrab (F.grab.step G t)
theorem LB.weak {g₀ : Heap} {s₀ : Shared} {k g : Heap} {s : Shared} (F : LB c env σ ν ρ ω g₀ s₀ k g s) (h : ∀ x d, ρ'.lookup x = some d → ρ.lookup x = some d) : LB c env σ ν ρ' ω g₀ s₀ k g s := ⟨F.fo.weak h, F.z, F.kT, F.gT, F.w, F.l, F.c, F.at_⟩
theorem lb_ad : Ad c (LB c env σ ν ρ ω) where
  ks := fun F => F.fo.frm.ks
  gs := fun F => F.fo.frm.gs
  tk := fun F => F.fo.frm.tk
  gk := fun F => F.fo.frm.gk
  iter := fun {g₀ s₀ k g s g' s' b} F G t hb hgb => by
    obtain ⟨x, y⟩ := fo_ad.iter F.fo G t hb hgb
    have F' := F.step G t
    obtain ⟨o, e, ho⟩ := F.at_
    exact ⟨⟨x, F.z, addk_none F'.fo.frm.ks F.kT (fun z => by rw [z, hb] at e; cases e), F'.gT, F.w, F.l, F.c, F'.at_⟩, y⟩
  turn := fun {g₀ s₀ K K' g s h' b tk} F ⟨ob, hob⟩ hz he ht hK' hsub => by
    refine ⟨fo_ad.turn F.fo ⟨ob, hob⟩ hz he ht hK' hsub, F.z, hsub _ F.kT, F.gT, F.w, F.l, F.c, ?_⟩
    obtain ⟨o, e, ho⟩ := F.at_
    exact ⟨o, he _ _ (fun z => by have := F.kT; rw [z, hob] at this; cases this) e, ho⟩
  re := fun {g₀ s₀ k g s} F => by
    obtain ⟨a, b⟩ := fo_ad.re F.fo
    exact ⟨⟨a, F.z, F.kT, F.gT, F.w, F.l, F.c, F.at_⟩, b⟩
  un := fun {g₀ g₁ s₀ k g s} F a b d => ⟨fo_ad.un F.fo a b d, F.z, F.kT, F.gT, F.w, F.l, F.c, F.at_⟩
theorem lb_name {x : Str} {p : Pos} {d : PyData} {body : List Stmt} {o : Po} (hk : Names env x) (hν : ν.lookup x = none) (h : XA c A env (LB c env σ ν (setρ ρ x d) ω) body o) : XB c A env (LB c env σ ν ρ ω) (.Name x p) d body o := fun g₀ s₀ k g s v Q E F r hQ =>
  wpAny_assign_Name (wp_storeO F.grab r hk hν fun s' F' => h g₀ s₀ k g s' Q E (F.ungrab F') hQ)
theorem lb_newlist {x : Str} {p pos lp : Pos} {rt : PyData → Prop} {bk : As} (hk : Names env x) (hν : ν.lookup x = none) (hρ : ρ.lookup x = none) :
    XA1 c A env (LB c env σ ν ρ ω) (.Assign [.Name x p] (.List [] lp) pos) ⟨fun g₀ s₀ k g s => ∃ a, LB c env σ ((x, .ref a) :: ν) ρ ((a, .list []) :: ω) g₀ s₀ k g s, rt, bk⟩ := fun g₀ s₀ k g s Q E F hQ =>
  xo_newlist (o := ⟨fun g₀ s₀ k g s => ∃ a, FO c env ((x, .ref a) :: ν) ρ ((a, .list []) :: ω) g₀ s₀ k g s, fun _ => False, AsF⟩) hk hν hρ (fun a _ _ _ _ _ F' => ⟨a, F'⟩) _ _ _ _ _ Q E F.grab ⟨fun g' s' ⟨a, F'⟩ => hQ.1 g' s' ⟨a, F.ungrab F'⟩, fun _ _ _ _ z => z.elim, fun _ _ z => z.elim⟩
theorem lb_append {ω₁ ω₂ : List (Addr × PyData)} {a : Addr} {ds : List PyData} {d : PyData} {x : Str} {p ap cp ep : Pos} {e : Expr} {pl : Sem Bool} {rt : PyData → Prop} {bk : As} (hx : ν.lookup x = some (.ref a)) (h : Ev c A env ρ e d) (hl : ds.length ≤ 2 ^ 20)
    (hi : interactive env = false := by rfl) (hs : swapsWith (.Call (.Attribute (.Name x p) "append" ap) [e] [] cp) none ep.line env = pure false := by rfl)
    (he : eval (.Call (.Attribute (.Name x p) "append" ap) [e] [] cp) env = (do
      let ov ← eval (.Name x p) env
      standAt ap.atName
      let (f, first) ← holding [ov] (getMethod ov "append" pl)
      callWith cp f first (backTo cp (starEach [e] env)) []) := by rfl)
    (he2 : starEach [e] env = (false, eval e env) :: starEach [] env := by rfl) (hd : (x == ("__debug__" : Str)) = false := by decide) :
    XA1 c A env (LB c env σ ν ρ (ω₁ ++ (a, .list ds) :: ω₂)) (.Expr (.Call (.Attribute (.Name x p) "append" ap) [e] [] cp) ep) ⟨LB c env σ ν ρ (ω₁ ++ (a, .list (ds ++ [d])) :: ω₂), rt, bk⟩ :=
  lb_of (xo_append (o := ⟨FO c env ν ρ (ω₁ ++ (a, .list (ds ++ [d])) :: ω₂), rt, AsF⟩) hx h hl (fun _ _ _ _ _ F => F) hi hs he he2 hd)
/-- a step after which all but the frame's own names stay -/
theorem LB.aside {g₀ : Heap} {s₀ : Shared} {k g g' : Heap} {s : Shared} {h' : Heap} {tk : Nat} {oL : Obj} (F : LB c env σ ν ρ ω g₀ s₀ k g s) (hL : s.heap.get? env.locals = some oL) (gg : g.StaysIn g') (gs : g'.StaysIn h') (fr : ∀ a o, g'.get? a = some o → g.get? a = some o ∨ s.heap.get? a = none)
    (hk : ∀ b o, s.heap.get? b = some o → b ≠ env.locals → h'.get? b = some o) (hsl : ∃ sl, h'.get? env.locals = some { oL with slots := sl }) (ht : 1 ≤ tk) : LB c env σ ν ρ ω g₀ s₀ k g' { s with heap := h', toks := tk } := by
  have gn : ∀ {a}, g.get? a = none → (∃ o, s.heap.get? a = some o) → g'.get? a = none := fun {a} e ⟨o, ho⟩ => by
    cases q : g'.get? a with
    | none => rfl
    | some o' =>
      rcases fr a o' q with z | z
      · rw [e] at z; cases z
      · rw [ho] at z; cases z
  have hu : s.heap.UpToSlots h' := fun a o e _ => by
    by_cases h : a = env.locals
    · subst h
      rw [hL] at e; cases e
      exact hsl
    · exact ⟨o.slots, by rw [hk a o e h]⟩
  obtain ⟨m, cm, I, q1, q2⟩ := F.fo.frm.fre
  have kn : s₀.heap.get? env.locals = none := by
    cases q : s₀.heap.get? env.locals with
    | none => rfl
    | some o => exact absurd (Heap.lt_size q) (Nat.not_lt.mpr I.toInCall.fresh)
  have ne' : ∀ {hp : Heap} {a o}, hp.get? a = some o → hp.get? env.locals = none → a ≠ env.locals := fun e e' z => by rw [z, e'] at e; cases e
  obtain ⟨oT, eT, pT⟩ := F.at_
  have T' := hk _ _ eT (Ne.symm F.l)
  refine ⟨⟨⟨F.fo.frm.fn, F.fo.frm.gl, F.fo.frm.bl, F.fo.frm.base, stays_trans F.fo.frm.gg gg, gs, fun a o e => ?_, gn F.fo.frm.noL ⟨_, hL⟩, fun a o e => hk a o (F.fo.frm.ks a o e) (ne' e F.fo.frm.kL), F.fo.frm.kL, F.fo.frm.kC, fun n a e => ?_, fun a => ?_, ht, m, cm, ⟨⟨?_, hu.ns I.toInCall.ns, fun a o e => hk a o (I.toInCall.keep a o e) (ne' e kn), I.toInCall.fresh⟩, fun n a e => ?_, I.apart, I.above⟩, q1, fun x d e => let ⟨v, r, z⟩ := q2 x d e; ⟨v, r.mono gg, z⟩⟩, fun p hp => ?_, F.fo.dis⟩, F.z, F.kT, gn F.gT ⟨_, eT⟩, F.w, F.l, F.c, oT, T', σ.mono gg pT⟩
  · rcases fr a o e with z | z
    · exact F.fo.frm.fr a o z
    · exact .inr (none_of_stays (fun b o e => I.toInCall.keep b o e) z)
  · obtain ⟨o, ho, _⟩ := I.cell n a e
    exact gn (F.fo.frm.noC n a e) ⟨o, ho⟩
  · cases q : k.get? a with
    | none => exact .inr rfl
    | some o => exact .inl (gn ((F.fo.frm.gk a).resolve_right (by rw [q]; exact fun z => nomatch z)) ⟨o, F.fo.frm.ks a o q⟩)
  · obtain ⟨h₁, t₁, e⟩ := I.toInCall.same
    exact ⟨h', tk, by rw [e]⟩
  · obtain ⟨o, ho, r⟩ := I.cell n a e
    exact ⟨o, hk _ _ ho (Nat.ne_of_gt (I.above n a (PySem.mem_of_lookup e))), r⟩
  · have o := F.fo.own p hp
    obtain ⟨x, hx⟩ := o.there
    exact ⟨o.kn, gn o.gn ⟨x, hx⟩, o.zn, o.Ln, o.Cn, o.is.at gg fun x e => hk _ _ e (Ne.symm o.Ln)⟩
/-! ## own lists lent for a while -/
noncomputable def lent (g h : Heap) (ω : List (Addr × PyData)) : Heap := only h fun a => (∃ o, g.get? a = some o) ∨ a ∈ ω.map (·.1)
theorem lent_stays (g h : Heap) (ω : List (Addr × PyData)) : (lent g h ω).StaysIn h := fun a o e => (only_get.mp e).2
theorem lent_has {g h : Heap} {ω : List (Addr × PyData)} (k : g.StaysIn h) : g.StaysIn (lent g h ω) := fun a o e => only_get.mpr ⟨.inl ⟨o, e⟩, k a o e⟩
theorem FO.lent_rd {g₀ : Heap} {s₀ : Shared} {k g : Heap} {s : Shared} (F : FO c env ν ρ ω g₀ s₀ k g s) {a : Addr} {ds : List PyData} (h : (a, PyData.list ds) ∈ ω) : Rd (lent g s.heap ω) (.ref a) (.list ds) := by
  have his := (F.own _ h).is
  generalize hpd : PyData.list ds = pd at his
  cases his with
  | @list vs ds' hpl hr =>
    cases hpd
    obtain ⟨n, hob⟩ := hpl
    exact .list (only_get.mpr ⟨.inr (List.mem_map.mpr ⟨_, h, rfl⟩), hob⟩) rfl rfl rfl (hr.mono (lent_has F.frm.gs))
  | dict => cases hpd
theorem FO.lent_st {g₀ : Heap} {s₀ : Shared} {k g : Heap} {s : Shared} {ρp : List (Str × PyData)} (F : FO c env ν ρ ω g₀ s₀ k g s) (h : ∀ x d, ρp.lookup x = some d → ρ.lookup x = some d ∨ ∃ v, ν.lookup x = some v ∧ Rd (lent g s.heap ω) v d) : St env ρp (lent g s.heap ω) s := by
  refine ⟨F.frm.fn, F.frm.gl, F.frm.bl, lent_stays _ _ _, F.frm.tk, fun x d e => ?_⟩
  rcases h x d e with e' | ⟨v, e', r⟩
  · obtain ⟨v, a, b⟩ := F.frm.st.vars x d e'
    exact ⟨v, a, b.mono (lent_has F.frm.gs)⟩
  · obtain ⟨m, cm, I, hv, _⟩ := F.frm.fre
    refine ⟨v, ?_, r⟩
    rcases hv x v e' with ⟨k, e⟩ | ⟨k, ⟨a, ea⟩, e⟩
    · exact .inl ⟨k, m, I.toInCall.ns, e⟩
    · exact .inr ⟨.inl k, a, ea, e ▸ I.cell x a ea⟩
theorem FO.lent_back {g₀ : Heap} {s₀ : Shared} {k g g' : Heap} {s s' : Shared} (F : FO c env ν ρ ω g₀ s₀ k g s) (G : Gr (lent g s.heap ω) s g' s') : ∃ g'', Gr g s g'' s' ∧ g''.StaysIn g' ∧ ∀ a o, g'.get? a = some o → (∀ p ∈ ω, p.1 ≠ a) → g''.get? a = some o := by
  refine ⟨only g' fun a => (∃ o, g.get? a = some o) ∨ s.heap.get? a = none, ⟨fun a o e => only_get.mpr ⟨.inl ⟨o, e⟩, G.gg _ _ (lent_has F.frm.gs _ _ e)⟩, fun a o e => G.gs _ _ (only_get.mp e).2, G.ss, fun a o e => ?_, G.rest⟩, fun a o e => (only_get.mp e).2, fun a o e h => only_get.mpr ⟨?_, e⟩⟩
  · obtain ⟨q, e'⟩ := only_get.mp e
    rcases q with ⟨o', q⟩ | q
    · have := G.gg _ _ (lent_has F.frm.gs _ _ q)
      rw [e'] at this
      cases this
      exact .inl q
    · exact .inr q
  · rcases G.fr a o e with z | z
    · rcases (only_get.mp z).1 with q | q
      · exact .inl q
      · obtain ⟨p, hp, e'⟩ := List.mem_map.mp q
        exact absurd e' (h p hp)
    · exact .inr z
end
end Mine
end
/-! ## E16 -/
section
open PySem PySem.W PySem.Calls PyProof.Rows
set_option maxHeartbeats 1000000
set_option maxRecDepth 100000
namespace Mine
/-- all own objects are lists -/
noncomputable def Lists (ω : List (Addr × PyData)) : Prop := ∀ p ∈ ω, ∃ ds, p.2 = .list ds
section
variable {c : Cx} {A : Around} {env : Env} {σ : Sd} {ν ν' : List (Str × Value)} {ρ ρ' : List (Str × PyData)} {ω ω' : List (Addr × PyData)}
theorem FO.own_obj {g₀ : Heap} {s₀ : Shared} {k g g' : Heap} {s s' : Shared} (F : FO c env ν ρ ω g₀ s₀ k g s) (hl : Lists ω) (G : Gr (lent g s.heap ω) s g' s') {p : Addr × PyData} (hp : p ∈ ω) {o : Obj} (e : g'.get? p.1 = some o) :
    ∃ vs n ds, o = { cls := .type "list", data := .seq vs n } ∧ p.2 = .list ds ∧ RdA g vs.toList ds := by
  obtain ⟨ds, hd⟩ := hl p hp
  have his := (F.own p hp).is
  rw [hd] at his
  generalize hpd : PyData.list ds = pd at his
  cases his with
  | @list vs ds' hpl hr =>
    cases hpd
    obtain ⟨n, hob⟩ := hpl
    have := G.ss _ _ hob
    rw [G.gs _ _ e] at this
    cases this
    exact ⟨vs, n, ds, rfl, hd, hr⟩
  | dict => cases hpd
/-- the data d may be read without what was lent -/
noncomputable def Cuts (c : Cx) (env : Env) (ν : List (Str × Value)) (ρ : List (Str × PyData)) (ω : List (Addr × PyData)) (d : PyData) : Prop :=
  ∀ {g₀ : Heap} {s₀ : Shared} {k g : Heap} {s : Shared} {g' : Heap} {s' : Shared} {g'' : Heap} {v : Value}, FO c env ν ρ ω g₀ s₀ k g s → Gr (lent g s.heap ω) s g' s' → (∀ a o, g'.get? a = some o → (∀ p ∈ ω, p.1 ≠ a) → g''.get? a = some o) → Rd g' v d → Rd g'' v d
theorem rda_nums {h h' : Heap} {vs : List Value} {ns : List Int} (r : RdA h vs (ns.map PyData.int)) : RdA h' vs (ns.map PyData.int) := by
  induction ns generalizing vs with
  | nil => cases r; exact .nil
  | cons n ns ih =>
    have zq := rdC r; clear r; obtain ⟨_, _, rfl, r, r'⟩ := zq
    first | (obtain ⟨_, rfl⟩ := rdI r) | (obtain ⟨_, rfl⟩ := rdS r) | (obtain rfl := rdN r) | cases r
    exact .cons (.int _ _) (ih r')
theorem cut_ints {n : Int} {ns : List Int} (hl : Lists ω) (hi : ∀ p ∈ ω, ∀ i r, p.2 ≠ .list (.int i :: r)) : Cuts c env ν ρ ω (.list ((n :: ns).map PyData.int)) := fun {g₀ s₀ k g s g' s' g'' v} F G h r => by
  have zq := r; clear r; refine rdL zq fun a o vs z ev e hc hd hp rr => ?_
  subst ev
  refine .list (h _ _ e fun pp hpp => ?_) hc hd hp (rda_nums rr)
  rintro rfl
  obtain ⟨vs', n', ds', ho, hpd, hr⟩ := F.own_obj hl G hpp e
  subst ho
  cases hd
  generalize vs.toList = vl at rr hr
  have zq := rdC rr; clear rr; obtain ⟨v₀, vt, rfl, r₀, rr⟩ := zq
  first | (obtain ⟨_, rfl⟩ := rdI r₀) | (obtain ⟨_, rfl⟩ := rdS r₀) | (obtain rfl := rdN r₀) | cases r₀
  rcases hr with _ | ⟨r₁, r₂⟩
  first | (obtain ⟨_, rfl⟩ := rdI r₁) | (obtain ⟨_, rfl⟩ := rdS r₁) | (obtain rfl := rdN r₁) | cases r₁
  exact hi pp hpp _ _ hpd
theorem cut_stats {a b d e : Int} {js : List (Int × Int)} (hl : Lists ω) : Cuts c env ν ρ ω (statsD a b d e js) := fun {g₀ s₀ k g s g' s' g'' v} F G h r => by
  unfold statsD at r ⊢
  have zq := r; clear r; refine rdT zq fun a o vs z ev e hc hd rr => ?_
  subst ev
  refine .tuple (h _ _ e fun p hp => ?_) hc hd ?_
  · rintro rfl
    obtain ⟨vs', n', ds', ho, _⟩ := F.own_obj hl G hp e
    subst ho
    exact absurd hc (by simp)
  · generalize vs.toList = vl at rr
    have zq := rdC rr; clear rr; obtain ⟨_, _, rfl, r₁, rr⟩ := zq
    have zq := rdC rr; clear rr; obtain ⟨_, _, rfl, r₂, rr⟩ := zq
    have zq := rdC rr; clear rr; obtain ⟨_, _, rfl, r₃, rr⟩ := zq
    have zq := rdC rr; clear rr; obtain ⟨_, _, rfl, r₄, rr⟩ := zq
    have zq := rdC rr; clear rr; obtain ⟨_, _, rfl, r₅, rr⟩ := zq
    first | (obtain rfl := rdN rr) | cases rr
    obtain ⟨_, rfl⟩ := rdI r₁
    obtain ⟨_, rfl⟩ := rdI r₂
    obtain ⟨_, rfl⟩ := rdI r₃
    obtain ⟨_, rfl⟩ := rdI r₄
    refine .cons (.int _ _) (.cons (.int _ _) (.cons (.int _ _) (.cons (.int _ _) (.cons ?_ .nil))))
    unfold dictD at r₅ ⊢
    generalize hx : PyData.dict ((PyData.none, PyData.none) :: js.map fun p => (PyData.int p.1, PyData.int p.2)) = dx at r₅
    cases r₅ with
    | @dict b kvs js' hs hdo hj =>
      refine .dict hs (fun prog w => ?_) hj
      obtain ⟨o', es, ep, ho', q⟩ := hdo prog w
      refine ⟨o', es, ep, h _ _ ho' fun p hp => ?_, q⟩
      rintro rfl
      obtain ⟨vs', n', ds', ho, _⟩ := F.own_obj hl G hp ho'
      subst ho
      exact absurd q.1.1 (by simp)
    | _ => cases hx
/-- what is read from lent lists -/
noncomputable def Lends (c : Cx) (env : Env) (σ : Sd) (ν : List (Str × Value)) (ρ : List (Str × PyData)) (ω : List (Addr × PyData)) (ρp : List (Str × PyData)) : Prop :=
  ∀ {g₀ : Heap} {s₀ : Shared} {k g : Heap} {s : Shared}, LB c env σ ν ρ ω g₀ s₀ k g s → ∀ x d, ρp.lookup x = some d → ρ.lookup x = some d ∨ ∃ v, ν.lookup x = some v ∧ Rd (lent g s.heap ω) v d
theorem wp_lent {ρp : List (Str × PyData)} {e : Expr} {d : PyData} {g₀ : Heap} {s₀ : Shared} {k g : Heap} {s : Shared} {Q E : Value → Shared → Prop} (F : LB c env σ ν ρ ω g₀ s₀ k g s) (hp : Lends c env σ ν ρ ω ρp) (h : Ev c A env ρp e d) (hc : Cuts c env ν ρ ω d)
    (hQ : ∀ v g' s', LB c env σ ν ρ ω g₀ s₀ k g' s' → Gr g s g' s' → Rd g' v d → Q v s') : wpAny (model c.prog c.w) A (eval e env) Q E s :=
  h.tk (lent g s.heap ω) s _ _ (stays_trans F.fo.frm.bg (lent_has F.fo.frm.gs)) (F.fo.lent_st (hp F)) fun v g' s' G r t => by
    obtain ⟨g'', G'', _, k'⟩ := F.fo.lent_back G
    exact hQ v g'' s' (F.step G'' t) G'' (hc F.fo G k' r)
theorem lb_assign {ρp : List (Str × PyData)} {x : Str} {p pos : Pos} {e : Expr} {d : PyData} {rt : PyData → Prop} {bk : As} (hp : Lends c env σ ν ρ ω ρp) (h : Ev c A env ρp e d) (hc : Cuts c env ν ρ ω d) (hk : Names env x) (hν : ν.lookup x = none)
    (hsw : swapsWith e (some (.Name x p)) pos.line env = pure false := by rfl) : XA1 c A env (LB c env σ ν ρ ω) (.Assign [.Name x p] e pos) ⟨LB c env σ ν (setρ ρ x d) ω, rt, bk⟩ := fun g₀ s₀ k g s Q E F hQ =>
  wpAny_Assign_Name (wp_lent F hp h hc fun v g' s' F' G' r' => wp_storeO F'.grab r' hk hν fun s'' F'' => hQ.1 g' s'' (F'.ungrab F'')) hsw
theorem lb_if {ρp : List (Str × PyData)} {t : Expr} {body orelse : List Stmt} {pos : Pos} {b : Bool} {o : Po} (hp : Lends c env σ ν ρ ω ρp) (h : Tr c A env ρp t b) (h₁ : b = true → XA c A env (LB c env σ ν ρ ω) body o) (h₂ : b = false → XA c A env (LB c env σ ν ρ ω) orelse o) : XA1 c A env (LB c env σ ν ρ ω) (.If t body orelse pos) o := fun g₀ s₀ k g s Q E F hQ =>
  wpAny_If (h.tk (lent g s.heap ω) s _ _ (stays_trans F.fo.frm.bg (lent_has F.fo.frm.gs)) (F.fo.lent_st (hp F)) fun g' s' G t => by
    obtain ⟨g'', G'', _, k'⟩ := F.fo.lent_back G
    have F' := F.step G'' t
    cases b with
    | true => exact h₁ rfl g₀ s₀ k g'' s' Q E F' hQ
    | false => exact h₂ rfl g₀ s₀ k g'' s' Q E F' hQ)
end
end Mine
end
/-! ## E17 -/
section
open PySem PySem.W PySem.Calls PyProof.Rows
set_option maxHeartbeats 1000000
set_option maxRecDepth 100000
namespace Mine
section
variable {prog : Program} {w : World} {A : Around} {E : Value → Shared → Prop} {s : Shared}
theorem setItem_plain {l : Addr} {items : Array Value} {k : Int} {t : Tok} {v : Value} {Q : Unit → Shared → Prop} (hl : s.heap.PlainList l items)
    (h0 : 0 ≤ k) (hfit : k < 2 ^ 63) (hn : k < items.size)
    (hQ : ∀ h', h'.PlainList l (items.setIfInBounds k.toNat v) → Heap.SameBut l s.heap h' → Q () { s with heap := h' }) :
    wpAny (model prog w) A (setItem (.ref l) (.int k t) v) Q E s := by
  obtain ⟨n, ho⟩ := id hl
  have hlI : s.heap.IsList l items := ⟨_, ho, rfl, n, rfl⟩
  unfold setItem
  try with_reducible refine wpAny_holding ?_
  first | refine wpAny_bind (wpAny_pure ?_) | skip
  refine wpAny_bind (wpAny_sequenceKey hlI.typeIs (by decide) ?_)
  refine wpAny_bind (wpAny_callSpecial?_slot (name := Str.ofString "__setitem__") hlI.typeIs slot_list_setitem
    (wpAny_call_entry slot_list_setitem hlI.typeIs entry_list_setitem ?_ (args_list_setitem _ _ _)))
  show wpAny _ _ (Builtin.List.listSubscript? (.int k t) >>= _) _ _ s
  refine wpAny_bind (wpAny_listSubscript_int (fitsIndex_of h0 hfit) ?_)
  clear hfit
  obtain ⟨j, rfl⟩ := Int.eq_ofNat_of_zero_le h0
  have hj : j < items.size := by lia
  have hx' : items[j]? = some items[j] := Array.getElem?_eq_getElem hj
  show wpAny _ _ ((seqItemAt l j >>= fun r => pure (r.map (j, ·))) >>= _) _ _ s
  refine wpAny_bind (wpAny_bind (wpAny_seqItemAt ho rfl (wpAny_pure ?_)))
  rw [hx']
  show wpAny _ _ (setSeqItemAt l j v >>= _) _ _ s
  have hfin : (s.heap.update l (Obj.mapSeq (·.setIfInBounds j v))).PlainList l (items.setIfInBounds j v) := ⟨_, get?_update_seq ho (·.setIfInBounds j v)⟩
  refine wpAny_bind (wpAny_setSeqItemAt ho rfl ?_)
  first
    | exact wpAny_bind (wpAny_pure (wpAny_pure ⟨.none, rfl, wpAny_pure (hQ _ hfin (Heap.SameBut.update ..))⟩))
    | exact wpAny_pure ⟨.none, rfl, wpAny_pure (hQ _ hfin (Heap.SameBut.update ..))⟩
theorem repeat_plain {l : Addr} {v : Value} {k : Nat} {o : Obj} {x : Int} {u : Tok} {Q : Value → Shared → Prop} (hl : s.heap.get? l = some o) (hc : o.cls = .type "list") (hd : o.data = .seq #[v] k) (h0 : 0 ≤ x) (hi : x ≤ 100)
    (h : Q (.ref s.heap.objs.size) { s with heap := s.heap.push { cls := .type "list", data := .seq (List.replicate x.toNat v).toArray } }) :
    wpAny (model prog w) A (binaryOp .Mult (.ref l) (.int x u)) Q E s := by
  obtain ⟨cls, d, data, sl⟩ := o
  simp only at hc hd
  subst hc hd
  refine wpAny_binaryOp_repeat_ref (T := "list") (U := "int") (by decide) ⟨_, hl, rfl⟩ (fun s' => typeIs_int s' x u) noFill_list_mul F.fills_int_mul F.slot_int_rmul repeat_list F.slot_int_index.lookup
    (call_meets F.slot_int_rmul (typeIs_int s x u) F.entry_int_rmul (F.args_int_rmul_2 _ _) (lm_int_rmul_list_any x u l #[v] k d sl)
      ⟨hl, rfl, ⟨_, hl, rfl⟩, call_meets F.slot_list_mul ⟨_, hl, rfl⟩ F.entry_list_mul (F.args_list_mul_2 _ _)
        (lm_list_mul_any l #[v] k d sl x u (by simp [Builtin.List.listFitsIndex]; lia) (by simp; lia) (by simp [Builtin.List.listTooLong, sizeLine]; lia))
        ⟨hl, ?_⟩⟩)
  have e : List.foldl (fun x1 x2 => x1 ++ x2) #[] (List.replicate (if (#[v] : Array Value).isEmpty = true then 0 else x.toNat) #[v]) = (List.replicate x.toNat v).toArray := by
    rw [if_neg (by simp)]
    have : ∀ n (a : Array Value), List.foldl (fun x1 x2 => x1 ++ x2) a (List.replicate n #[v]) = a ++ (List.replicate n v).toArray := by
      intro n
      induction n with
      | zero => intro a; simp
      | succ n ih =>
        intro a
        rw [List.replicate_succ, List.foldl_cons, ih, List.replicate_succ, Array.append_assoc]
        congr 1
        apply Array.toList_inj.mp
        simp
    rw [this]
    simp
  rw [e]
  exact h
end
section
variable {c : Cx} {A : Around} {env : Env} {σ : Sd} {ν ν' : List (Str × Value)} {ρ ρ' : List (Str × PyData)} {ω ω' : List (Addr × PyData)}
/-- x = [e] * n -/
theorem lb_repeat {x : Str} {p pos lp bp np : Pos} {e : Expr} {d : PyData} {n : Int} {nk : Nat} {rt : PyData → Prop} {bk : As} (hk : Names env x) (hν : ν.lookup x = none) (hρ : ρ.lookup x = none) (h : Ev c A env ρ e d) (h0 : 0 ≤ n) (h1 : n ≤ 100)
    (hsw : swapsWith (.BinOp (.List [e] lp) .Mult (.Constant (.int n) nk np) bp) (some (.Name x p)) pos.line env = pure false := by rfl) (he : starEach [e] env = (false, eval e env) :: starEach [] env := by rfl) :
    XA1 c A env (LB c env σ ν ρ ω) (.Assign [.Name x p] (.BinOp (.List [e] lp) .Mult (.Constant (.int n) nk np) bp) pos) ⟨fun g₀ s₀ k g s => ∃ a, LB c env σ ((x, .ref a) :: ν) ρ ((a, .list (List.replicate n.toNat d)) :: ω) g₀ s₀ k g s, rt, bk⟩ := fun g₀ s₀ k g s Q E F hQ => by
  refine wpAny_Assign_Name (wpAny_BinOp ((ev_list (evs_cons h evs_nil he) (by show 1 ≤ sizeLine; decide)).tk g s _ _ F.fo.frm.bg F.fo.frm.st fun v g₁ s₁ G₁ r₁ t₁ => wpAny_Constant_int ?_)) hsw
  have F₁ := F.step G₁ t₁
  have zq := r₁; clear r₁; refine rdL zq fun a o vs z ev e hc hd hp r => ?_
  subst ev
  obtain ⟨vs⟩ := vs
  simp only at r
  have zq := rdC r; clear r; obtain ⟨_, _, rfl, r, r'⟩ := zq
  first | (obtain ⟨_, rfl⟩ := rdI r') | (obtain ⟨_, rfl⟩ := rdS r') | (obtain rfl := rdN r') | cases r'
  rename_i v₀
  have F₂ : LB c env σ ν ρ ω g₀ s₀ k g₁ { s₁ with toks := s₁.toks + 1 } := F₁.step (Gr.toks F₁.fo.frm.gs _) (Nat.le_add_left _ _)
  refine repeat_plain (s := { s₁ with toks := s₁.toks + 1 }) (F₂.fo.frm.gs _ _ e) hc hd h0 h1 ?_
  have F₃ := F₂.grab.own_new (ob := { cls := .type "list", data := .seq (List.replicate n.toNat v₀).toArray }) (d := .list (List.replicate n.toNat d)) (tk := s₁.toks + 1) (Nat.le_add_left _ _) (.list ⟨_, Heap.get?_push_size _ rfl⟩ (by
    show RdA g₁ (List.replicate n.toNat v₀) _
    induction n.toNat with
    | zero => exact .nil
    | succ m ih => rw [List.replicate_succ, List.replicate_succ]; exact .cons r ih))
  exact wp_storeOν F₃ hk hν hρ fun s' F' => hQ.1 g₁ s' ⟨_, F₂.ungrab F'⟩
theorem RdA.set {h : Heap} : ∀ {vs : List Value} {ds : List PyData} (i : Nat) {v : Value} {d : PyData}, RdA h vs ds → Rd h v d → RdA h (vs.set i v) (ds.set i d)
  | _, _, i, _, _, .nil, _ => .nil
  | _, _, 0, _, _, .cons _ r, a => .cons a r
  | _, _, i + 1, _, _, .cons b r, a => .cons b (RdA.set i r a)
/-- x[i] = v, x an own list -/
theorem lb_setitem {ω₁ ω₂ : List (Addr × PyData)} {ρp : List (Str × PyData)} {a : Addr} {ds : List PyData} {d : PyData} {n : Int} {x : Str} {p sp pos : Pos} {i v : Expr} {rt : PyData → Prop} {bk : As} (hx : ν.lookup x = some (.ref a)) (hi : Ev c A env ρ i (.int n)) (h0 : 0 ≤ n) (h1 : n < ds.length) (h2 : n < 2 ^ 63)
    (hp : Lends c env σ ν ρ (ω₁ ++ (a, .list ds) :: ω₂) ρp) (hv : Ev c A env ρp v d) (hc : Cuts c env ν ρ (ω₁ ++ (a, .list ds) :: ω₂) d)
    (hs : swapsWith v (some (.Subscript (.Name x p) i sp)) pos.line env = pure false := by rfl) (hd : (x == ("__debug__" : Str)) = false := by decide) :
    XA1 c A env (LB c env σ ν ρ (ω₁ ++ (a, .list ds) :: ω₂)) (.Assign [.Subscript (.Name x p) i sp] v pos) ⟨LB c env σ ν ρ (ω₁ ++ (a, .list (ds.set n.toNat d)) :: ω₂), rt, bk⟩ := fun g₀ s₀ k g s Q E F hQ => by
  refine wpAny_Assign_Subscript (wp_lent F hp hv hc fun v₁ g₁ s₁ F₁ G₁ r₁ => ?_) hs
  refine wp_raw F₁.fo.frm hx (hi.tk g₁ s₁ _ _ F₁.fo.frm.bg F₁.fo.frm.st fun v₂ g₂ s₂ G₂ r₂ t₂ => ?_) hd
  have F₂ := F₁.step G₂ t₂
  obtain ⟨u₂, rfl⟩ := rdI r₂
  have o₀ := F₂.fo.own (a, .list ds) (by simp)
  have his := o₀.is
  generalize hpd : PyData.list ds = pd at his
  cases his with
  | @list vs ds' hpl hr =>
    cases hpd
    have hz := hr.length
    rw [Array.length_toList] at hz
    refine setItem_plain hpl h0 h2 (by lia) fun h' hl' hs' => ?_
    have F₃ := F₂.grab.write (tk := s₂.toks) hs'.extBut t₂ (.list hl' (by rw [Array.toList_setIfInBounds]; exact RdA.set _ hr (r₁.mono G₂.gg)))
    exact hQ.1 g₂ _ (F₂.ungrab F₃)
  | dict => cases hpd
/-- m[i].append(e), m a list of own lists -/
theorem lb_append_at {ω₁ ω₂ : List (Addr × PyData)} {am a : Addr} {om : Obj} {rs : Array Value} {zm : Nat} {ds : List PyData} {d : PyData} {n : Int} {x : Str} {p ap cp ep sp : Pos} {i e : Expr} {pl : Sem Bool} {rt : PyData → Prop} {bk : As} (hx : ν.lookup x = some (.ref am)) (hm : ∀ {g o}, σ.p g o → g.get? am = some om) (hmc : om.cls = .type "list") (hmd : om.data = .seq rs zm)
    (hi : Ev c A env ρ i (.int n)) (h0 : 0 ≤ n) (h2 : n < 2 ^ 63) (hn : rs[n.toNat]? = some (.ref a)) (h : Ev c A env ρ e d) (hl : ds.length ≤ 2 ^ 20)
    (hin : interactive env = false := by rfl) (hs : swapsWith (.Call (.Attribute (.Subscript (.Name x p) i sp) "append" ap) [e] [] cp) none ep.line env = pure false := by rfl)
    (he : eval (.Call (.Attribute (.Subscript (.Name x p) i sp) "append" ap) [e] [] cp) env = (do
      let ov ← eval (.Subscript (.Name x p) i sp) env
      standAt ap.atName
      let (f, first) ← holding [ov] (getMethod ov "append" pl)
      callWith cp f first (backTo cp (starEach [e] env)) []) := by rfl)
    (he2 : starEach [e] env = (false, eval e env) :: starEach [] env := by rfl) (hd : (x == ("__debug__" : Str)) = false := by decide)
    (hsub : ∀ o j, subscripted i false o j = operate [o, j] (getItem o j) := by intro _ _; with_unfolding_all rfl) :
    XA1 c A env (LB c env σ ν ρ (ω₁ ++ (a, .list ds) :: ω₂)) (.Expr (.Call (.Attribute (.Subscript (.Name x p) i sp) "append" ap) [e] [] cp) ep) ⟨LB c env σ ν ρ (ω₁ ++ (a, .list (ds ++ [d])) :: ω₂), rt, bk⟩ := fun g₀ s₀ k g s Q E F hQ => by
  refine wpAny_Expr_any ?_ hin hs
  refine MethodCall_ (pl := pl) (Subscript_ (wp_raw F.fo.frm hx (hi.tk g s _ _ F.fo.frm.bg F.fo.frm.st fun v₂ g₂ s₂ G₂ r₂ t₂ => ?_) hd)) he
  have F₂ := F.step G₂ t₂
  obtain ⟨u₂, rfl⟩ := rdI r₂
  obtain ⟨oT, _, pT⟩ := F₂.at_
  have hom := F₂.fo.frm.gs _ _ (hm pT)
  have hlm : s₂.heap.IsList am rs := ⟨om, hom, hmc, zm, hmd⟩
  refine tail_any hlm.typeIs slot_list_getitem.lookup ?_ (hsub _ _)
  refine wpAny_getItem_list hlm h0 h2 hn ?_
  have o₀ := F₂.fo.own (a, .list ds) (by simp)
  have his := o₀.is
  generalize hpd : PyData.list ds = pd at his
  cases his with
  | @list vs ds' hpl hr =>
    cases hpd
    obtain ⟨z, hob⟩ := id hpl
    refine Calls.getMethod_list_append hob rfl rfl ?_
    refine callWith_method1 ?_ he2 rfl
    refine (evs_cons h evs_nil he2).tk cp g₂ s₂ _ _ F₂.fo.frm.bg F₂.fo.frm.st fun vs₂ g₃ s₃ G₃ r₃ t₃ => ?_
    have zq := rdC r₃; clear r₃; obtain ⟨_, _, rfl, r₃, r'⟩ := zq
    first | (obtain ⟨_, rfl⟩ := rdI r') | (obtain ⟨_, rfl⟩ := rdS r') | (obtain rfl := rdN r') | cases r'
    have F₃ := F₂.step G₃ t₃
    have hz := hr.length
    rw [Array.length_toList] at hz
    refine wpAny_list_append_plain (hpl.at fun o e => G₃.ss _ _ e) (fun h' hl' hs' => ?_) (by have : sizeLine = 2 ^ 24 := rfl; lia)
    have F₄ := F₃.grab.write (tk := s₃.toks) hs'.extBut t₃ (.list hl' (by rw [Array.toList_push]; exact (hr.mono G₃.gg).append (.cons r₃ .nil)))
    exact hQ.1 g₃ _ (F₃.ungrab F₄)
  | dict => cases hpd
end
end Mine
end
/-! ## E18 -/
section
open PySem PySem.W PySem.Calls PyProof.Rows
set_option maxHeartbeats 1000000
set_option maxRecDepth 100000
namespace Mine
/-- a list of new empty lists in the making -/
structure NL (g₁ sB : Heap) (s : Shared) (I C D : Addr) (Sx : Nat → Heap → Prop) (i : Nat) (ls : List Addr) (s' : Shared) : Prop where
  rest : ∃ h' tk, s' = { s with heap := h', toks := tk }
  gs : g₁.StaysIn s'.heap
  ss : sB.StaysIn s'.heap
  tk : 1 ≤ s'.toks
  it : Sx i s'.heap
  ns : ∃ m, s'.heap.Ns C m
  acc : s'.heap.PlainList D (ls.map Value.ref).toArray
  own : ∀ a ∈ ls, s'.heap.PlainList a #[] ∧ sB.get? a = none ∧ g₁.get? a = none ∧ a ≠ I ∧ a ≠ C ∧ a ≠ D
  nd : ls.Nodup
theorem NL.at {g₁ sB : Heap} {s : Shared} {I C D b : Addr} {Sx : Nat → Heap → Prop} {i j : Nat} {ls : List Addr} {s' : Shared} {h₁ : Heap} {tk : Nat} (H : NL g₁ sB s I C D Sx i ls s') (he : Heap.ExtBut b s'.heap h₁) (gb : g₁.get? b = none) (sb : sB.get? b = none) (hb : b = I ∨ b = C)
    (it : Sx j h₁) (ns : ∃ m, h₁.Ns C m) (hD : D ≠ b) (ht : 1 ≤ tk) : NL g₁ sB s I C D Sx j ls { s' with heap := h₁, toks := tk } := by
  refine ⟨?_, fun a o e => he a o (fun z => by subst z; rw [gb] at e; cases e) (H.gs a o e), fun a o e => he a o (fun z => by subst z; rw [sb] at e; cases e) (H.ss a o e), ht, it, ns, H.acc.extBut he hD, fun a ha => ?_, H.nd⟩
  · obtain ⟨h', t', rfl⟩ := H.rest
    exact ⟨_, _, rfl⟩
  · obtain ⟨o1, o2, o3, o4, o5, o6⟩ := H.own a ha
    exact ⟨o1.extBut he (by rcases hb with rfl | rfl <;> assumption), o2, o3, o4, o5, o6⟩
theorem lists_loop {c : Cx} {A : Around} {env : Env} {scope : Scope} {cl : List (Str × Addr)} {tgt iter : Expr} {lp pos : Pos} {ds : List PyData} {I C D : Addr} {g₁ : Heap} {Sx : Nat → Heap → Prop} {sB s : Shared} {R : Result → Shared → Prop} {ρx : Nat → List (Str × PyData)}
    (W : Itr c A I ds g₁ Sx) (gI : g₁.get? I = none) (gC : g₁.get? C = none) (hIB : sB.heap.get? I = none) (hCB : sB.heap.get? C = none) (gD : g₁.get? D = none) (hDB : sB.heap.get? D = none)
    (hIC : I ≠ C) (hID : I ≠ D) (hCD : C ≠ D) (hsz : ds.length ≤ sizeLine) (hb : ∀ i d, ds[i]? = some d → BdC c A (compEnvC scope cl C env) tgt d (ρx i)) (h0 : NL g₁ sB.heap s I C D Sx 0 [] s)
    (hR : ∀ ls h' tk, ls.length = ds.length → NL g₁ sB.heap s I C D (fun _ _ => True) 0 ls { s with heap := h', toks := tk } → R (.ok .next) { s with heap := h', toks := tk }) :
    codeAny (model c.prog c.w) A (.compLoop (.ListComp (.List [] lp) [⟨tgt, iter, [], 0⟩] scope pos) 0 (.ref I) (.ref D) (compEnvC scope cl C env)) R s := by
  refine compLoop_own (fun n s' => ∃ i ls, i + n = ds.length + 1 ∧ i ≤ ds.length ∧ ls.length = i ∧ NL g₁ sB.heap s I C D Sx i ls s') ?_ (ds.length + 1) ⟨0, [], by lia, by lia, rfl, h0⟩
  rintro n s' ⟨i, ls, hn, hi, hlen, H⟩
  rcases Nat.lt_or_ge i ds.length with hlt | hge
  · have hd : ds[i]? = some ds[i] := List.getElem?_eq_getElem hlt
    refine wpAny_with_toks H.tk (W.item i _ s' _ _ hd H.it H.gs fun v h₁ tk rv hSx he₁ ht₁ => ?_)
    obtain ⟨m, hm⟩ := H.ns
    have H₁ := H.at he₁ gI hIB (.inl rfl) hSx ⟨m, hm.extBut he₁ (Ne.symm hIC)⟩ (Ne.symm hID) ht₁
    refine W.letgo _ _ _ _ _ _ hSx ?_
    obtain ⟨m₁, hm₁⟩ := H₁.ns
    refine wpAny_with_toks H₁.tk (hb i _ hd g₁ _ m₁ v _ _ hm₁ gC H₁.gs rv fun h₂ tk₂ m₂ hn₂ he₂ hρ ht₂ => ?_)
    have H₂ := H₁.at (s' := { s' with heap := h₁, toks := tk }) he₂ gC hCB (.inr rfl) (W.frame _ _ _ hSx fun o e => he₂ I o hIC e) ⟨m₂, hn₂⟩ (Ne.symm hCD) ht₂
    rw [List.forIn_nil]
    refine wpAny_pure ?_
    rw [if_pos rfl]
    refine wpAny_List (wpAny_pure ⟨by show 0 ≤ sizeLine; decide, ?_⟩)
    have hnew := none_at_size h₂
    have hoN : (h₂.push { cls := .type "list", data := .seq ([] : List Value).toArray }).get? h₂.objs.size = some { cls := .type "list", data := .seq #[] } := Heap.get?_push_size _ rfl
    have up := push_stays h₂ { cls := .type "list", data := .seq ([] : List Value).toArray }
    obtain ⟨oI, hoI⟩ := W.there _ _ H₂.it
    obtain ⟨oC, _, _, hoC, _⟩ := (show h₂.Ns C m₂ from hn₂)
    obtain ⟨zD, hoD⟩ := id H₂.acc
    have n1 : h₂.objs.size ≠ I := fun z => by rw [z, hoI] at hnew; cases hnew
    have n2 : h₂.objs.size ≠ C := fun z => by rw [z, hoC] at hnew; cases hnew
    have n3 : h₂.objs.size ≠ D := fun z => by rw [z, hoD] at hnew; cases hnew
    refine wpAny_list_append_plain (hsz := by simp; lia) (H₂.acc.at fun o e => up _ _ e) fun h₅ hl₅ hs₅ => ⟨n - 1, by lia, i + 1, ls ++ [h₂.objs.size], by lia, by lia, by simp [hlen], ?_⟩
    have stay : ∀ a o, a ≠ D → h₂.get? a = some o → h₅.get? a = some o := fun a o ha e => hs₅.extBut a o ha (up a o e)
    refine ⟨?_, fun a o e => stay a o (fun z => by subst z; rw [gD] at e; cases e) (H₂.gs a o e), fun a o e => stay a o (fun z => by subst z; rw [hDB] at e; cases e) (H₂.ss a o e), ht₂, W.frame _ _ _ H₂.it fun o e => stay I o hID e, ⟨m₂, (hn₂.keeps up).extBut hs₅.extBut hCD⟩, by rw [List.map_append]; simpa using hl₅, fun a ha => ?_, ?_⟩
    · obtain ⟨h', t', rfl⟩ := H.rest
      exact ⟨_, _, rfl⟩
    · rcases List.mem_append.mp ha with ha | ha
      · obtain ⟨⟨z, o1⟩, o2, o3, o4, o5, o6⟩ := H₂.own a ha
        exact ⟨⟨z, stay a _ o6 o1⟩, o2, o3, o4, o5, o6⟩
      · rw [List.mem_singleton] at ha
        subst ha
        exact ⟨⟨_, hs₅.extBut _ _ n3 hoN⟩, none_of_stays H₂.ss hnew, none_of_stays H₂.gs hnew, n1, n2, n3⟩
    · rw [List.nodup_append]
      refine ⟨H₂.nd, by simp, fun a ha b hb z => ?_⟩
      rw [List.mem_singleton] at hb
      subst hb z
      obtain ⟨⟨_, o1⟩, _⟩ := H₂.own _ ha
      rw [hnew] at o1; cases o1
  · refine wpAny_with_toks H.tk (W.done i s' _ _ hge H.it H.gs fun h' tk he htk => ?_)
    obtain ⟨m, hm⟩ := H.ns
    have H₁ : NL g₁ sB.heap s I C D (fun _ _ => True) 0 ls { s' with heap := h', toks := tk } := by
      refine NL.at (i := i) ⟨H.rest, H.gs, H.ss, H.tk, trivial, H.ns, H.acc, H.own, H.nd⟩ he gI hIB (.inl rfl) trivial ⟨m, hm.extBut he (Ne.symm hIC)⟩ (Ne.symm hID) htk
    obtain ⟨h₁, t₁, rfl⟩ := H.rest
    exact hR ls h' tk (by lia) H₁
section
variable {c : Cx} {A : Around} {env : Env} {σ : Sd} {ν ν' : List (Str × Value)} {ρ ρ' : List (Str × PyData)} {ω ω' : List (Addr × PyData)}
theorem wp_lists {g₀ : Heap} {s₀ : Shared} {k g : Heap} {s : Shared} {scope : Scope} {cl : List (Str × Addr)} {tgt iter : Expr} {lp pos : Pos} {ds : List PyData} {ρx : Nat → List (Str × PyData)} {Q E : Value → Shared → Prop} (F : LB c env σ ν ρ ω g₀ s₀ k g s)
    (hit : It c A env ρ iter ds) (hclos : closureFor scope env = pure cl) (hkind : scope.kind = .function) (hcell : ∀ y ∈ scope.names, y.2 ≠ .cell) (hnames : ∀ y ∈ scope.names, y.2 = .local → scope.names.lookup y.1 = some .local)
    (hb : ∀ C i d, ds[i]? = some d → BdC c A (compEnvC scope cl C env) tgt d (ρx i)) (hsz : ds.length ≤ sizeLine) (hs : ∀ x, foldedSetIterable iter env x = pure x)
    (hQ : ∀ (ls : List Addr) am g' s' z, ls.length = ds.length → LB c env σ ν ρ (ls.map (fun a => (a, PyData.list [])) ++ ω) g₀ s₀ k g' s' → g'.get? am = some { cls := .type "list", data := .seq (ls.map Value.ref).toArray z } → Q (.ref am) s') :
    wpAny (model c.prog c.w) A (eval (.ListComp (.List [] lp) [⟨tgt, iter, [], 0⟩] scope pos) env) Q E s := by
  rw [eval_ListComp]
  refine wpAny_comprehension_free (use := none) rfl hs hclos hkind hnames (hit.tk g s _ _ F.fo.frm.bg F.fo.frm.st fun I Sx g₁ s₁ G W hSx hgI hIB ht => ?_)
  refine wpAny_newObj_type (wpAny_newFunctionEnv hcell (by intro y hy; simp at hy) (fun h₁ hns₁ hsb₁ => ?_) hkind)
  dsimp only at hns₁ hsb₁ ⊢
  generalize hH2 : s₁.heap.push { cls := .type "list", dict := none, data := .seq ([] : List Value).toArray } = H2 at hns₁ hsb₁ ⊢
  have hC : H2.objs.size = s₁.heap.objs.size + 1 := by rw [← hH2, Heap.size_push]
  have hDC : s₁.heap.objs.size ≠ H2.objs.size := by rw [hC]; exact Nat.ne_of_lt (Nat.lt_succ_self _)
  have old : ∀ b o, s₁.heap.get? b = some o → h₁.get? b = some o := fun b o e => hsb₁.extBut b o (Nat.ne_of_lt (by rw [hC]; exact Nat.lt_succ_of_lt (Heap.lt_size e))) (Heap.get?_push_of_some _ (hH2 ▸ Heap.get?_push_of_some _ e))
  have noD : s₁.heap.get? s₁.heap.objs.size = none := none_at_size _
  have noC : s₁.heap.get? H2.objs.size = none := by
    cases e : s₁.heap.get? H2.objs.size with
    | none => rfl
    | some o => have := Heap.lt_size e; rw [hC] at this; exact absurd this (Nat.not_lt.mpr (Nat.le_succ _))
  obtain ⟨oI, hoI⟩ := W.there 0 _ hSx
  have hIlt := Heap.lt_size hoI
  have hIC : I ≠ H2.objs.size := by rw [hC]; exact Nat.ne_of_lt (Nat.lt_succ_of_lt hIlt)
  have hID : I ≠ s₁.heap.objs.size := Nat.ne_of_lt hIlt
  have hl : h₁.PlainList s₁.heap.objs.size #[] := ⟨_, hsb₁.extBut _ _ hDC (Heap.get?_push_of_some _ (hH2 ▸ Heap.get?_push_size _ rfl))⟩
  have gC := none_of_stays G.gs noC
  have gD := none_of_stays G.gs noD
  have sC := none_of_stays G.ss noC
  have sD := none_of_stays G.ss noD
  generalize H2.objs.size = C at *
  generalize s₁.heap.objs.size = D at *
  have loop : codeAny (model c.prog c.w) A (.compLoop (.ListComp (.List [] lp) [⟨tgt, iter, [], 0⟩] scope pos) 0 (.ref I) (.ref D) (compEnvC scope cl C env))
        (compPost (model c.prog c.w) A E none Q (.ref D) C) { s₁ with heap := h₁, toks := s₁.toks + ([] : List (Str × Value)).length } := by
    refine lists_loop (g₁ := g₁) (sB := s) W hgI gC hIB sC gD sD hIC hID (Ne.symm hDC) hsz (fun i d e => hb C i d e) ⟨⟨_, _, rfl⟩, stays_trans G.gs old, stays_trans G.ss old, Nat.le_trans ht (Nat.le_add_right _ _), W.frame _ _ _ hSx fun o e => old _ _ e, ⟨_, hns₁⟩, hl, fun _ h => (nomatch h), List.nodup_nil⟩ fun ls h' tk hlen H => ?_
    obtain ⟨m, hm⟩ := H.ns
    refine ⟨m, hm, fun h'' hs'' => ?_⟩
    have he := hs''.extBut
    have up : g₁.StaysIn h'' := fun a o e => he a o (fun z => by subst z; rw [gC] at e; cases e) (H.gs a o e)
    obtain ⟨nD, hoD⟩ := H.acc
    have hoD' := he D _ hDC hoD
    have gg : g₁.StaysIn (addk g₁ h'' D) := addk_stays up
    have ss : s.heap.StaysIn h'' := fun a o e => he a o (fun z => by subst z; rw [sC] at e; cases e) (H.ss a o e)
    have G' : Gr g s (addk g₁ h'' D) { s₁ with heap := h'', toks := tk } := by
      refine ⟨stays_trans G.gg gg, fun a o e => (only_get.mp e).2, ss, fun a o e => ?_, ?_⟩
      · rcases (addk_get up).mp e with z | ⟨rfl, _⟩
        · exact G.fr a o z
        · exact .inr sD
      · obtain ⟨h₂, t₂, rfl⟩ := G.rest
        exact ⟨_, _, rfl⟩
    have F' := F.step G' H.tk
    refine hQ ls D _ _ nD hlen ⟨⟨F'.fo.frm, fun p hp => ?_, ?_⟩, F'.z, F'.kT, F'.gT, fun p hp => ?_, F'.l, F'.c, F'.at_⟩ ((addk_get up).mpr (.inr ⟨rfl, hoD'⟩))
    · rcases List.mem_append.mp hp with hp | hp
      · obtain ⟨a, ha, rfl⟩ := List.mem_map.mp hp
        obtain ⟨⟨z, o1⟩, o2, o3, o4, o5, o6⟩ := H.own a ha
        obtain ⟨a1, a2, a3, a4, a5⟩ := F.fo.frm.apart o2
        exact ⟨a4, addk_none up o3 o6, a5, a1, a2, .list ⟨z, he a _ o5 o1⟩ .nil⟩
      · exact F'.fo.own p hp
    · rw [List.map_append, List.nodup_append]
      refine ⟨by rw [List.map_map]; simpa [Function.comp_def, List.map_id'] using H.nd, F'.fo.dis, fun a ha b hb z => ?_⟩
      subst z
      obtain ⟨p, hp, e1⟩ := List.mem_map.mp ha
      obtain ⟨a', ha', e2⟩ := List.mem_map.mp hp
      subst e1 e2
      obtain ⟨q, hq, e⟩ := List.mem_map.mp hb
      obtain ⟨x, hx⟩ := (F.fo.own q hq).there
      obtain ⟨_, o2, _⟩ := H.own a' ha'
      rw [e] at hx
      rw [o2] at hx; cases hx
    · rcases List.mem_append.mp hp with hp | hp
      · obtain ⟨a, ha, rfl⟩ := List.mem_map.mp hp
        obtain ⟨_, o2, _⟩ := H.own a ha
        intro z
        obtain ⟨o, e, _⟩ := F.at_
        rw [show a = σ.T from z] at o2
        rw [e] at o2; cases o2
      · exact F'.w p hp
  exact codeAny_compStart_list loop (W.self 0 _ _ _ (W.frame _ _ _ hSx fun o e => old _ _ e) loop)
end
end Mine
end
/-! ## E19 -/
section
open PySem PySem.W PySem.Calls PyProof.Rows
set_option maxHeartbeats 1000000
set_option maxRecDepth 100000
namespace Mine
/-- the tree of the sort's questions, answered -/
noncomputable def runT {α : Type} (β : Nat → Nat → Bool) : KasT α → α
  | .ret a => a
  | .ask i j k => runT β (k (β i j))
noncomputable def okT {α : Type} (n : Nat) : KasT α → Bool
  | .ret _ => true
  | .ask i j k => decide (i < n) && decide (j < n) && okT n (k true) && okT n (k false)
theorem kas_pure {α : Type} {β : Nat → Nat → Bool} {n : Nat} {cmp : Nat → Nat → (Bool → Shared → Prop) → Shared → Prop} {s : Shared} (hc : ∀ i < n, ∀ j < n, ∀ C, C (β i j) s → cmp i j C s) {Q : α → Shared → Prop} : ∀ (t : KasT α), okT n t = true → Q (runT β t) s → t.kasWp cmp Q s
  | .ret a, _, h => h
  | .ask i j k, ho, h => by
    unfold okT at ho
    simp only [Bool.and_eq_true, decide_eq_true_eq] at ho
    refine hc i ho.1.1.1 j ho.1.1.2 _ (kas_pure hc (k (β i j)) ?_ h)
    cases β i j with
    | true => exact ho.1.2
    | false => exact ho.2
noncomputable def sortIx (n : Nat) (β : Nat → Nat → Bool) : List Nat := if n < 2 then List.range n else (runT β (kas_sort n)).toList
noncomputable def lexlt (p q : Int × Int) : Bool := if p.1 = q.1 then decide (p.2 < q.2) else decide (p.1 < q.1)
noncomputable def keyOf (p : Int × Int) : PyData := .tuple [.int p.1, .int p.2]
theorem rd_key {g : Heap} {v : Value} {p : Int × Int} (r : Rd g v (keyOf p)) : ∃ a o vs n t u, v = .ref a ∧ g.get? a = some o ∧ o.cls = .type "tuple" ∧ o.data = .seq vs n ∧ vs = #[.int p.1 t, .int p.2 u] := by
  unfold keyOf at r
  have zq := r; clear r; refine rdT zq fun a o vs n ev e hc hd r => ?_
  subst ev
  obtain ⟨vs⟩ := vs
  simp only at r
  have zq := rdC r; clear r; obtain ⟨_, _, rfl, r₁, r⟩ := zq
  have zq := rdC r; clear r; obtain ⟨_, _, rfl, r₂, r⟩ := zq
  first | (obtain ⟨_, rfl⟩ := rdI r) | (obtain ⟨_, rfl⟩ := rdS r) | (obtain rfl := rdN r) | cases r
  obtain ⟨_, rfl⟩ := rdI r₁
  obtain ⟨_, rfl⟩ := rdI r₂
  exact ⟨a, o, _, n, _, _, rfl, e, hc, hd, rfl⟩
theorem key_lt {c : Cx} {A : Around} {g : Heap} {s : Shared} {v w : Value} {p q : Int × Int} {C : Bool → Shared → Prop} {E : Value → Shared → Prop} (k : g.StaysIn s.heap) (r₁ : Rd g v (keyOf p)) (r₂ : Rd g w (keyOf q)) (h : C (lexlt p q) s) : wpAny (model c.prog c.w) A (keyLt' (tuples' true) v w) C E s := by
  obtain ⟨a, o, vs, n, t, u, rfl, e, hc, hd, rfl⟩ := rd_key r₁
  obtain ⟨a', o', vs', n', t', u', rfl, e', hc', hd', rfl⟩ := rd_key r₂
  unfold lexlt at h
  refine kat_lt (k _ _ e) hd (k _ _ e') hd' ?_
  show KatLex _ _ _ _ _ _ [(Value.int p.1 t, .int q.1 t'), (.int p.2 u, .int q.2 u')] 0 s
  refine kat_cons (wpAny_eqBool_int (kat_go (fun h1 => ?_) (fun h1 => ?_)))
  · have h1 : p.1 = q.1 := by simpa using h1
    rw [if_pos h1] at h
    refine kat_yes (kat_cons (wpAny_eqBool_int (kat_go (fun h2 => ?_) (fun h2 => ?_))))
    · have h2 : p.2 = q.2 := by simpa using h2
      refine kat_yes (kat_nil ?_)
      rw [h2] at h
      simpa using h
    · refine kat_no ?_
      exact kat_one _ _ (lt_int (show C (decide (p.2 < q.2)) s from h))
  · have h1 : p.1 ≠ q.1 := by simpa using h1
    rw [if_neg h1] at h
    exact kat_no (oneLt_int h)
theorem key_tups {g : Heap} {s : Shared} (k : g.StaysIn s.heap) : ∀ {vs : List Value} {ps : List (Int × Int)}, RdA g vs (ps.map keyOf) → ∃ fs, KatTups s.heap vs fs ∧ fs.length = ps.length ∧ ∀ v ∈ fs, ∃ i t, v = .int i t
  | _, [], .nil => ⟨[], .nil, rfl, fun _ h => (nomatch h)⟩
  | _, p :: ps, .cons r rr => by
    obtain ⟨a, o, vs, n, t, u, rfl, e, hc, hd, rfl⟩ := rd_key r
    obtain ⟨fs, h1, h2, h3⟩ := key_tups k rr
    refine ⟨.int p.1 t :: fs, .cons (k _ _ e) hc hd rfl h1, by simp [h2], fun v hv => ?_⟩
    rcases List.mem_cons.mp hv with rfl | hv
    · exact ⟨_, _, rfl⟩
    · exact h3 v hv
theorem key_kind {c : Cx} {A : Around} {g : Heap} {s : Shared} {vs : List Value} {ps : List (Int × Int)} {Q : SortKind → Shared → Prop} {E : Value → Shared → Prop} (k : g.StaysIn s.heap) (r : RdA g vs (ps.map keyOf)) (h0 : 0 < ps.length) (h : Q (tuples' true) s) : wpAny (model c.prog c.w) A (keyKind' (List.toArray vs)) Q E s := by
  obtain ⟨fs, h1, h2, h3⟩ := key_tups k r
  refine kat_kind (T := .type "int") h1 (by lia) (fun v hv => ?_) rfl h
  obtain ⟨i, t, rfl⟩ := h3 v hv
  exact Looks.of_pure rfl
/-- while the keys are made -/
structure SK (g : Heap) (s : Shared) (D kS e1 : Nat) (ks : List Value) (ds : List PyData) (g' : Heap) (s' : Shared) : Prop where
  rest : ∃ h' tk, s' = { s with heap := h', toks := tk }
  gg : g.StaysIn g'
  gs : g'.StaysIn s'.heap
  fr : ∀ a o, g'.get? a = some o → g.get? a = some o ∨ s.heap.get? a = none
  ss : s.heap.StaysIn s'.heap
  hD : s'.heap.get? D = some (seqObj "list" #[] e1)
  hK : ∃ e, s'.heap.get? kS = some (seqObj "list" (List.toArray ks) e)
  sD : s.heap.get? D = none
  sK : s.heap.get? kS = none
  gD : g'.get? D = none
  gK : g'.get? kS = none
  ne : D ≠ kS
  tk : 1 ≤ s'.toks
  rd : RdA g' ks ds
theorem SK.step {g : Heap} {s : Shared} {D kS e1 : Nat} {ks : List Value} {ds : List PyData} {g' g'' : Heap} {s' s'' : Shared} (H : SK g s D kS e1 ks ds g' s') (G : Gr g' s' g'' s'') (t : 1 ≤ s''.toks) : SK g s D kS e1 ks ds g'' s'' := by
  have old : ∀ a, g'.get? a = none → (∃ o, s'.heap.get? a = some o) → g''.get? a = none := fun a e ⟨o, ho⟩ => by
    cases q : g''.get? a with
    | none => rfl
    | some o' =>
      rcases G.fr a o' q with z | z
      · rw [e] at z; cases z
      · rw [ho] at z; cases z
  obtain ⟨e, hK⟩ := H.hK
  refine ⟨?_, stays_trans H.gg G.gg, G.gs, fun a o e => ?_, stays_trans H.ss G.ss, G.ss _ _ H.hD, ⟨e, G.ss _ _ hK⟩, H.sD, H.sK, old _ H.gD ⟨_, H.hD⟩, old _ H.gK ⟨_, hK⟩, H.ne, t, H.rd.mono G.gg⟩
  · obtain ⟨h₁, t₁, rfl⟩ := H.rest
    obtain ⟨h₂, t₂, rfl⟩ := G.rest
    exact ⟨_, _, rfl⟩
  · rcases G.fr a o e with z | z
    · exact H.fr a o z
    · exact .inr (none_of_stays H.ss z)
theorem SK.push {g : Heap} {s : Shared} {D kS e1 : Nat} {ks : List Value} {ds : List PyData} {g' : Heap} {s' : Shared} {k : Value} {d : PyData} (H : SK g s D kS e1 ks ds g' s') (r : Rd g' k d) : SK g s D kS e1 (ks ++ [k]) (ds ++ [d]) g' { s' with heap := s'.heap.update kS (Obj.mapSeq (·.push k)) } := by
  obtain ⟨e, hK⟩ := H.hK
  have s1 := Heap.SameBut.update s'.heap kS (Obj.mapSeq (·.push k))
  have he := s1.extBut
  have ea : (List.toArray ks).push k = List.toArray (ks ++ [k]) := by simp
  refine ⟨?_, H.gg, fun a o q => he a o (fun z => by subst z; rw [H.gK] at q; cases q) (H.gs a o q), H.fr, fun a o q => he a o (fun z => by subst z; rw [H.sK] at q; cases q) (H.ss a o q), he _ _ H.ne H.hD, ⟨_, by rw [← ea]; exact get?_update_seq hK (·.push k)⟩, H.sD, H.sK, H.gD, H.gK, H.ne, H.tk, H.rd.append (.cons r .nil)⟩
  obtain ⟨h₁, t₁, rfl⟩ := H.rest
  exact ⟨_, _, rfl⟩
theorem rda_getD {g : Heap} : ∀ {vs : List Value} {ds : List PyData} (i : Nat), RdA g vs ds → Rd g (vs.getD i .none) (ds.getD i .none)
  | _, _, i, .nil => by simpa using Rd.none
  | _, _, 0, .cons r _ => by simpa using r
  | _, _, i + 1, .cons _ r => by simpa using rda_getD i r
theorem rda_map {g : Heap} {vs : List Value} {ds : List PyData} (r : RdA g vs ds) : ∀ l : List Nat, RdA g (l.map fun i => vs.getD i .none) (l.map fun i => ds.getD i .none)
  | [] => .nil
  | i :: l => .cons (rda_getD i r) (rda_map r l)
theorem one_pair : ∀ {vs ks : List Value} {n : Nat}, vs.length = n → ks.length = vs.length → vs.length < 2 → (((List.toArray ks).toList.zip vs).map (·.2)) = (List.range n).map fun i => vs.getD i Value.none
  | [], [], _, e, _, _ => by subst e; rfl
  | [v], [k], _, e, _, _ => by subst e; rfl
  | [], _ :: _, _, _, h, _ => by simp at h
  | [_], [], _, _, h, _ => by simp at h
  | [_], _ :: _ :: _, _, _, h, _ => by simp at h
  | _ :: _ :: _, _, _, _, _, h => by simp at h; lia
section
variable {c : Cx} {A : Around} {g : Heap} {s : Shared} {l f : Addr} {vs : List Value} {ds : List PyData} {ps : List (Int × Int)}
noncomputable def betaOf (ps : List (Int × Int)) (i j : Nat) : Bool := lexlt (ps.getD i (0, 0)) (ps.getD j (0, 0))
theorem sk_tail {D kS e1 : Nat} {ks : List Value} {kd : List PyData} {g' : Heap} {s' : Shared} {st : SortSt} {ls : List Nat} {P : PySem.Fin → Shared → Prop} {E : Value → Shared → Prop} (H : SK g s D kS e1 ks kd g' s') (r : RdA g vs ds) (hout : (arrOf st).map (·.2) = List.toArray (ls.map fun i => vs.getD i .none)) (hf : failedOf st = none) (hz : ls.length < 64) (hk : ks.length < 64)
    (hQ : ∀ g₂ s₂, Gr g s g₂ s₂ → 1 ≤ s₂.toks → Rd g₂ (.ref D) (.list (ls.map fun i => ds.getD i .none)) → P (.done (.ret .none)) s₂) : wpAny (model c.prog c.w) A (ksk_tail D false e1 (.ref kS) st) P E s' := by
  obtain ⟨e, hK⟩ := H.hK
  have s1 := Heap.SameBut.update s'.heap kS (Obj.mapSeq fun _ => (#[] : Array Value))
  have hD1 := s1.extBut _ _ H.ne H.hD
  have s2 := Heap.SameBut.update (s'.heap.update kS (Obj.mapSeq fun _ => (#[] : Array Value))) D (Obj.mapSeq fun _ => List.toArray (ls.map fun i => vs.getD i Value.none))
  obtain ⟨c2, hc2⟩ : ∃ c2, ((s'.heap.update kS (Obj.mapSeq fun _ => (#[] : Array Value))).update D (Obj.mapSeq fun _ => List.toArray (ls.map fun i => vs.getD i Value.none))).get? D = some (seqObj "list" (List.toArray (ls.map fun i => vs.getD i Value.none)) c2) := ⟨_, get?_update_seq hD1 fun _ => List.toArray (ls.map fun i => vs.getD i Value.none)⟩
  unfold ksk_tail
  try dsimp only
  rw [hout]
  refine wpAny_bind (listUpdate_at hK rfl ?_ (by rw [List.size_toArray, sizeLine_eq]; lia) (Nat.zero_le _))
  refine wpAny_bind (wpAny_letGo ?_)
  refine wpAny_bind (seqEpoch_at hD1 rfl ?_)
  refine wpAny_bind (listUpdate_at hD1 rfl ?_ (Nat.zero_le _) (by simp [sizeLine_eq]; lia))
  rw [hf]
  simp only [bne_self_eq_false, Bool.false_eq_true, if_false]
  have up : ∀ a o, a ≠ D → a ≠ kS → s'.heap.get? a = some o → ((s'.heap.update kS (Obj.mapSeq fun _ => (#[] : Array Value))).update D (Obj.mapSeq fun _ => List.toArray (ls.map fun i => vs.getD i Value.none))).get? a = some o := fun a o n1 n2 q => s2.extBut a o n1 (s1.extBut a o n2 q)
  have gsF : g'.StaysIn ((s'.heap.update kS (Obj.mapSeq fun _ => (#[] : Array Value))).update D (Obj.mapSeq fun _ => List.toArray (ls.map fun i => vs.getD i Value.none))) := fun a o q => up a o (fun z => by subst z; rw [H.gD] at q; cases q) (fun z => by subst z; rw [H.gK] at q; cases q) (H.gs a o q)
  have gg := addk_stays (b := D) gsF
  refine wpAny_pure (hQ (addk g' _ D) _ ⟨stays_trans H.gg gg, fun a o q => (only_get.mp q).2, fun a o q => up a o (fun z => by subst z; rw [H.sD] at q; cases q) (fun z => by subst z; rw [H.sK] at q; cases q) (H.ss a o q), fun a o q => ?_, ?_⟩ H.tk (.list ((addk_get gsF).mpr (.inr ⟨rfl, hc2⟩)) rfl rfl rfl (rda_map (r.mono (stays_trans H.gg gg)) ls)))
  · rcases (addk_get gsF).mp q with z | ⟨rfl, _⟩
    · exact H.fr a o z
    · exact .inr H.sD
  · obtain ⟨h₁, t₁, rfl⟩ := H.rest
    exact ⟨_, _, rfl⟩
theorem sk_end {D kS e1 : Nat} {ks : List Value} {g' : Heap} {s' : Shared} {P : PySem.Fin → Shared → Prop} {E : Value → Shared → Prop} (H : SK g s D kS e1 ks (ps.map keyOf) g' s') (r : RdA g vs ds) (hl : ps.length = ds.length) (h64 : ds.length < 64) (hok : okT ds.length (kas_sort ds.length) = true)
    (hQ : ∀ g₂ s₂, Gr g s g₂ s₂ → 1 ≤ s₂.toks → Rd g₂ (.ref D) (.list ((sortIx ds.length (betaOf ps)).map fun i => ds.getD i .none)) → P (.done (.ret .none)) s₂) : wpAny (model c.prog c.w) A (ksk_end D false vs.toArray e1 (.ref kS) (List.toArray ks)) P E s' := by
  have hv := r.length
  have hkl : ks.length = vs.length := by have := H.rd.length; rw [List.length_map] at this; lia
  unfold ksk_end
  try dsimp only
  by_cases h2 : vs.toArray.size < 2
  · rw [if_pos h2, if_pos h2]
    rw [List.size_toArray] at h2
    refine wpAny_bind (wpAny_pure ?_)
    rw [StateT.run_pure]
    refine wpAny_bind (wpAny_pure ?_)
    try dsimp only
    refine sk_tail (ls := List.range ds.length) H r ?_ rfl (by simpa using h64) (by lia) (by
      have e : sortIx ds.length (betaOf ps) = List.range ds.length := by unfold sortIx; rw [if_pos (by lia)]
      rw [e] at hQ
      exact hQ)
    apply Array.toList_inj.mp
    show ((((List.toArray ks).zip vs.toArray).map (·.2))).toList = _
    rw [Array.toList_map, ksk_zip]
    exact one_pair (by lia) hkl h2
  · rw [if_neg h2, if_neg h2]
    rw [List.size_toArray] at h2
    refine wpAny_bind (key_kind H.gs H.rd (by lia) ?_)
    have hn : vs.length = ds.length := by lia
    have run : (kas_sort vs.length).kasWp (kas_ask c.prog c.w A (tuples' true) ks) (fun p s'' => p = runT (betaOf ps) (kas_sort ds.length) ∧ s'' = s') s' := by
      rw [hn]
      refine kas_pure (n := ds.length) (β := betaOf ps) (fun i hi j hj C hC => ?_) _ hok ⟨rfl, rfl⟩
      have rk : ∀ i, i < ds.length → Rd g' (ks.getD i .none) (keyOf (ps.getD i (0, 0))) := fun i hi => by
        have := rda_getD i H.rd
        have e : (ps.map keyOf).getD i .none = keyOf (ps.getD i (0, 0)) := by
          rw [List.getD_eq_getElem?_getD, List.getD_eq_getElem?_getD, List.getElem?_map, List.getElem?_eq_getElem (by lia)]
          rfl
        rw [e] at this
        exact this
      exact key_lt H.gs (rk i hi) (rk j hj) hC
    refine wpAny_bind (wpAny_mono (kat_run (Q := fun st' s'' => ∃ p : Array Nat, arrOf st' = p.map (kas_item ((List.toArray ks).zip vs.toArray)) ∧ failedOf st' = none ∧ p.size = vs.length ∧ p = runT (betaOf ps) (kas_sort ds.length) ∧ s'' = s')
      hkl (by lia) (by lia) (fun p st' s'' a1 a2 a3 a4 => ⟨p, a2, a3, a1, a4⟩) run) ?_ fun _ _ x => x)
    rintro ⟨⟨⟩, st'⟩ s'' ⟨p, har, hf, hps, hp, rfl⟩
    try dsimp only
    refine sk_tail (ls := p.toList) H r (kat_snds hkl har) hf (by rw [Array.length_toList]; lia) (by lia) (by
      have e : sortIx ds.length (betaOf ps) = p.toList := by unfold sortIx; rw [if_neg (by lia), hp]
      rw [e] at hQ
      exact hQ)
end
end Mine
end
/-! ## E20 -/
section
open PySem PySem.W PySem.Calls PyProof.Rows
set_option maxHeartbeats 1000000
set_option maxRecDepth 100000
namespace Mine
section
variable {c : Cx} {A : Around} {g : Heap} {s : Shared} {f : Addr} {vs : List Value} {ds : List PyData} {ps : List (Int × Int)}
/-- the key function, called upon the items -/
noncomputable def KeyFn (c : Cx) (A : Around) (b g : Heap) (f : Addr) (ds : List PyData) (ps : List (Int × Int)) : Prop :=
  ∀ (i : Nat) (d : PyData) (p : Int × Int), ds[i]? = some d → ps[i]? = some p → ∀ g₁ s₁ v (Q E : Value → Shared → Prop), b.StaysIn s₁.heap → g.StaysIn g₁ → g₁.StaysIn s₁.heap → 1 ≤ s₁.toks → Rd g₁ v d →
    (∀ v' g₂ s₂, Gr g₁ s₁ g₂ s₂ → 1 ≤ s₂.toks → Rd g₂ v' (keyOf p) → Q v' s₂) → wpAny (model c.prog c.w) A (call (.ref f) [v]) Q E s₁
theorem sk_rest {D kS e1 : Nat} {s' : Shared} {P : PySem.Fin → Shared → Prop} {E : Value → Shared → Prop} (H : SK g s D kS e1 [] [] g s') (r : RdA g vs ds) (hl : ps.length = ds.length) (h64 : ds.length < 64) (hok : okT ds.length (kas_sort ds.length) = true) (hf : KeyFn c A s.heap g f ds ps)
    (hQ : ∀ g₂ s₂, Gr g s g₂ s₂ → 1 ≤ s₂.toks → Rd g₂ (.ref D) (.list ((sortIx ds.length (betaOf ps)).map fun i => ds.getD i .none)) → P (.done (.ret .none)) s₂) : wpAny (model c.prog c.w) A (ksk_rest D (.ref f) false vs.toArray e1 (.ref kS)) P E s' := by
  have hv := r.length
  unfold ksk_rest
  refine wpAny_bind (wpAny_rule ?_)
  first
    | rw [List.forIn_toArray]
    | (rw [← Array.forIn_toList]; simp only [List.toList_toArray])
    | rw [← Array.forIn_toList]
  refine wpAny_bind (ksk_fold (fun i s₁ => ∃ g₁ ks, SK g s D kS e1 ks ((ps.take i).map keyOf) g₁ s₁) vs 0 s' ⟨g, [], H⟩ ?step ?done)
  case step =>
    rintro j x s₁ hx ⟨g₁, ks, H₁⟩
    simp only [Nat.zero_add] at H₁ ⊢
    have hj : j < vs.length := (List.getElem?_eq_some_iff.mp hx).1
    obtain ⟨d, hd, rd⟩ := r.get' hx
    obtain ⟨p, hp⟩ : ∃ p, ps[j]? = some p := ⟨_, List.getElem?_eq_getElem (by lia)⟩
    refine wpAny_bind (wpAny_attempt (hf j d p hd hp g₁ s₁ x _ _ H₁.ss H₁.gg H₁.gs H₁.tk (rd.mono H₁.gg) fun v' g₂ s₂ G₂ t₂ r₂ => ?_))
    have H₂ := H₁.step G₂ t₂
    obtain ⟨e, hK⟩ := H₂.hK
    have hkz := H₂.rd.length
    have ht : ((ps.take j).map keyOf).length ≤ j := by rw [List.length_map, List.length_take]; lia
    try dsimp only
    refine wpAny_bind (listUpdate_at hK rfl ?_ (by rw [List.size_toArray, sizeLine_eq]; lia) (Nat.le_trans (Nat.le_of_eq (Array.size_push ..)) (by rw [List.size_toArray, sizeLine_eq]; lia)))
    refine wpAny_pure ⟨rfl, g₂, ks ++ [v'], ?_⟩
    have e : (ps.take (j + 1)).map keyOf = (ps.take j).map keyOf ++ [keyOf p] := by rw [List.take_add_one, hp]; simp
    rw [e]
    exact H₂.push r₂
  case done =>
    rintro s₁ ⟨g₁, ks, H₁⟩
    have e : ps.take (0 + vs.length) = ps := List.take_of_length_le (by lia)
    rw [e] at H₁
    obtain ⟨ee, hK⟩ := H₁.hK
    try dsimp only
    refine wpAny_bind (listItems_at hK rfl ?_)
    exact sk_end H₁ r hl h64 hok hQ
theorem sk_tree {D n : Nat} {s' : Shared} {P : PySem.Fin → Shared → Prop} {E : Value → Shared → Prop} (gs : g.StaysIn s'.heap) (ss : s.heap.StaysIn s'.heap) (hs : ∃ h' tk, s' = { s with heap := h', toks := tk }) (tk : 1 ≤ s'.toks) (ho : s'.heap.get? D = some (seqObj "list" vs.toArray n)) (sD : s.heap.get? D = none) (gD : g.get? D = none)
    (r : RdA g vs ds) (hl : ps.length = ds.length) (h64 : ds.length < 64) (hok : okT ds.length (kas_sort ds.length) = true) (hf : KeyFn c A s.heap g f ds ps)
    (hQ : ∀ g₂ s₂, Gr g s g₂ s₂ → 1 ≤ s₂.toks → Rd g₂ (.ref D) (.list ((sortIx ds.length (betaOf ps)).map fun i => ds.getD i .none)) → P (.done (.ret .none)) s₂) : wpAny (model c.prog c.w) A (ksk_tree D (.ref f) false) P E s' := by
  have hv := r.length
  have ha : D < s'.heap.objs.size := Heap.lt_size ho
  have s1 := Heap.SameBut.update s'.heap D (Obj.mapSeq fun _ => (#[] : Array Value))
  obtain ⟨e1, ho1⟩ : ∃ e1, (s'.heap.update D (Obj.mapSeq fun _ => (#[] : Array Value))).get? D = some (seqObj "list" #[] e1) := ⟨_, get?_update_seq ho fun _ => #[]⟩
  have he := s1.extBut
  have hkS : ((s'.heap.update D (Obj.mapSeq fun _ => (#[] : Array Value))).push (seqObj "tuple" vs.toArray 0)).objs.size = s'.heap.objs.size + 1 := by rw [size_push', Heap.size_update]
  unfold ksk_tree
  refine wpAny_bind (listItems_at ho rfl ?_)
  refine wpAny_bind (listUpdate_at ho rfl ?_ (by rw [List.size_toArray, sizeLine_eq]; lia) (Nat.zero_le _))
  refine wpAny_bind (seqEpoch_at ho1 rfl ?_)
  refine wpAny_bind (wpAny_newTuple ?_ (by show vs.length ≤ _; rw [sizeLine_eq]; lia))
  refine wpAny_bind (wpAny_newList ?_ (Nat.zero_le _))
  refine wpAny_holding ?_
  have up : ∀ a o, a ≠ D → s'.heap.get? a = some o → (((s'.heap.update D (Obj.mapSeq fun _ => (#[] : Array Value))).push (seqObj "tuple" vs.toArray 0)).push (seqObj "list" #[] 0)).get? a = some o := fun a o n q => Heap.get?_push_of_some _ (Heap.get?_push_of_some _ (he a o n q))
  have noS : ∀ {h : Heap}, h.StaysIn s'.heap → h.get? (s'.heap.objs.size + 1) = none := fun {h} k => by
    cases q : h.get? (s'.heap.objs.size + 1) with
    | none => rfl
    | some o => exact absurd (Heap.lt_size (k _ _ q)) (Nat.not_lt.mpr (Nat.le_succ _))
  refine sk_rest (s' := { s' with heap := ((s'.heap.update D (Obj.mapSeq fun _ => (#[] : Array Value))).push (seqObj "tuple" vs.toArray 0)).push (seqObj "list" #[] 0) }) (kS := ((s'.heap.update D (Obj.mapSeq fun _ => (#[] : Array Value))).push (seqObj "tuple" vs.toArray 0)).objs.size) (e1 := e1) ?_ r hl h64 hok hf hQ
  refine ⟨?_, stays_refl _, fun a o q => up a o (fun z => by subst z; rw [gD] at q; cases q) (gs a o q), fun a o q => .inl q, fun a o q => up a o (fun z => by subst z; rw [sD] at q; cases q) (ss a o q), Heap.get?_push_of_some _ (Heap.get?_push_of_some _ ho1), ⟨0, Heap.get?_push_size _ rfl⟩, sD, ?_, gD, ?_, ?_, tk, .nil⟩
  · obtain ⟨h', t', rfl⟩ := hs
    exact ⟨_, _, rfl⟩
  · rw [hkS]; exact noS ss
  · rw [hkS]; exact noS gs
  · rw [hkS]; exact Nat.ne_of_lt (Nat.lt_succ_of_lt ha)
theorem srt_key {l : Addr} {o : Obj} {n : Nat} {Q E : Value → Shared → Prop} (gs : g.StaysIn s.heap) (tk : 1 ≤ s.toks) (ho : g.get? l = some o) (hc : o.cls = .type "list") (hd : o.data = .seq vs.toArray n) (r : RdA g vs ds) (hl : ps.length = ds.length) (h64 : ds.length < 64) (hok : okT ds.length (kas_sort ds.length) = true) (hf : KeyFn c A.in1.in1 s.heap g f ds ps)
    (hQ : ∀ D g₂ s₂, Gr g s g₂ s₂ → 1 ≤ s₂.toks → Rd g₂ (.ref D) (.list ((sortIx ds.length (betaOf ps)).map fun i => ds.getD i .none)) → Q (.ref D) s₂) : wpAny (model c.prog c.w) A (call (.builtin "sorted") [.ref l] [(Str.ofString "key", .ref f)]) Q E s := by
  have hv := r.length
  refine call_function_entry_kw kind_sorted plain_sorted entry_sorted (ksk_s1 _ _) ?_
  unfold Builtin.«sorted»
  refine wpAny_bind (m := checkCount "sorted" 1 1 _) (wpAny_pure ?_)
  refine wpAny_bind (collect_list (vs := vs) (isList_of gs ho hc hd) ?_ (by rw [sizeLine_eq]; lia))
  refine wpAny_bind (wpAny_newList ?_ (by rw [sizeLine_eq]; lia))
  have hsz : ((s.heap.push (seqObj "list" #[] 0)).update s.heap.objs.size (Obj.mapSeq (· ++ vs.toArray))).objs.size = s.heap.objs.size + 1 := by
    rw [Heap.size_update, size_push']
  have hoL : (((s.heap.push (seqObj "list" #[] 0)).update s.heap.objs.size (Obj.mapSeq (· ++ vs.toArray))).push (seqObj "list" vs.toArray 0)).get? (s.heap.objs.size + 1) = some (seqObj "list" vs.toArray 0) := by
    rw [← hsz]; exact Heap.get?_push_size _ rfl
  have keep : ∀ b o, s.heap.get? b = some o → (((s.heap.push (seqObj "list" #[] 0)).update s.heap.objs.size (Obj.mapSeq (· ++ vs.toArray))).push (seqObj "list" vs.toArray 0)).get? b = some o := fun b o q => by
    have hlt : b < s.heap.objs.size := Heap.lt_size q
    rw [Heap.get?_push_ne _ _ _ (by rw [hsz]; exact Nat.ne_of_lt (Nat.lt_succ_of_lt hlt)), Heap.get?_update_ne _ _ _ _ (Nat.ne_of_lt hlt), Heap.get?_push_ne _ _ _ (Nat.ne_of_lt hlt)]
    exact q
  have noS : ∀ {h : Heap}, h.StaysIn s.heap → h.get? (s.heap.objs.size + 1) = none := fun {h} k => by
    cases q : h.get? (s.heap.objs.size + 1) with
    | none => rfl
    | some o => exact absurd (Heap.lt_size (k _ _ q)) (Nat.not_lt.mpr (Nat.le_succ _))
  show wpAny _ _ _ _ _ { s with heap := ((s.heap.push (seqObj "list" #[] 0)).update s.heap.objs.size (Obj.mapSeq (· ++ vs.toArray))).push (seqObj "list" vs.toArray 0) }
  rw [hsz]
  refine wpAny_bind (wpAny_holding (wpAny_call_entry_kw slot_list_sort ⟨_, hoL, rfl⟩ entry_list_sort ?body (ksk_l1 _ _)))
  case body =>
    show wpAny (model c.prog c.w) A.in1.in1 (Builtin.«list.sort» ⟨[.ref (s.heap.objs.size + 1)], [(Str.ofString "key", .ref f)]⟩) _ _ _
    rw [ksk_t1]
    exact sk_tree (s' := { s with heap := ((s.heap.push (seqObj "list" #[] 0)).update s.heap.objs.size (Obj.mapSeq (· ++ vs.toArray))).push (seqObj "list" vs.toArray 0) }) (s := s) (stays_trans gs keep) keep ⟨_, _, rfl⟩ tk hoL (noS (stays_refl _)) (noS gs) r hl h64 hok hf fun g₂ s₂ G₂ t₂ r₂ => ⟨_, rfl, wpAny_pure ⟨_, rfl, hQ _ g₂ s₂ G₂ t₂ r₂⟩⟩
end
end Mine
end
/-! ## E21 -/
section
open PySem PySem.W PySem.Calls PyProof.Rows
set_option maxHeartbeats 1000000
set_option maxRecDepth 100000
namespace Mine
/-- a function of one name that is an expression, called -/
theorem key_lam {c : Cx} {A : Around} {b g : Heap} {f c' : Addr} {ds : List PyData} {ps : List (Int × Int)} {qual name : Str} {params : Arguments} {body : Expr} {scope : Scope} {clos : List (Str × Addr)} {pm ctv : Value} {x : Str} {ρf : List (Str × PyData)}
    (hob : g.get? f = some (kla_obj name qual params body scope clos pm c' ctv)) (hcd : g.CodeRec (.ref c') qual) (hbind : ∀ v, bindArgs (kla_fn name qual params body scope clos pm (.ref c') ctv) ⟨[v], []⟩ = pure [(x, v)])
    (hx : scope.names.lookup x = some .local) (hcell : ∀ y ∈ scope.names, y.2 ≠ .cell) (hco : scope.isCoroutine = false) (hgen : scope.isGenerator = false) (hk : scope.kind = .function) (hg : c.g0.StaysIn g) (lim : c.g0.NoLimit)
    (hfree : ∀ y d, ρf.lookup y = some d → y ≠ x ∧ scope.names.lookup y = some .free ∧ (y == ("__classdict__" : Str)) = false ∧ ∃ ca v, clos.lookup y = some ca ∧ b.IsCell ca (some v) ∧ Rd g v d)
    (hev : ∀ (i : Nat) (d : PyData) (p : Int × Int), ds[i]? = some d → ps[i]? = some p → ∀ L', Ev c (A.deeper (envX qual scope L' f (.ref c') clos)) (envX qual scope L' f (.ref c') clos) ((x, d) :: ρf) body (keyOf p))
    (hroom : A.depth < recursionLimit) : KeyFn c A b g f ds ps := by
  intro i d p hd hp g₁ s₁ v Q E hb hgg hgs ht rv hQ
  refine wpAny_call (kla_callFunE hroom (hgs _ _ (hgg _ _ hob)) rfl hco hgen rfl (hcd.keeps (stays_trans hgg hgs)) ?_)
  rw [hbind]
  refine wpAny_pure (wpAny_newFunctionEnv hcell (fun y hy => by rw [List.mem_singleton] at hy; subst hy; exact hx) (fun h₁ hns hsb => ⟨(lim.keeps (stays_trans hg (stays_trans hgg hgs))).fresh _ hsb, ?_⟩) hk)
  show codeAny _ _ (.expr body (envX qual scope s₁.heap.objs.size f (.ref c') clos)) _ _
  have hk₁ : s₁.heap.StaysIn h₁ := fun b o e => hsb.extBut b o (Nat.ne_of_lt (Heap.lt_size e)) (Heap.get?_push_of_some _ e)
  refine kla_codeExpr ?_
  have S : St (envX qual scope s₁.heap.objs.size f (.ref c') clos) ((x, d) :: ρf) g₁ { s₁ with heap := h₁, toks := s₁.toks + [(x, v)].length } := by
    refine ⟨hk, rfl, rfl, stays_trans hgs hk₁, Nat.le_trans ht (Nat.le_add_right _ _), fun y e he => ?_⟩
    rw [List.lookup_cons] at he
    by_cases hy : y = x
    · subst hy
      simp at he
      subst he
      exact ⟨v, .inl ⟨hx, _, hns, by simp⟩, rv⟩
    · rw [beq_eq_false_iff_ne.mpr hy] at he
      obtain ⟨_, h2, h3, ca, u, h4, h5, h6⟩ := hfree y e he
      refine ⟨u, .inr ⟨.inr ⟨h2, h3⟩, ca, h4, ?_⟩, h6.mono hgg⟩
      obtain ⟨o, ho, r⟩ := h5
      exact ⟨o, hk₁ _ _ (hb _ _ ho), r⟩
  refine (hev i d p hd hp _).tk g₁ _ _ _ (stays_trans hg hgg) S fun v' g₂ s₂ G₂ r₂ t₂ => ?_
  have G₁ : Gr g₁ s₁ g₁ { s₁ with heap := h₁, toks := s₁.toks + [(x, v)].length } := ⟨stays_refl _, stays_trans hgs hk₁, hk₁, fun _ _ e => .inl e, _, _, rfl⟩
  exact hQ v' g₂ s₂ (G₁.trans G₂) t₂ r₂
section
variable {c : Cx} {A : Around} {env : Env} {σ : Sd} {ν ν' : List (Str × Value)} {ρ ρ' : List (Str × PyData)} {ω ω' : List (Addr × PyData)}
/-- the side's object is written, and new objects are made -/
theorem LB.side {g₀ : Heap} {s₀ : Shared} {k g g' : Heap} {s : Shared} {h' : Heap} {tk : Nat} (F : LB c env σ ν ρ ω g₀ s₀ k g s) (gg : g.StaysIn g') (gs : g'.StaysIn h') (fr : ∀ a o, g'.get? a = some o → g.get? a = some o ∨ s.heap.get? a = none)
    (hk : Heap.ExtBut σ.T s.heap h') (hT : ∃ o, h'.get? σ.T = some o ∧ σ.p g' o) (ht : 1 ≤ tk) : LB c env σ ν ρ ω g₀ s₀ k g' { s with heap := h', toks := tk } := by
  have gn : ∀ {a}, g.get? a = none → (∃ o, s.heap.get? a = some o) → g'.get? a = none := fun {a} e ⟨o, ho⟩ => by
    cases q : g'.get? a with
    | none => rfl
    | some o' =>
      rcases fr a o' q with z | z
      · rw [e] at z; cases z
      · rw [ho] at z; cases z
  obtain ⟨m, cm, I, q1, q2⟩ := F.fo.frm.fre
  have ne' : ∀ {hp : Heap} {a o}, hp.get? a = some o → hp.get? σ.T = none → a ≠ σ.T := fun e e' z => by rw [z, e'] at e; cases e
  obtain ⟨oT, eT, pT⟩ := F.at_
  obtain ⟨oL, _, _, hoL, _⟩ := id I.toInCall.ns
  refine ⟨⟨⟨F.fo.frm.fn, F.fo.frm.gl, F.fo.frm.bl, F.fo.frm.base, stays_trans F.fo.frm.gg gg, gs, fun a o e => ?_, gn F.fo.frm.noL ⟨_, hoL⟩, fun a o e => hk a o (ne' e F.kT) (F.fo.frm.ks a o e), F.fo.frm.kL, F.fo.frm.kC, fun n a e => ?_, fun a => ?_, ht, m, cm, ⟨⟨?_, I.toInCall.ns.extBut hk F.l, fun a o e => hk a o (ne' e F.z) (I.toInCall.keep a o e), I.toInCall.fresh⟩, fun n a e => ?_, I.apart, I.above⟩, q1, fun x d e => let ⟨v, r, z⟩ := q2 x d e; ⟨v, r.mono gg, z⟩⟩, fun p hp => ?_, F.fo.dis⟩, F.z, F.kT, gn F.gT ⟨_, eT⟩, F.w, F.l, F.c, hT⟩
  · rcases fr a o e with z | z
    · exact F.fo.frm.fr a o z
    · exact .inr (none_of_stays (fun b o e => I.toInCall.keep b o e) z)
  · obtain ⟨o, ho, _⟩ := I.cell n a e
    exact gn (F.fo.frm.noC n a e) ⟨o, ho⟩
  · cases q : k.get? a with
    | none => exact .inr rfl
    | some o => exact .inl (gn ((F.fo.frm.gk a).resolve_right (by rw [q]; exact fun z => nomatch z)) ⟨o, F.fo.frm.ks a o q⟩)
  · obtain ⟨h₁, t₁, e⟩ := I.toInCall.same
    exact ⟨h', tk, by rw [e]⟩
  · obtain ⟨o, ho, r⟩ := I.cell n a e
    exact ⟨o, hk _ _ (F.c n a e) ho, r⟩
  · have o := F.fo.own p hp
    obtain ⟨x, hx⟩ := o.there
    exact ⟨o.kn, gn o.gn ⟨x, hx⟩, o.zn, o.Ln, o.Cn, o.is.at gg fun x e => hk _ _ (F.w p hp) e⟩
end
/-- what law's code table holds: nothing, or the one lambda's code -/
noncomputable def TabOk (line col : Nat) (qual : Str) (g : Heap) (o : Obj) : Prop := o = tabObj #[] ∨ ∃ c', o = tabObj #[rawInt line, rawInt col, .ref c'] ∧ g.CodeRec (.ref c') qual
noncomputable def sdT (line col : Nat) (qual : Str) (Φ : Heap → Prop) (hΦ : ∀ {g g' : Heap}, g.StaysIn g' → Φ g → Φ g') : Sd := ⟨269, fun g o => TabOk line col qual g o ∧ Φ g, fun {g g' o} k h => ⟨h.1.imp id fun ⟨c', e, r⟩ => ⟨c', e, r.keeps k⟩, hΦ k h.2⟩⟩
/-- what is told of law's own code -/
structure Lk (c : Cx) : Prop where
  top : ∃ mg, c.g0.Ns mainGlobals mg ∧ c.g0.BuiltinsAt mg 269
  cd : CodeHd c.g0 271 269
section
variable {c : Cx} {A : Around} {env : Env} {ν ν' : List (Str × Value)} {ρ ρ' : List (Str × PyData)} {ω ω' : List (Addr × PyData)} {Φ : Heap → Prop} {hΦ : ∀ {g g' : Heap}, g.StaysIn g' → Φ g → Φ g'}
theorem wp_lambda {pos : Pos} {g₀ : Heap} {s₀ : Shared} {k g : Heap} {s : Shared} {params : Arguments} {body : Expr} {scope : Scope} {clos : List (Str × Addr)} {Q E : Value → Shared → Prop} (K : Lk c) (F : LB c env (sdT pos.line pos.col (env.qual ++ "<lambda>") Φ hΦ) ν ρ ω g₀ s₀ k g s)
    (hcode : env.code = .ref 271) (hdef : defaultsOf params env = ([], [])) (hcl : closureFor scope env = pure clos)
    (hQ : ∀ f g' s' c' pm ctv, LB c env (sdT pos.line pos.col (env.qual ++ "<lambda>") Φ hΦ) ν ρ ω g₀ s₀ k g' s' → g.StaysIn g' → g'.get? f = some (kla_obj "<lambda>" (env.qual ++ "<lambda>") params body scope clos pm c' ctv) → g'.CodeRec (.ref c') (env.qual ++ "<lambda>") → Q (.ref f) s') :
    wpAny (model c.prog c.w) A (eval (.Lambda params body scope pos) env) Q E s := by
  refine kla_eval hdef ?_
  obtain ⟨mg, hmg, hba⟩ := K.top
  have st : c.g0.StaysIn s.heap := stays_trans F.fo.frm.bg F.fo.frm.gs
  obtain ⟨bm, ob, b1, b2, b3, b4, b5, b6⟩ := hba
  have hba' : s.heap.BuiltinsAt mg 269 := ⟨bm, ob, b1, b2, b3, b4, st _ _ b5, b6⟩
  obtain ⟨oT, eT, hT, hφ⟩ := F.at_
  have eT : s.heap.get? 269 = some oT := eT
  rcases hT with rfl | ⟨c', rfl, hrec⟩
  · refine wpAny_with_toks F.fo.frm.tk (kla_makeFunction (mg := mg) hcl F.fo.frm.gl (hmg.keeps st) hcode (K.cd.keeps st) eT trivial rfl (by decide) hba' fun c' ctv h' tk hx hge hlt hrec htb ht => ?_)
    obtain ⟨c₂, oc, vs, t, e2, hoc, hd, hv⟩ := hrec
    cases e2
    have hx' : Heap.ExtBut 269 s.heap (h'.push (kla_obj "<lambda>" (env.qual ++ "<lambda>") params body scope clos ((mg "__name__").getD .none) c' ctv)) := fun b o n e => Heap.get?_push_of_some _ (hx b o n e)
    have hof : (h'.push (kla_obj "<lambda>" (env.qual ++ "<lambda>") params body scope clos ((mg "__name__").getD .none) c' ctv)).get? h'.objs.size = some _ := Heap.get?_push_size _ rfl
    have gs' : g.StaysIn (h'.push (kla_obj "<lambda>" (env.qual ++ "<lambda>") params body scope clos ((mg "__name__").getD .none) c' ctv)) := fun a o e => hx' a o (fun z => by have := F.gT; rw [show (sdT pos.line pos.col (env.qual ++ "<lambda>") Φ hΦ).T = a from z.symm, e] at this; cases this) (F.fo.frm.gs a o e)
    have noC : s.heap.get? c' = none := by
      cases q : s.heap.get? c' with
      | none => rfl
      | some o => exact absurd (Heap.lt_size q) (Nat.not_lt.mpr hge)
    have noF : s.heap.get? h'.objs.size = none := by
      cases q : s.heap.get? h'.objs.size with
      | none => rfl
      | some o => exact absurd (Heap.lt_size q) (Nat.not_lt.mpr (Nat.le_of_lt (Nat.lt_of_le_of_lt hge hlt)))
    generalize hH : h'.push (kla_obj "<lambda>" (env.qual ++ "<lambda>") params body scope clos ((mg "__name__").getD .none) c' ctv) = H at *
    have hoc' : H.get? c' = some oc := by rw [← hH]; exact Heap.get?_push_of_some _ hoc
    have htb' : H.get? 269 = some (tabObj (#[] ++ #[rawInt pos.line, rawInt pos.col, .ref c'])) := by rw [← hH]; exact Heap.get?_push_of_some _ htb
    have k1 := addk_stays (b := c') gs'
    have gs1 : (addk g H c').StaysIn H := fun a o e => (only_get.mp e).2
    have k2 := addk_stays (b := h'.objs.size) gs1
    have gs2 : (addk (addk g H c') H h'.objs.size).StaysIn H := fun a o e => (only_get.mp e).2
    have cr : (addk (addk g H c') H h'.objs.size).CodeRec (.ref c') (env.qual ++ "<lambda>") := ⟨c', oc, vs, t, rfl, k2 _ _ ((addk_get gs').mpr (.inr ⟨rfl, hoc'⟩)), hd, hv⟩
    refine hQ h'.objs.size (addk (addk g H c') H h'.objs.size) _ c' _ ctv (F.side (h' := H) (tk := tk) (stays_trans k1 k2) gs2 (fun a o e => ?_) hx' ⟨_, htb', .inr ⟨c', rfl, cr⟩, hΦ (stays_trans k1 k2) hφ⟩ ht) (stays_trans k1 k2) ((addk_get gs1).mpr (.inr ⟨rfl, hof⟩)) cr
    rcases (addk_get gs1).mp e with z | ⟨rfl, _⟩
    · rcases (addk_get gs').mp z with z | ⟨rfl, _⟩
      · exact .inl z
      · exact .inr noC
    · exact .inr noF
  · refine wpAny_with_toks F.fo.frm.tk (kla_makeFunctionHit (mg := mg) (cv := .ref c') hcl F.fo.frm.gl (hmg.keeps st) hcode (K.cd.keeps st) eT trivial (codeAmong_snoc (pos := pos) (c := .ref c') [] trivial rfl) hba' fun ctv h' tk hx hge ht => ?_)
    have hof : (h'.push (kla_obj "<lambda>" (env.qual ++ "<lambda>") params body scope clos ((mg "__name__").getD .none) c' ctv)).get? h'.objs.size = some _ := Heap.get?_push_size _ rfl
    have up : s.heap.StaysIn (h'.push (kla_obj "<lambda>" (env.qual ++ "<lambda>") params body scope clos ((mg "__name__").getD .none) c' ctv)) := fun a o e => Heap.get?_push_of_some _ (hx a o e)
    have noF : s.heap.get? h'.objs.size = none := by
      cases q : s.heap.get? h'.objs.size with
      | none => rfl
      | some o => exact absurd (Heap.lt_size q) (Nat.not_lt.mpr hge)
    have hof' := hof
    generalize hH : h'.push (kla_obj "<lambda>" (env.qual ++ "<lambda>") params body scope clos ((mg "__name__").getD .none) c' ctv) = H at up hof
    have gs' : g.StaysIn H := stays_trans F.fo.frm.gs up
    have k1 := addk_stays (b := h'.objs.size) gs'
    have G : Gr g s (addk g H h'.objs.size) { s with heap := H, toks := tk } := ⟨k1, fun a o e => (only_get.mp e).2, up, fun a o e => by
      rcases (addk_get gs').mp e with z | ⟨rfl, _⟩
      · exact .inl z
      · exact .inr noF, _, _, rfl⟩
    exact hQ h'.objs.size (addk g H h'.objs.size) _ c' _ ctv (F.step G ht) k1 ((addk_get gs').mpr (.inr ⟨rfl, hof⟩)) (hrec.keeps k1)
end
end Mine
end
/-! ## E22 -/
section
open PySem PySem.W PySem.Calls PyProof.Rows
set_option maxHeartbeats 1000000
set_option maxRecDepth 100000
namespace Mine
section
variable {c : Cx} {A : Around} {env : Env} {ν ν' : List (Str × Value)} {ρ ρ' : List (Str × PyData)} {ω ω' : List (Addr × PyData)} {Φ : Heap → Prop} {hΦ : ∀ {g g' : Heap}, g.StaysIn g' → Φ g → Φ g'}
theorem lb_order {y z x : Str} {yp zp sp kp lpos cpos pos : Pos} {params : Arguments} {body : Expr} {scope : Scope} {clos : List (Str × Addr)} {ds : List PyData} {ps : List (Int × Int)} {ρf : List (Str × PyData)} {n0 : Int} {ns : List Int} {rt : PyData → Prop} {bk : As} (K : Lk c) (lim : c.g0.NoLimit)
    (hsn : GN c (Str.ofString "sorted") (.builtin "sorted")) (hks : env.kindOf (Str.ofString "sorted") = some .globalImplicit) (hz : ρ.lookup z = some (.list ds)) (hcode : env.code = .ref 271) (hdef : defaultsOf params env = ([], [])) (hcl : closureFor scope env = pure clos)
    (hbind : ∀ qual pm c' ctv v, bindArgs (kla_fn "<lambda>" qual params body scope clos pm (.ref c') ctv) ⟨[v], []⟩ = pure [(x, v)]) (hx : scope.names.lookup x = some .local) (hcell : ∀ y ∈ scope.names, y.2 ≠ .cell) (hco : scope.isCoroutine = false) (hgen : scope.isGenerator = false) (hkind : scope.kind = .function)
    (hp : Lends c env (sdT lpos.line lpos.col (env.qual ++ "<lambda>") Φ hΦ) ν ρ ω ρf)
    (hfree : ∀ v d, ρf.lookup v = some d → v ≠ x ∧ scope.names.lookup v = some .free ∧ (v == ("__classdict__" : Str)) = false ∧ clos.lookup v = env.cells.lookup v ∧ env.kindOf v = some .cell)
    (hev : ∀ (i : Nat) (d : PyData) (p : Int × Int), ds[i]? = some d → ps[i]? = some p → ∀ A' qual L' f c', Ev c A' (envX qual scope L' f (.ref c') clos) ((x, d) :: ρf) body (keyOf p))
    (hl : ps.length = ds.length) (h64 : ds.length < 64) (hok : okT ds.length (kas_sort ds.length) = true) (hres : ((sortIx ds.length (betaOf ps)).map fun i => ds.getD i .none) = (n0 :: ns).map PyData.int) (hwl : Lists ω) (hwi : ∀ p ∈ ω, ∀ i r, p.2 ≠ .list (.int i :: r))
    (hy : Names env y) (hνy : ν.lookup y = none) (hroom : A.depth < recursionLimit)
    (hsw : swapsWith (.Call (.Name (Str.ofString "sorted") sp) [.Name z zp] [⟨some (Str.ofString "key"), .Lambda params body scope lpos, kp⟩] cpos) (some (.Name y yp)) pos.line env = pure false := by rfl)
    (hd : (z == ("__debug__" : Str)) = false := by decide) :
    XA1 c A env (LB c env (sdT lpos.line lpos.col (env.qual ++ "<lambda>") Φ hΦ) ν ρ ω) (.Assign [.Name y yp] (.Call (.Name (Str.ofString "sorted") sp) [.Name z zp] [⟨some (Str.ofString "key"), .Lambda params body scope lpos, kp⟩] cpos) pos) ⟨LB c env (sdT lpos.line lpos.col (env.qual ++ "<lambda>") Φ hΦ) ν (setρ ρ y (.list ((n0 :: ns).map PyData.int))) ω, rt, bk⟩ := fun g₀ s₀ k g s Q E F hQ => by
  refine wpAny_Assign_Name (wpAny_Call_Name_kw (name_GN hsn hks F.fo.frm.bg F.fo.frm.st ?_)) hsw
  refine callWith_kw ?_
  refine (evs_cons (ev_name hz hd) evs_nil).tk cpos g s _ _ F.fo.frm.bg F.fo.frm.st fun vs g₁ s₁ G₁ r₁ t₁ => ?_
  have F₁ := F.step G₁ t₁
  have zq := rdC r₁; clear r₁; obtain ⟨_, _, rfl, r₁, r'⟩ := zq
  first | (obtain ⟨_, rfl⟩ := rdI r') | (obtain ⟨_, rfl⟩ := rdS r') | (obtain rfl := rdN r') | cases r'
  refine kws_cons (wp_lambda K F₁ hcode hdef hcl fun f g₂ s₂ c' pm ctv F₂ gg hof hcr => kws_nil ?_)
  have r₂ := r₁.mono gg
  have zq := r₂; clear r₂; refine rdL zq fun l o va n ev e hc hdd hpl rr => ?_
  subst ev
  show wpAny _ A (call (.builtin "sorted") [.ref l] [(Str.ofString "key", .ref f)]) _ _ s₂
  have hg2 := lent_has (g := g₂) (h := s₂.heap) (ω := ω) F₂.fo.frm.gs
  have hKF : KeyFn c A.in1.in1 s₂.heap (lent g₂ s₂.heap ω) f ds ps := by
    refine key_lam (hg2 _ _ hof) (hcr.keeps hg2) (fun v => hbind _ _ _ _ v) hx hcell hco hgen hkind (stays_trans F₂.fo.frm.bg hg2) lim (ρf := ρf) (fun v d hv => ?_) (fun i d p h1 h2 L' => hev i d p h1 h2 _ _ _ _ _) (by show A.depth < recursionLimit; exact hroom)
    obtain ⟨f1, f2, f3, f4, f5⟩ := hfree v d hv
    obtain ⟨m, cm, I, hνs, hρs⟩ := F₂.fo.frm.fre
    refine ⟨f1, f2, f3, ?_⟩
    rcases hp F₂ v d hv with h | ⟨u, h, ru⟩
    · obtain ⟨u, ru, q⟩ := hρs v d h
      rcases q with ⟨q, _⟩ | ⟨_, ⟨a, ha⟩, q⟩
      · rw [f5] at q; cases q
      · exact ⟨a, u, f4.trans ha, q ▸ I.cell v a ha, ru.mono hg2⟩
    · rcases hνs v u h with ⟨q, _⟩ | ⟨_, ⟨a, ha⟩, q⟩
      · rw [f5] at q; cases q
      · exact ⟨a, u, f4.trans ha, q ▸ I.cell v a ha, ru⟩
  refine srt_key (vs := va.toList) (lent_stays _ _ _) F₂.fo.frm.tk (hg2 _ _ e) hc (by rw [Array.toArray_toList]; exact hdd) (rr.mono hg2) hl h64 hok hKF fun D g₃ s₃ G₃ t₃ r₃ => ?_
  obtain ⟨g₄, G₄, _, k'⟩ := F₂.fo.lent_back G₃
  have F₄ := F₂.step G₄ t₃
  rw [hres] at r₃
  have r₄ := cut_ints hwl hwi F₂.fo G₃ k' r₃
  exact wp_storeO F₄.grab r₄ hy hνy fun s' F' => hQ.1 g₄ s' (F₄.ungrab F')
end
end Mine
end
/-! ## E23 -/
section
open PySem PySem.W PySem.Calls PyProof.Rows
set_option maxHeartbeats 1000000
set_option maxRecDepth 100000
namespace Mine
section
variable {c : Cx} {A : Around} {env : Env} {σ : Sd} {ν ν' : List (Str × Value)} {ρ ρ' : List (Str × PyData)} {ω ω' : List (Addr × PyData)}
theorem lb_free (K : Ek c) (N : Nm c) {x y : Str} {fa ffa fn fe : Addr} {d m : Nat → Int} {rs : List PyData} {rowS : Nat → Str} {e₁ e₂ e₃ : Expr} {p yp cpos pos : Pos} {rt : PyData → Prop} {bk : As} (D : DF c x fa 30) (Da : DF c (Str.ofString "_law_asked") ffa 29) (Dn : DF c (Str.ofString "ne") fn 14) (De : DF c (Str.ofString "eq") fe 13)
    (hA : A.frames = some [env]) (hf : env.frame = some env.locals) (hk : env.kindOf x = some .globalImplicit) (hr : Rm 3 A) (ha : Evs c A env ρ [e₁, e₂, e₃] [dotsD d, dotsD m, .list rs])
    (hrs : ∀ j < 4, rs[j]? = some (.str (rowS j))) (hrl : 4 ≤ rs.length) (hrl' : rs.length ≤ 100) (hso : ∀ j < 4, PyData.strOk (rowS j) = true) (hy : Names env y) (hνy : ν.lookup y = none)
    (hsw : swapsWith (.Call (.Name x p) [e₁, e₂, e₃] [] cpos) (some (.Name y yp)) pos.line env = pure false := by rfl) (he : starEach [e₁, e₂, e₃] env = (false, eval e₁ env) :: starEach [e₂, e₃] env := by rfl) (hdb : (x == ("__debug__" : Str)) = false := by decide) :
    XA1 c A env (LB c env σ ν ρ ω) (.Assign [.Name y yp] (.Call (.Name x p) [e₁, e₂, e₃] [] cpos) pos) ⟨LB c env σ ν (setρ ρ y (.list (natsD (freeL d m)))) ω, rt, bk⟩ := fun g₀ s₀ k g s Q E F hQ => by
  obtain ⟨fd, Df, _⟩ := id D
  refine wpAny_Assign_Name (wp_call_def Df hk ha F.fo.frm.bg F.fo.frm.st (fun vs g₁ s₁ G₁ r₁ t₁ => ?_) he hdb) hsw
  have F₁ := F.step G₁ t₁
  obtain ⟨m', cm, I, _⟩ := id F₁.fo.frm.fre
  obtain ⟨oL, es, ep, hoL, hdL, _⟩ := id I.toInCall.ns
  refine w_free K N D Da Dn De hA hf (by rw [F₁.fo.frm.fn]; decide) hr F₁.fo.frm.bg F₁.fo.frm.gs t₁ r₁ hoL (fun vs z => by rw [hdL] at z; cases z) F₁.fo.frm.noL hrs hrl hrl' hso fun v g₂ h₂ tk₂ k1 k2 k3 k4 k5 k6 rv => ?_
  have F₂ := F₁.aside (tk := tk₂) hoL k1 k2 k3 k4 k5 k6
  exact wp_storeO F₂.grab rv hy hνy fun s' F' => hQ.1 g₂ s' (F₂.ungrab F')
end
end Mine
end
/-! ## C7 -/
section
open PySem PySem.W PySem.Calls PyProof.Rows
set_option maxRecDepth 100000
namespace Mine
noncomputable def dotT : Str := Str.ofString "."
/-- how many dots stand in the first i signs -/
noncomputable def cntV (x : Str) (i : Nat) : Int := ((x.cps.toList.take i).countP (· == 46) : Nat)
theorem cnt_succ {x : Str} {i ch : Nat} (h : x.cps[i]? = some ch) : cntV x (i + 1) = cntV x i + (if ch = 46 then 1 else 0) := by
  have h' : x.cps.toList[i]? = some ch := by rw [Array.getElem?_toList]; exact h
  unfold cntV
  rw [List.take_add_one, h', List.countP_append]
  by_cases e : ch = 46
  · subst e; simp
  · simp [e]
/-- the test of countOf -/
theorem wp_sign {c : Cx} {A : Around} {env : Env} {ρ ω} {g₀ : Heap} {s₀ : Shared} {k g : Heap} {s : Shared} {ch : Nat} {t' u : Tok} {a : Value} {p1 p2 p3 p4 p5 p6 p7 : Pos} {Q : Bool → Shared → Prop} {E : Value → Shared → Prop}
    (F : FO c env [(Str.ofString "i", .str ⟨#[ch]⟩ t'), (Str.ofString "a", a), (Str.ofString "b", .str dotT u)] ρ ω g₀ s₀ k g s) (hu : 1 ≤ u) (ht : u < t') (hA : A.units + 10 < cLine) (hb : NoneBooked c.g0) (hch : PyData.strOk ⟨#[ch]⟩ = true)
    (hQ : ∀ g' s', Gr g s g' s' → Q (decide (ch = 46)) s') :
    wpAny (model c.prog c.w) A (isTrue (.BoolOp .Or [.Compare (.Name (Str.ofString "i") p1) [.Is] [.Name (Str.ofString "b") p2] p3, .Compare (.Name (Str.ofString "i") p4) [.Eq] [.Name (Str.ofString "b") p5] p6] p7) env (eval (.BoolOp .Or [.Compare (.Name (Str.ofString "i") p1) [.Is] [.Name (Str.ofString "b") p2] p3, .Compare (.Name (Str.ofString "i") p4) [.Eq] [.Name (Str.ofString "b") p5] p6] p7) env)) Q E s := by
  have hcg : c.g0.StaysIn s.heap := stays_trans F.frm.bg F.frm.gs
  have h0 : (t' == 0 || u == 0) = false := by
    rw [Bool.or_eq_false_iff]
    exact ⟨beq_eq_false_iff_ne.mpr (Nat.ne_of_gt (Nat.lt_of_le_of_lt (Nat.zero_le _) ht)), beq_eq_false_iff_ne.mpr (Nat.ne_of_gt hu)⟩
  have huv : (t' == u) = false := beq_eq_false_iff_ne.mpr (Nat.ne_of_gt ht)
  have eqv : PyData.eqv (.str ⟨#[ch]⟩) (.str dotT) = decide (ch = 46) := by
    show ((⟨#[ch]⟩ : Str) == dotT) = decide (ch = 46)
    by_cases e : ch = 46
    · subst e; decide
    · rw [decide_eq_false e]
      exact beq_eq_false_iff_ne.mpr fun z => e (by
        have := congrArg Str.cps z
        have e2 : dotT.cps = #[46] := by decide
        rw [e2] at this
        simpa using this)
  have second : wpAny (model c.prog c.w) A (allTrue .Or [.Compare (.Name (Str.ofString "i") p4) [.Eq] [.Name (Str.ofString "b") p5] p6] env) (fun b s' => Q b s') E s := by
    refine wpAny_allTrue_Or_cons (wpAny_isTrue_Compare1 (wp_raw F.frm rfl (wp_raw F.frm rfl ?_)) (by with_unfolding_all rfl))
    refine op_eq (c := c) (d₁ := .str ⟨#[ch]⟩) (d₂ := .str dotT) (by simpa [PyData.canLay0] using hch) (by decide +kernel) (by simp [PyData.depth]; lia) rfl rfl g s _ _ _ _ F.frm.bg F.frm.gs (.str _ _) (.str _ _) fun v g' s' G r => ?_
    first | (obtain ⟨_, rfl⟩ := rdI r) | (obtain ⟨_, rfl⟩ := rdS r) | (obtain rfl := rdN r) | cases r
    rw [eqv]
    refine wpAny_truthy_bool ?_
    have q := hQ g' s' G
    cases hd : decide (ch = 46) with
    | true => rw [hd] at q; exact q
    | false => rw [hd] at q; exact wpAny_allTrue_Or_nil q
  refine wpAny_isTrue_BoolOp (wpAny_allTrue_Or_cons (wpAny_isTrue_Compare1 (wp_raw F.frm rfl (wp_raw F.frm rfl ?_)) (by with_unfolding_all rfl)))
  show wpAny _ A (do return Value.bool (← isSame (.str ⟨#[ch]⟩ t') (.str dotT u))) _ _ _
  by_cases e : ch = 46
  · refine wpAny_bind (wpAny_isSame_str h0 (by obtain ⟨mc, hm, hk⟩ := hb; exact ⟨mc, hm.keeps hcg, hk⟩) fun b => wpAny_pure (wpAny_truthy_bool ?_))
    cases b with
    | true =>
      have q := hQ g s (Gr.refl F.frm.gs)
      rw [decide_eq_true e] at q
      exact q
    | false => exact second
  · have hyz : ((⟨#[ch]⟩ : Str) == dotT) = false := by
      have : ((⟨#[ch]⟩ : Str) == dotT) = decide (ch = 46) := eqv
      rw [this]; exact decide_eq_false e
    refine wpAny_bind (wpAny_of_eq (isSame_str_other _ _ _ _ h0 huv hyz) (wpAny_pure (wpAny_truthy_bool second)))

theorem f_count {c : Cx} {xn : Str} {fa : Addr} (D : DF c xn fa 16) (hb : NoneBooked c.g0) {x : Str} (ha : x.cps.all (· < 128) = true) {n : Nat} {A : Around} {g : Heap} {s : Shared} {t u : Tok} {Q E : Value → Shared → Prop} (hr : Rm 1 A) (hg : c.g0.StaysIn g) (k : g.StaysIn s.heap) (hu : 1 ≤ u) (hus : u < s.toks)
    (hQ : ∀ v g' s', Gr g s g' s' → Rd g' v (.int (cntV x x.cps.size)) → Q v s') : wpAny (model c.prog c.w) A (call (.ref fa) [.str x t, .str dotT u]) Q E s := by
  obtain ⟨fd, D, h1, h2, h3, h4⟩ := D
  obtain ⟨o, ho, hdat⟩ := D.there
  have st := stays_trans hg k
  have hbind : bindArgs fd ⟨[.str x t, .str dotT u], []⟩ = pure [(Str.ofString "a", .str x t), (Str.ofString "b", .str dotT u)] := by
    obtain ⟨⟩ := fd
    simp only at h3 h4
    subst h3 h4
    rfl
  have hkind : ∀ p ∈ [(Str.ofString "a", Value.str x t), (Str.ofString "b", Value.str dotT u)], fd.scope.names.lookup p.1 = some .local := by
    intro p hp
    rw [h2]
    rcases List.mem_cons.mp hp with rfl | hp
    · rfl
    · rcases List.mem_cons.mp hp with rfl | hp
      · rfl
      · cases hp
  refine wpAny_call (call_cells_tk (n := u + 1) hr.room (st _ _ ho) hdat (D.lim.keeps st) (D.code.keeps st) h1 hbind D.clo hus (fun p hp => .inl (hkind p hp)) (fun s₁ tk₁ I => ?_) (by rw [h2]; rfl) (by rw [h2]; rfl) (by rw [h2]; rfl))
  have e : callEnvC fd s.heap.objs.size fa = envAt 16 s.heap.objs.size fa fd.qualname fd.code := by unfold callEnvC envAt; rw [h2, D.glob, D.bi]
  rw [e] at I ⊢
  generalize henv : envAt 16 s.heap.objs.size fa fd.qualname fd.code = env at I ⊢
  have t1 : 1 ≤ s₁.toks := Nat.le_trans (Nat.succ_le_succ (Nat.zero_le _)) tk₁
  have F : Frm c g s ({} : Heap) env [(Str.ofString "a", .str x t), (Str.ofString "b", .str dotT u)] [] g s₁ := by
    refine ⟨by rw [← henv]; rfl, by rw [← henv]; rfl, by rw [← henv]; rfl, hg, stays_refl _, stays_trans k I.toInCall.keep, fun a o e => .inl e, ?_, (fun _ _ e => (nomatch e)), rfl, (fun _ _ _ => rfl), (fun y a e => ?_), (fun _ => .inr rfl), t1, _, _, I, (fun y v e => ?_), fun y d e => nomatch e⟩
    · cases q : g.get? env.locals with
      | none => rfl
      | some o => exact absurd (Heap.lt_size (k _ _ q)) (Nat.not_lt.mpr I.toInCall.fresh)
    · cases q : g.get? a with
      | none => rfl
      | some o => exact absurd (Heap.lt_size (k _ _ q)) (Nat.not_lt.mpr (Nat.le_trans I.toInCall.fresh (Nat.le_of_lt (I.above y a (PySem.mem_of_lookup e)))))
    · have hy := hkind (y, v) (PySem.mem_of_lookup e)
      rw [h2] at hy
      refine .inl ⟨by rw [← henv]; exact hy, (bindL_at (by rw [← henv]; exact hy) [(Str.ofString "a", .str x t), (Str.ofString "b", .str dotT u)] _ (show [Str.ofString "a", Str.ofString "b"].Nodup by decide)).1 e⟩
  have r : Rm 0 (A.deeper env) := hr.deeper
  have FO0 := FO.nil F
  show wpAny _ _ (execs (bodyAt 16) env) _ _ _
  subst henv
  clear I e hbind hkind ho hdat st
  generalize s.heap.objs.size = L at *
  generalize fd.qualname = qn at *
  generalize fd.code = cd at *
  refine wpAny_execs_cons (wpAny_with_toks tk₁ (xo_pure (o := ⟨FO c (envAt 16 L fa qn cd) [(Str.ofString "a", .str x t), (Str.ofString "b", .str dotT u)] [(Str.ofString "count", .int 0)] [], fun _ => False, fun _ _ _ _ _ => False⟩) (x_assign (d := .int 0) ev_int (.inl rfl)) (fun _ _ _ _ _ h => h) _ _ _ _ _ _ _ FO0 ⟨fun g₂ s₂ F₂ tk₂ => ?_, fun _ _ _ _ h => h.elim, fun _ _ h => h.elim⟩))
  refine wpAny_execs_cons (xa_for_str (n₀ := u + 1) (x := x) (t := t) (o := ⟨FO c (envAt 16 L fa qn cd) [(Str.ofString "a", .str x t), (Str.ofString "b", .str dotT u)] [(Str.ofString "count", .int (cntV x x.cps.size))] [], fun _ => False, fun _ _ _ _ _ => False⟩)
    (fun i => FO c (envAt 16 L fa qn cd) [(Str.ofString "a", .str x t), (Str.ofString "b", .str dotT u)] [(Str.ofString "count", .int (cntV x i))] []) r.h (Nat.succ_le_succ (Nat.zero_le _)) ha (fun i => fo_ad) ?_ ?_ (fun _ _ _ _ _ h => h) (fun _ => rfl) _ _ _ _ _ _ _ F₂ tk₂ ⟨fun g₃ s₃ F₃ => ?_, fun _ _ _ _ h => h.elim, fun _ _ h => h.elim⟩)
  · intro g₀ s₀ k₀ g s Q E F hQ
    exact wp_raw F.frm rfl (hQ s (Gr.refl F.frm.gs))
  · intro i ch hch g₀ s₀ k₀ g s t' Q E F ht' hQ
    refine wpAny_assign_Name (wp_storeOν F (.inl rfl) rfl rfl fun s₄ F₄ => ?_)
    have hlt : ch < 128 := by
      obtain ⟨hi, e⟩ := Array.getElem?_eq_some_iff.mp hch
      have := Array.all_eq_true.mp ha i hi
      rw [e] at this
      exact of_decide_eq_true this
    refine wpAny_execs_cons (wpAny_If (wpAny_with_toks F₄.frm.tk (wp_sign F₄ hu ht' (r.line _ (by decide)) hb (by simp [PyData.strOk]; lia) fun g₅ s₅ G₅ tk₅ => ?_)))
    have F₅ := F₄.step G₅ tk₅
    have done : ∀ (g₆ : Heap) (s₆ : Shared) (n : Int), FO c (envAt 16 L fa qn cd) [(Str.ofString "i", .str ⟨#[ch]⟩ t'), (Str.ofString "a", .str x t), (Str.ofString "b", .str dotT u)] [(Str.ofString "count", .int n)] [] g₀ s₀ k₀ g₆ s₆ → n = cntV x (i + 1) → Q .next s₆ := by
      rintro g₆ s₆ n F₆ rfl
      refine hQ g₆ s₆ (F₆.weakν fun y v e => ?_)
      rw [List.lookup_cons]
      have hne : (y == Str.ofString "i") = false := by
        rw [beq_eq_false_iff_ne]
        rintro rfl
        rw [show List.lookup (Str.ofString "i") [(Str.ofString "a", Value.str x t), (Str.ofString "b", Value.str dotT u)] = none from rfl] at e
        cases e
      rw [hne]; exact e
    cases hd : decide (ch = 46) with
    | true =>
      refine wpAny_execs_cons (xo_pure (o := ⟨FO c (envAt 16 L fa qn cd) [(Str.ofString "i", .str ⟨#[ch]⟩ t'), (Str.ofString "a", .str x t), (Str.ofString "b", .str dotT u)] [(Str.ofString "count", .int (cntV x i + 1))] [], fun _ => False, fun _ _ _ _ _ => False⟩) (x_aug (d := .int (cntV x i + 1)) rfl ev_int op_iadd (.inl rfl)) (fun _ _ _ _ _ h => h) _ _ _ _ _ _ _ F₅ ⟨fun g₆ s₆ F₆ => ?_, fun _ _ _ _ h => h.elim, fun _ _ h => h.elim⟩)
      refine wpAny_execs_nil (wpAny_execs_nil (done g₆ s₆ _ F₆ ?_))
      rw [cnt_succ hch, if_pos (of_decide_eq_true hd)]
    | false =>
      refine wpAny_execs_nil (wpAny_execs_nil (done g₅ s₅ _ F₅ ?_))
      rw [cnt_succ hch, if_neg (of_decide_eq_false hd)]
      simp
  · refine wpAny_execs_cons (wpAny_Return_some ((ev_name (c := c) (A := A.deeper (envAt 16 L fa qn cd)) (env := envAt 16 L fa qn cd) (ρ := [(Str.ofString "count", .int (cntV x x.cps.size))]) (x := Str.ofString "count") (d := .int (cntV x x.cps.size)) rfl) g₃ s₃ _ _ F₃.frm.bg F₃.frm.st fun v g₄ s₄ G₄ r₄ => ?_))
    exact hQ v g₄ s₄ (F₃.frm.gr.trans G₄) r₄
end Mine
end
/-! ## E24 -/
section
open PySem PySem.W PySem.Calls PyProof.Rows
set_option maxHeartbeats 1000000
set_option maxRecDepth 100000
namespace Mine
section
variable {c : Cx} {A : Around} {env : Env} {ρ : List (Str × PyData)}
/-- {} -/
theorem ev_dict0 {pos : Pos} (B : Big c) : Ev c A env ρ (.Dict [] [] pos) (dictD []) := by
  intro g s Q E hg S hQ
  refine wpAny_Dict_empty ?_
  obtain ⟨g', G, e⟩ := grow1 S.gs { cls := .type "dict", data := .dict #[] } rfl s.toks
  refine hQ _ g' _ G (.dict (kvs := []) (js := []) (big_size B hg S.gs) (fun prog w => ?_) rfl)
  obtain ⟨o, es, ep, ho, r⟩ := Heap.DictOf.new (knd := intKind prog w) s.heap
  rw [Heap.get?_push_size _ rfl] at ho
  cases ho
  exact ⟨_, es, ep, e, r⟩
/-- {e: v} -/
theorem ev_dict1 {k v : Expr} {pos : Pos} {n m : Int} (B : Big c) (hk : Ev c A env ρ k (.int n)) (hv : Ev c A env ρ v (.int m)) : Ev c A env ρ (.Dict [some k] [v] pos) (dictD [(n, m)]) := by
  intro g s Q E hg S hQ
  refine wpAny_Dict_walk (knd := intKind c.prog c.w) rfl rfl (by simp) (show 1 ≤ 15 by decide) ?_
  have G0 := gr_push (g := g) (s := s) S.gs { cls := .type "dict", data := .dict #[] }
  refine pairTrees_cons_walk (hk.tk g _ _ _ hg (S.grow G0 S.tk) fun v₁ g₁ s₁ G₁ r₁ t₁ => (hv.tk g₁ s₁ _ _ (stays_trans hg G₁.gg) ((S.grow G0 S.tk).grow G₁ t₁) fun v₂ g₂ s₂ G₂ r₂ t₂ => pairTrees_nil_walk ?_))
  obtain ⟨u₁, rfl⟩ := rdI r₁
  obtain ⟨u₂, rfl⟩ := rdI r₂
  have Ga := (G0.trans G₁).trans G₂
  have nD := none_at_size s.heap
  have sD : s₂.heap.get? s.heap.objs.size = some { cls := .type "dict", data := .dict #[] } := G₂.ss _ _ (G₁.ss _ _ (Heap.get?_push_size _ rfl))
  have gD : g₂.get? s.heap.objs.size = none := by
    cases q : g₂.get? s.heap.objs.size with
    | none => rfl
    | some o =>
      rcases G₂.fr _ _ q with z | z
      · rcases G₁.fr _ _ z with z | z
        · rw [none_of_stays S.gs nD] at z; cases z
        · rw [Heap.get?_push_size _ rfl] at z; cases z
      · rw [G₁.ss _ _ (Heap.get?_push_size _ rfl)] at z; cases z
  refine ⟨[(n, .int m u₂)], ⟨intKind_is c.prog c.w n u₁, rfl, trivial⟩, ?_, fun h' hd hs => ?_⟩
  · obtain ⟨o, es, ep, ho, r⟩ := Heap.DictOf.new (knd := intKind c.prog c.w) s.heap
    rw [Heap.get?_push_size _ rfl] at ho
    cases ho
    exact ⟨_, es, ep, sD, r⟩
  · have he := hs.extBut
    have up : g₂.StaysIn h' := fun a o e => he a o (fun z => by subst z; rw [gD] at e; cases e) (G₂.gs a o e)
    have gg := addk_stays (b := s.heap.objs.size) up
    refine hQ _ (addk g₂ h' s.heap.objs.size) _ ⟨stays_trans Ga.gg gg, fun a o e => (only_get.mp e).2, fun a o e => he a o (fun z => by subst z; rw [nD] at e; cases e) (Ga.ss a o e), fun a o e => ?_, ?_⟩ (.dict (kvs := merged [] [(n, .int m u₂)]) (js := [(n, m)]) (big_size B hg S.gs) (fun p' w' => ?_) rfl)
    · rcases (addk_get up).mp e with z | ⟨rfl, _⟩
      · exact Ga.fr a o z
      · exact .inr nD
    · obtain ⟨h₁, t₁, rfl⟩ := Ga.rest
      exact ⟨_, _, rfl⟩
    · have hd' := dictOf_any hd p' w'
      obtain ⟨o, es, ep, ho, r⟩ := hd'
      exact ⟨o, es, ep, (addk_get up).mpr (.inr ⟨rfl, ho⟩), r⟩
/-- TupleComp(e) -/
theorem ev_make {x : Str} {p cp : Pos} {e : Expr} {ds : List PyData} (hp : c.prog = PySem.Challenge.pw_jc0014_01) (K : (Kh c.w.params).In c.g0) (hk : keepIn (Kh c.w.params) (.ref 191) = true) (hx : GN c x (.ref 191)) (hkx : env.kindOf x = some .globalImplicit) (r : Rm 0 A) (h : Ev c A env ρ e (.list ds))
    (he : starEach [e] env = (false, eval e env) :: starEach [] env := by rfl) (hdb : (x == ("__debug__" : Str)) = false := by decide) : Ev c A env ρ (.Call (.Name x p) [e] [] cp) (instD (.list ds)) := by
  intro g s Q E hg S hQ
  refine wpAny_Call_NameR (name_GN hx hkx hg S ?_ hdb)
  refine callWith_K (K := Kh c.w.params) (h₀ := c.g0) K hk ?_ he rfl
  refine (evs_cons h evs_nil he).tk _ g s _ _ hg S fun vs g₁ s₁ G₁ r₁ t₁ => ?_
  have zq := rdC r₁; clear r₁; obtain ⟨_, _, rfl, r₁, r'⟩ := zq
  first | (obtain ⟨_, rfl⟩ := rdI r') | (obtain ⟨_, rfl⟩ := rdS r') | (obtain rfl := rdN r') | cases r'
  exact ⟨K.keeps (stays_trans (stays_trans hg G₁.gg) G₁.gs), f_make hp K r (stays_trans hg G₁.gg) G₁.gs r₁ fun v g₂ s₂ G₂ r₂ => hQ v g₂ s₂ (G₁.trans G₂) r₂⟩
/-- countOf(e, '.') -/
theorem ev_count {xn : Str} {fa : Addr} {p ep dp cp : Pos} {k : Nat} {e : Str} {x : Str} (D : DF c xn fa 16) (hb : NoneBooked c.g0) (ha : x.cps.all (· < 128) = true) (hr : Rm 1 A) (hk : env.kindOf xn = some .globalImplicit) (he : ρ.lookup e = some (.str x))
    (hst : starEach [.Name e ep, .Constant (.str dotT) k dp] env = (false, eval (.Name e ep) env) :: starEach [.Constant (.str dotT) k dp] env := by rfl) (hst2 : starEach [.Constant (.str dotT) k dp] env = (false, eval (.Constant (.str dotT) k dp) env) :: starEach [] env := by rfl) (hd : (xn == ("__debug__" : Str)) = false := by decide) (hde : (e == ("__debug__" : Str)) = false := by decide) :
    Ev c A env ρ (.Call (.Name xn p) [.Name e ep, .Constant (.str dotT) k dp] [] cp) (.int (cntV x x.cps.size)) := by
  obtain ⟨fd, Df, _⟩ := id D
  intro g s Q E hg S hQ
  refine wpAny_Call_NameR (name_GN Df.name hk hg S ?_ hd)
  obtain ⟨o, ho, hdat⟩ := Df.there
  refine callWith_function (o := o) (fd := fd) ?_
  rw [hst]
  refine evalArgs_plain (spliced_cons ((ev_name (pos := ep) he hde).tk g s _ _ hg S fun v g₁ s₁ G₁ r₁ t₁ => ?_))
  obtain ⟨t, rfl⟩ := rdS r₁
  rw [hst2]
  refine spliced_cons ?_
  show wpAny _ A (eval (.Constant (.str dotT) k dp) env) _ _ _
  refine wpAny_Constant_str (spliced_nil ?_)
  have st := stays_trans (stays_trans hg G₁.gg) G₁.gs
  refine ⟨⟨st _ _ ho, hdat⟩, ?_⟩
  refine f_count (n := 0) D hb ha hr (stays_trans hg G₁.gg) (s := { s₁ with toks := s₁.toks + 1 }) G₁.gs t₁ (Nat.lt_succ_self _) fun v' g₂ s₂ G₂ r₂ => ?_
  exact hQ v' g₂ s₂ ((G₁.trans (Gr.toks G₁.gs _)).trans G₂) r₂
/-- list(e.items()) -/
theorem ev_itemsL {x : Str} {e : Expr} {p ap cp pos : Pos} {js : List (Int × Int)} {pl : Sem Bool} (hx : GN c x (.type "list")) (hkx : env.kindOf x = some .globalImplicit) (hh : A.handled = none) (h : Ev c A env ρ e (dictD js)) (hl : js.length ≤ 1000)
    (he : eval (.Call (.Attribute e "items" ap) [] [] cp) env = (do
      let ov ← eval e env
      standAt ap.atName
      let (f, first) ← holding [ov] (getMethod ov "items" pl)
      callWith cp f first (backTo cp (starEach [] env)) []) := by rfl)
    (hst : backTo pos (starEach [.Call (.Attribute e "items" ap) [] [] cp] env) = [(false, eval (.Call (.Attribute e "items" ap) [] [] cp) env)] := by rfl) (hd : (x == ("__debug__" : Str)) = false := by decide) :
    Ev c A env ρ (.Call (.Name x p) [.Call (.Attribute e "items" ap) [] [] cp] [] pos) (.list (js.map fun p => .tuple [.int p.1, .int p.2])) := by
  intro g s Q E hg S hQ
  refine wpAny_Call_NameR (name_GN hx hkx hg S ?_ hd)
  rw [hst]
  refine PyProof.Rows.callWith_type rfl (evalArgs_plain (spliced_cons (MethodCall_ (pl := pl) (h.tk g s _ _ hg S fun v g₁ s₁ G₁ r₁ t₁ => ?_) he)))
  obtain ⟨a, kvs, rfl, hs, hd, hj⟩ := rd_dict r₁
  have hd' := dictOf_mono G₁.gs (hd c.prog c.w)
  have hlen : kvs.length = js.length := by have := congrArg List.length hj; simpa using this
  refine getMethod_builtin hd'.typeIs PySem.F.plainAttrs_dict PySem.F.slot_dict_items PySem.F.type_dict_items hd'.mapOf.noDict ?_
  refine callWith_method0 (call_meetsIn PySem.F.slot_dict_items hd'.typeIs PySem.F.entry_dict_items (PySem.F.args_dict_items_1 _) (meets_dict_items (intKind c.prog c.w) a hs) ⟨⟨_, hd'⟩, ?_⟩)
  obtain ⟨ep, hat⟩ := dictAt_of (hd c.prog c.w)
  have G2 := gr_push (g := g₁) (s := s₁) G₁.gs { cls := .type "dict_items", data := .fields #[.ref a] }
  refine spliced_nil ?_
  refine wpAny_with_toks t₁ (kdx_call (knd := intKind c.prog c.w) hh ⟨_, Heap.get?_push_size _ rfl, rfl, rfl⟩ (hat.at' fun o e => G2.gs _ _ e) (by have : sizeLine = 2 ^ 24 := rfl; lia) fun h' tk acc cc ls hk hS hll hG hacc ht => ?_)
  obtain ⟨g', G', hgr⟩ := grow (g := g₁) (s := { s₁ with heap := s₁.heap.push { cls := .type "dict_items", data := .fields #[.ref a] } }) (h' := h') G2.gs (fun b o e => hk b o e) tk
  refine hQ _ g' _ (G₁.trans (G2.trans G')) (.list (hgr _ _ (none_at_size _) hS) rfl rfl rfl ?_)
  rw [hacc]
  have key : ∀ (l : List Addr) (js' : List (Int × Int)) (kv' : List (Int × Value)), l.length = kv'.length → kv'.map (fun p => (p.1, valInt p.2)) = js'.map (fun p => (p.1, some p.2)) → (∀ (j : Nat) (b : Addr), l[j]? = some b → ∃ key k x, kv'[j]? = some (k, x) ∧ (intKind c.prog c.w).is k key = true ∧ g'.get? b = some { cls := .type "tuple", data := .seq #[key, x] }) → RdA g' (l.map Value.ref) (js'.map fun p => .tuple [.int p.1, .int p.2]) := by
    intro l
    induction l with
    | nil =>
      intro js' kv' h1 h2 _
      obtain rfl := List.length_eq_zero_iff.mp h1.symm
      obtain rfl := List.map_eq_nil_iff.mp h2.symm
      exact .nil
    | cons b l ih =>
      intro js' kv' h1 h2 h3
      cases kv' with
      | nil => cases h1
      | cons p kv' =>
        cases js' with
        | nil => cases h2
        | cons q js' =>
        simp only [List.map_cons, List.cons.injEq, Prod.mk.injEq] at h2
        obtain ⟨⟨e1, e2⟩, e3⟩ := h2
        obtain ⟨kk, k, x, f1, f2, f3⟩ := h3 0 b rfl
        simp only [List.getElem?_cons_zero, Option.some.injEq] at f1
        subst f1
        obtain ⟨t, rfl⟩ := valInt_some e2
        have hk : ∃ u, kk = .int q.1 u := by
          obtain ⟨u, hu⟩ := Value.isInt_shape f2
          exact ⟨u, by rw [hu, show k = q.1 from e1]⟩
        obtain ⟨u, rfl⟩ := hk
        refine .cons (.tuple f3 rfl rfl ?_) (ih js' kv' (by simpa using h1) e3 fun j b' hb => h3 (j + 1) b' (by simpa using hb))
        exact .cons (.int _ _) (.cons (.int _ _) .nil)
  refine key ls js kvs hll hj fun j b hb => ?_
  obtain ⟨kk, k, x, f1, f2, f3⟩ := hG.pairs j b hb
  refine ⟨kk, k, x, f1, f2, hgr _ _ ?_ f3⟩
  cases q : (s₁.heap.push { cls := .type "dict_items", data := .fields #[.ref a] }).get? b with
  | none => rfl
  | some o => exact absurd (Heap.lt_size q) (Nat.not_lt.mpr (Nat.le_of_lt (hG.above b (List.mem_of_getElem? hb))))
end
end Mine
end
/-! ## P2 -/
section
open PySem PySem.W PySem.Calls PyProof.Rows
set_option maxHeartbeats 1000000
set_option maxRecDepth 100000
namespace Mine
/-! ## the ring: its state is a number below 256, four digits to the base 4 -/
noncomputable def rg (c k : Nat) : Nat := c / 4 ^ k % 4
noncomputable def isFr (c k : Nat) : Bool := (rg c k == rg c ((k + 3) % 4)) == (k == 0)
noncomputable def frc (c : Nat) : List Nat := (List.range 4).filter (isFr c)
noncomputable def nx (c : Nat) (M : List Nat) (k : Nat) : Nat := if M.contains k then (if k = 0 then (rg c 0 + 1) % 4 else rg c (k - 1)) else rg c k
noncomputable def nxc (c : Nat) (M : List Nat) : Nat := nx c M 0 + 4 * nx c M 1 + 16 * nx c M 2 + 64 * nx c M 3
noncomputable def mk (m : Nat) : List Nat := (List.range 4).filter fun k => m / 2 ^ k % 2 == 1
noncomputable def Fbig : Nat := 1202243090877433609953140594003973381165405362723147257710495387906103843278466836812627841474852138572710385994531888745058496579190752599515786391987882624752013431636293380700885034162201849437728002884183806467911101290499814872154025228930109017569950920454697444711670444297120825929020344344707072
noncomputable def Gbig : Nat := 13145109917366664596660112355473068116832185800685931976236621590942193164391375725573806200581528018797332743883772196511567295398641485357244504670720
noncomputable def Fc (c : Nat) : Nat := Fbig / 16 ^ c % 16
noncomputable def Gc (c : Nat) : Nat := Gbig / 4 ^ c % 4
noncomputable def bt (M : List Nat) (k : Nat) : Nat := if M.contains k then 1 else 0
noncomputable def eg (c k : Nat) : Nat := if (rg c k == rg c ((k + 3) % 4)) == (k == 0) then 0 else 1
noncomputable def chk1 (c : Nat) : Bool := decide (0 < (frc c).length) && decide (Fc c ≤ 13) && decide (Gc c ≤ 3)
noncomputable def chk2 (c : Nat) (M : List Nat) : Bool :=
  decide (nxc c M < 256) && ((List.range 4).all fun k => rg (nxc c M) k == nx c M k && decide (eg c k + bt M k ≤ eg (nxc c M) k + bt M ((k + 3) % 4)))
    && (if (frc c).length == 1 then frc (nxc c M) == [((frc c).getD 0 0 + 1) % 4] else decide (Fc (nxc c M) < Fc c) && decide (Gc (nxc c M) + bt M 0 ≤ Gc c))
noncomputable def chk3 (c m : Nat) : Bool := let M := mk m; if M.isEmpty || !(M.all fun k => isFr c k) then true else chk2 c M
theorem all1 : ((List.range 256).all chk1) = true := by decide +kernel
theorem all3 : ((List.range 256).all fun c => (List.range 16).all (chk3 c)) = true := by decide +kernel
end Mine
end
/-! ## P3 -/
section
open PySem PySem.W PySem.Calls PyProof.Rows
set_option maxHeartbeats 1000000
set_option maxRecDepth 100000
namespace Mine
noncomputable def matB (b01 b02 b03 b12 b13 b23 : Bool) (j k : Nat) : Bool := match j, k with
  | 0, 1 => b01
  | 1, 0 => !b01
  | 0, 2 => b02
  | 2, 0 => !b02
  | 0, 3 => b03
  | 3, 0 => !b03
  | 1, 2 => b12
  | 2, 1 => !b12
  | 1, 3 => b13
  | 3, 1 => !b13
  | 2, 3 => b23
  | 3, 2 => !b23
  | _, _ => false
noncomputable def trB (L : Nat → Nat → Bool) : Bool := (List.range 4).all fun i => (List.range 4).all fun j => (List.range 4).all fun k => !(L i j && L j k) || L i k
noncomputable def ordO (L : Nat → Nat → Bool) (fr : List Nat) : List Nat := (sortIx fr.length fun i j => L (fr.getD i 0) (fr.getD j 0)).map fun i => fr.getD i 0
noncomputable def ordM (L : Nat → Nat → Bool) (fr : List Nat) (n : Nat) : List Nat := fr.filter fun k => decide ((fr.filter fun j => L j k).length < n)
noncomputable def ordChk (L : Nat → Nat → Bool) (m n : Nat) : Bool := let fr := mk m; if n == 0 || decide (fr.length < n) then true else (ordM L fr n).isPerm ((ordO L fr).take n) && !(ordM L fr n).isEmpty
theorem all_ord : ∀ b01 b02 b03 b12 b13 b23 : Bool, (!trB (matB b01 b02 b03 b12 b13 b23) || ((List.range 16).all fun m => (List.range 5).all fun n => ordChk (matB b01 b02 b03 b12 b13 b23) m n)) = true := by decide +kernel
theorem ok_sort : ∀ n : Nat, n < 5 → okT n (kas_sort n) = true
  | 0, _ => by decide +kernel
  | 1, _ => by decide +kernel
  | 2, _ => by decide +kernel
  | 3, _ => by decide +kernel
  | 4, _ => by decide +kernel
theorem runT_congr {α : Type} {n : Nat} {β β' : Nat → Nat → Bool} (h : ∀ i < n, ∀ j < n, β i j = β' i j) : ∀ t : KasT α, okT n t = true → runT β t = runT β' t
  | .ret _, _ => rfl
  | .ask i j k, ho => by
    unfold okT at ho
    simp only [Bool.and_eq_true, decide_eq_true_eq] at ho
    unfold runT
    rw [h i ho.1.1.1 j ho.1.1.2]
    refine runT_congr h _ ?_
    cases β' i j with
    | true => exact ho.1.2
    | false => exact ho.2
theorem sortIx_congr {n : Nat} (hn : n < 5) {β β' : Nat → Nat → Bool} (h : ∀ i < n, ∀ j < n, β i j = β' i j) : sortIx n β = sortIx n β' := by
  unfold sortIx
  rw [runT_congr h _ (ok_sort n hn)]
theorem mk_of (p : Nat → Bool) : ∃ m < 16, mk m = (List.range 4).filter p := by
  have key : ∀ b0 b1 b2 b3 : Bool, ∃ m < 16, mk m = (List.range 4).filter fun k => match k with | 0 => b0 | 1 => b1 | 2 => b2 | 3 => b3 | _ => false := by decide +kernel
  obtain ⟨m, hm, e⟩ := key (p 0) (p 1) (p 2) (p 3)
  refine ⟨m, hm, e.trans ?_⟩
  refine List.filter_congr fun k hk => ?_
  have := List.mem_range.mp hk
  match k, this with
  | 0, _ => rfl
  | 1, _ => rfl
  | 2, _ => rfl
  | 3, _ => rfl
/-- a strict order of the four places -/
structure Ord4 (L : Nat → Nat → Bool) : Prop where
  irr : ∀ k < 4, L k k = false
  flip : ∀ j < 4, ∀ k < 4, j ≠ k → L k j = !L j k
  tr : ∀ i < 4, ∀ j < 4, ∀ k < 4, L i j = true → L j k = true → L i k = true
theorem Ord4.mat {L : Nat → Nat → Bool} (O : Ord4 L) : ∀ j < 4, ∀ k < 4, L j k = matB (L 0 1) (L 0 2) (L 0 3) (L 1 2) (L 1 3) (L 2 3) j k := by
  intro j hj k hk
  match j, k, hj, hk with
  | 0, 0, _, _ => exact O.irr 0 (by decide)
  | 1, 1, _, _ => exact O.irr 1 (by decide)
  | 2, 2, _, _ => exact O.irr 2 (by decide)
  | 3, 3, _, _ => exact O.irr 3 (by decide)
  | 0, 1, _, _ => rfl
  | 0, 2, _, _ => rfl
  | 0, 3, _, _ => rfl
  | 1, 2, _, _ => rfl
  | 1, 3, _, _ => rfl
  | 2, 3, _, _ => rfl
  | 1, 0, _, _ => exact O.flip 0 (by decide) 1 (by decide) (by decide)
  | 2, 0, _, _ => exact O.flip 0 (by decide) 2 (by decide) (by decide)
  | 3, 0, _, _ => exact O.flip 0 (by decide) 3 (by decide) (by decide)
  | 2, 1, _, _ => exact O.flip 1 (by decide) 2 (by decide) (by decide)
  | 3, 1, _, _ => exact O.flip 1 (by decide) 3 (by decide) (by decide)
  | 3, 2, _, _ => exact O.flip 2 (by decide) 3 (by decide) (by decide)
theorem fr_lt {p : Nat → Bool} {i : Nat} (h : i < ((List.range 4).filter p).length) : ((List.range 4).filter p).getD i 0 < 4 := by
  rw [List.getD_eq_getElem?_getD, List.getElem?_eq_getElem h]
  show ((List.range 4).filter p)[i] < 4
  exact List.mem_range.mp (List.mem_filter.mp (List.getElem_mem h)).1
theorem fr_len (p : Nat → Bool) : ((List.range 4).filter p).length ≤ 4 := by
  have := List.length_filter_le p (List.range 4)
  rw [List.length_range] at this
  exact this
theorem order_ok {L : Nat → Nat → Bool} (O : Ord4 L) (p : Nat → Bool) {n : Nat} (h1 : 1 ≤ n) (h2 : n ≤ ((List.range 4).filter p).length) :
    (ordM L ((List.range 4).filter p) n).Perm ((ordO L ((List.range 4).filter p)).take n) ∧ ordM L ((List.range 4).filter p) n ≠ [] := by
  obtain ⟨m, hm, e⟩ := mk_of p
  have hl := fr_len p
  have all := all_ord (L 0 1) (L 0 2) (L 0 3) (L 1 2) (L 1 3) (L 2 3)
  have htr : trB (matB (L 0 1) (L 0 2) (L 0 3) (L 1 2) (L 1 3) (L 2 3)) = true := by
    unfold trB
    simp only [List.all_eq_true, List.mem_range]
    intro i hi j hj k hk
    rw [← O.mat i hi j hj, ← O.mat j hj k hk, ← O.mat i hi k hk]
    cases h1 : L i j with
    | false => rfl
    | true =>
      cases h2 : L j k with
      | false => rfl
      | true => rw [O.tr i hi j hj k hk h1 h2]; rfl
  rw [htr] at all
  simp only [Bool.not_true, Bool.false_or, List.all_eq_true, List.mem_range] at all
  have c := all m hm n (by lia)
  unfold ordChk at c
  rw [e] at c
  dsimp only at c
  rw [if_neg (by simp; lia)] at c
  simp only [Bool.and_eq_true, List.isPerm_iff, Bool.not_eq_true'] at c
  have eM : ordM (matB (L 0 1) (L 0 2) (L 0 3) (L 1 2) (L 1 3) (L 2 3)) ((List.range 4).filter p) n = ordM L ((List.range 4).filter p) n := by
    unfold ordM
    refine List.filter_congr fun k hk => ?_
    have hk4 := List.mem_range.mp (List.mem_filter.mp hk).1
    congr 2
    congr 1
    refine List.filter_congr fun j hj => ?_
    exact (O.mat j (List.mem_range.mp (List.mem_filter.mp hj).1) k hk4).symm
  have eO : ordO (matB (L 0 1) (L 0 2) (L 0 3) (L 1 2) (L 1 3) (L 2 3)) ((List.range 4).filter p) = ordO L ((List.range 4).filter p) := by
    unfold ordO
    rw [sortIx_congr (by lia) fun i hi j hj => (O.mat _ (fr_lt hi) _ (fr_lt hj)).symm]
  rw [eM, eO] at c
  exact ⟨c.1, fun z => by rw [z] at c; exact absurd c.2 (by decide)⟩
end Mine
end
/-! ## P4 -/
section
open PySem PySem.W PySem.Calls PyProof.Rows
set_option maxHeartbeats 1000000
set_option maxRecDepth 100000
namespace Mine
structure LS where
  c : Nat
  mv : Nat → List (Int × Bool)
noncomputable def dt (c k : Nat) : Int := ((1 + (rg c k + k) % 4 : Nat) : Int)
noncomputable def cnV (lot : Int) (i n : Nat) : Int := 1 + ((lot.fdiv (10 ^ i)).fmod 10).fmod n
noncomputable def nS (S : LS) (k : Nat) : Int := ((S.mv k).length : Nat)
structure Wy (w0 w1 : Int) : Prop where
  h0 : w0 = 1 ∨ w0 = -1 ∨ w0 = 2 ∨ w0 = -3
  h1 : w1 = 1 ∨ w1 = -2
noncomputable def movS (w0 w1 lot : Int) (i : Nat) (S : LS) : List Nat := moversV w0 w1 (nS S) (frc S.c) (cnV lot i (frc S.c).length)
noncomputable def stepS (w0 w1 lot : Int) (i : Nat) (S : LS) : LS :=
  ⟨nxc S.c (movS w0 w1 lot i S), fun k => if (movS w0 w1 lot i S).contains k then S.mv k ++ [(dt (nxc S.c (movS w0 w1 lot i S)) k, movS w0 w1 lot i S == [k])] else S.mv k⟩
noncomputable def runS (w0 w1 lot : Int) (c0 : Nat) : Nat → LS
  | 0 => ⟨c0, fun _ => []⟩
  | i + 1 => stepS w0 w1 lot i (runS w0 w1 lot c0 i)
noncomputable def keyP (w0 w1 : Int) (n : Nat → Int) (k : Nat) : Int × Int := (w0 * n k, w1 * (k : Int))
noncomputable def LL (w0 w1 : Int) (n : Nat → Int) (j k : Nat) : Bool := lexlt (keyP w0 w1 n j) (keyP w0 w1 n k)
theorem ll_ord {w0 w1 : Int} (W : Wy w0 w1) (n : Nat → Int) : Ord4 (LL w0 w1 n) := by
  have key : ∀ j k : Nat, LL w0 w1 n j k = true ↔ (w0 * n j < w0 * n k ∨ (w0 * n j = w0 * n k ∧ w1 * (j : Int) < w1 * (k : Int))) := fun j k => by
    unfold LL lexlt keyP
    dsimp only
    split
    · rename_i h
      rw [decide_eq_true_eq]
      lia
    · rename_i h
      rw [decide_eq_true_eq]
      lia
  have hne : ∀ j k : Nat, j ≠ k → w1 * (j : Int) ≠ w1 * (k : Int) := fun j k h => by
    rcases W.h1 with rfl | rfl <;> lia
  refine ⟨fun k _ => ?_, fun j _ k _ h => ?_, fun i _ j _ k _ h1 h2 => ?_⟩
  · cases h : LL w0 w1 n k k with
    | false => rfl
    | true => rw [key] at h; lia
  · have := hne j k h
    cases h1 : LL w0 w1 n j k with
    | true =>
      rw [key] at h1
      cases h2 : LL w0 w1 n k j with
      | false => rfl
      | true => rw [key] at h2; lia
    | false =>
      have h1' : ¬ LL w0 w1 n j k = true := by rw [h1]; decide
      rw [key] at h1'
      show LL w0 w1 n k j = true
      rw [key]
      lia
  · rw [key] at h1 h2 ⊢
    lia
theorem sg {w a b : Int} (hw : w ≠ 0) (hab : a ≠ b) : (if b < a then w else -w) < 0 ↔ w * a < w * b := by
  rcases Int.lt_or_gt_of_ne hw with h | h
  · have e : w * a < w * b ↔ b < a := ⟨fun z => Int.lt_of_not_ge fun y => absurd z (Int.not_lt.mpr (Int.mul_le_mul_of_nonpos_left (Int.le_of_lt h) y)), fun z => Int.mul_lt_mul_of_neg_left z h⟩
    rw [e]; split <;> lia
  · have e : w * a < w * b ↔ a < b := Int.mul_lt_mul_left h
    rw [e]; split <;> lia
theorem told_neg {w0 w1 : Int} (W : Wy w0 w1) (n : Nat → Int) (j k : Nat) : decide (toldV w0 w1 (j : Int) (n j) (k : Int) (n k) < 0) = LL w0 w1 n j k := by
  have hw0 : w0 ≠ 0 := by rcases W.h0 with h | h | h | h <;> (rw [h]; decide)
  have hw1 : w1 ≠ 0 := by rcases W.h1 with h | h <;> (rw [h]; decide)
  unfold toldV LL lexlt keyP
  dsimp only
  by_cases h : n j = n k
  · rw [if_pos h, h, if_pos rfl]
    by_cases g : (j : Int) = k
    · rw [if_pos g, g, decide_eq_false (Int.lt_irrefl _), decide_eq_false (Int.lt_irrefl _)]
    · rw [if_neg g, decide_eq_decide]
      exact sg hw1 g
  · rw [if_neg h, if_neg (fun z => h (Int.eq_of_mul_eq_mul_left hw0 z)), decide_eq_decide]
    exact sg hw0 h
theorem movers_ord {w0 w1 : Int} (W : Wy w0 w1) (n : Nat → Int) (fr : List Nat) {cnt : Int} (h : 0 ≤ cnt) : moversV w0 w1 n fr cnt = ordM (LL w0 w1 n) fr cnt.toNat := by
  unfold moversV ordM
  refine List.filter_congr fun k _ => ?_
  have e : ((tolds w0 w1 n fr k).filter fun t => decide (t < 0)).length = (fr.filter fun j => LL w0 w1 n j k).length := by
    unfold tolds
    rw [List.filter_map, List.length_map]
    congr 1
    exact List.filter_congr fun j _ => told_neg W n j k
  rw [e, Bool.eq_iff_iff]
  simp only [decide_eq_true_eq]
  lia
theorem cn_mem (lot : Int) (i : Nat) {n : Nat} (h : 0 < n) : 1 ≤ cnV lot i n ∧ cnV lot i n ≤ n := by
  unfold cnV
  have := fmod_mem ((lot.fdiv (10 ^ i)).fmod 10) (n := (n : Int)) (by omega)
  omega
theorem ord_sub (L : Nat → Nat → Bool) (p : Nat → Bool) (n : Nat) : ∃ q, ordM L ((List.range 4).filter p) n = (List.range 4).filter q := by
  unfold ordM
  exact ⟨_, List.filter_filter ..⟩
theorem c_len {c : Nat} (h : c < 256) : 0 < (frc c).length ∧ Fc c ≤ 13 ∧ Gc c ≤ 3 := by
  have := all1
  rw [List.all_eq_true] at this
  have := this c (List.mem_range.mpr h)
  unfold chk1 at this
  simpa only [Bool.and_eq_true, decide_eq_true_eq, and_assoc] using this
structure MovOk (w0 w1 lot : Int) (i : Nat) (S : LS) (M : List Nat) : Prop where
  q : ∃ q, M = (List.range 4).filter q
  ne : M ≠ []
  sub : ∀ k ∈ M, k ∈ frc S.c
  perm : M.Perm ((ordO (LL w0 w1 (nS S)) (frc S.c)).take (cnV lot i (frc S.c).length).toNat)
  pw : M.Pairwise (· ≤ ·)
theorem mov_ok {w0 w1 lot : Int} (W : Wy w0 w1) (i : Nat) {S : LS} (hc : S.c < 256) : MovOk w0 w1 lot i S (movS w0 w1 lot i S) := by
  obtain ⟨h0, _⟩ := c_len hc
  obtain ⟨c1, c2⟩ := cn_mem lot i h0
  obtain ⟨h1, h2⟩ := order_ok (ll_ord W (nS S)) (isFr S.c) (n := (cnV lot i (frc S.c).length).toNat) (by lia) (by show _ ≤ (frc S.c).length; lia)
  have e : movS w0 w1 lot i S = ordM (LL w0 w1 (nS S)) ((List.range 4).filter (isFr S.c)) (cnV lot i (frc S.c).length).toNat := movers_ord W _ _ (by lia)
  obtain ⟨q, hq⟩ := ord_sub (LL w0 w1 (nS S)) (isFr S.c) (cnV lot i (frc S.c).length).toNat
  refine ⟨⟨q, e.trans hq⟩, by rw [e]; exact h2, fun k hk => ?_, by rw [e]; exact h1, ?_⟩
  · rw [e] at hk
    exact (List.mem_filter.mp hk).1
  · rw [e, hq]
    exact List.Pairwise.filter _ (List.Pairwise.imp (fun h => Nat.le_of_lt h) List.pairwise_lt_range)
theorem chk_of {c : Nat} (hc : c < 256) {M : List Nat} (hq : ∃ q, M = (List.range 4).filter q) (hne : M ≠ []) (hs : ∀ k ∈ M, k ∈ frc c) : chk2 c M = true := by
  obtain ⟨q, rfl⟩ := hq
  obtain ⟨m, hm, e⟩ := mk_of q
  have := all3
  rw [List.all_eq_true] at this
  have := this c (List.mem_range.mpr hc)
  rw [List.all_eq_true] at this
  have := this m (List.mem_range.mpr hm)
  unfold chk3 at this
  rw [e] at this
  dsimp only at this
  rw [if_neg] at this
  · exact this
  · simp only [Bool.or_eq_true, not_or, Bool.not_eq_true', Bool.not_eq_true]
    refine ⟨?_, ?_⟩
    · cases h : (List.range 4).filter q with
      | nil => exact absurd h hne
      | cons => rfl
    · have : (((List.range 4).filter q).all fun k => isFr c k) = true := by
        rw [List.all_eq_true]
        intro k hk
        exact (List.mem_filter.mp (hs k hk)).2
      rw [this]; decide
structure Stp (c : Nat) (M : List Nat) : Prop where
  lt : nxc c M < 256
  rg : ∀ k < 4, rg (nxc c M) k = nx c M k
  eg : ∀ k < 4, eg c k + bt M k ≤ eg (nxc c M) k + bt M ((k + 3) % 4)
  one : (frc c).length = 1 → frc (nxc c M) = [((frc c).getD 0 0 + 1) % 4]
  more : (frc c).length ≠ 1 → Fc (nxc c M) < Fc c ∧ Gc (nxc c M) + bt M 0 ≤ Gc c
theorem stp_of {c : Nat} {M : List Nat} (h : chk2 c M = true) : Stp c M := by
  unfold chk2 at h
  simp only [Bool.and_eq_true, decide_eq_true_eq, List.all_eq_true, List.mem_range, beq_iff_eq] at h
  obtain ⟨⟨h1, h2⟩, h3⟩ := h
  refine ⟨h1, fun k hk => (h2 k hk).1, fun k hk => (h2 k hk).2, fun h => ?_, fun h => ?_⟩
  · rw [if_pos h] at h3
    simpa using h3
  · rw [if_neg h] at h3
    simpa using h3
structure InvS (S : LS) (i : Nat) : Prop where
  c : S.c < 256
  len : ∀ k < 4, (S.mv k).length ≤ i
  dot : ∀ k < 4, ∀ p ∈ S.mv k, 1 ≤ p.1 ∧ p.1 ≤ 4
  gap : ∀ k < 4, (S.mv k).length ≤ (S.mv ((k + 3) % 4)).length + eg S.c k
theorem dt_mem (c k : Nat) : 1 ≤ dt c k ∧ dt c k ≤ 4 := by
  unfold dt
  lia
section
variable {w0 w1 lot : Int} {c0 : Nat}
theorem stepS_len (i : Nat) (S : LS) (k : Nat) : ((stepS w0 w1 lot i S).mv k).length = (S.mv k).length + bt (movS w0 w1 lot i S) k := by
  unfold stepS bt
  dsimp only
  split <;> simp
theorem inv_step (W : Wy w0 w1) {i : Nat} {S : LS} (I : InvS S i) : InvS (stepS w0 w1 lot i S) (i + 1) ∧ Stp S.c (movS w0 w1 lot i S) := by
  have M := mov_ok (lot := lot) W i I.c
  have P := stp_of (chk_of I.c M.q M.ne M.sub)
  refine ⟨⟨P.lt, fun k hk => ?_, fun k hk p hp => ?_, fun k hk => ?_⟩, P⟩
  · rw [stepS_len]
    have := I.len k hk
    have : bt (movS w0 w1 lot i S) k ≤ 1 := by unfold bt; split <;> lia
    lia
  · unfold stepS at hp
    dsimp only at hp
    split at hp
    · rcases List.mem_append.mp hp with h | h
      · exact I.dot k hk p h
      · rw [List.mem_singleton] at h
        subst h
        exact dt_mem _ _
    · exact I.dot k hk p hp
  · rw [stepS_len, stepS_len]
    have := I.gap k hk
    have := P.eg k hk
    show _ ≤ _ + eg (nxc S.c (movS w0 w1 lot i S)) k
    lia
theorem inv_run (W : Wy w0 w1) (hc : c0 < 256) : ∀ i, InvS (runS w0 w1 lot c0 i) i
  | 0 => ⟨hc, fun _ _ => Nat.le_refl _, fun _ _ _ h => (nomatch h), fun _ _ => by show 0 ≤ _; lia⟩
  | i + 1 => (inv_step W (inv_run W hc i)).1
theorem stp_run (W : Wy w0 w1) (hc : c0 < 256) (i : Nat) : Stp (runS w0 w1 lot c0 i).c (movS w0 w1 lot i (runS w0 w1 lot c0 i)) := (inv_step W (inv_run W hc i)).2
structure Alone (w0 w1 lot : Int) (c0 t0 a : Nat) : Prop where
  t : t0 ≤ 13
  a4 : a < 4
  before : ∀ i < t0, (frc (runS w0 w1 lot c0 i).c).length ≠ 1
  few : ((runS w0 w1 lot c0 t0).mv 0).length ≤ 3
  after : ∀ j, frc (runS w0 w1 lot c0 (t0 + j)).c = [(a + j) % 4]
theorem alone_go (W : Wy w0 w1) (hc : c0 < 256) : ∀ n i, Fc (runS w0 w1 lot c0 i).c ≤ n → (∀ j < i, (frc (runS w0 w1 lot c0 j).c).length ≠ 1) →
    ∃ t, i ≤ t ∧ t ≤ i + Fc (runS w0 w1 lot c0 i).c ∧ (∀ j < t, (frc (runS w0 w1 lot c0 j).c).length ≠ 1) ∧ (frc (runS w0 w1 lot c0 t).c).length = 1 ∧ ((runS w0 w1 lot c0 t).mv 0).length ≤ ((runS w0 w1 lot c0 i).mv 0).length + Gc (runS w0 w1 lot c0 i).c := by
  intro n
  induction n with
  | zero =>
    intro i hF hb
    by_cases h : (frc (runS w0 w1 lot c0 i).c).length = 1
    · exact ⟨i, Nat.le_refl _, by lia, hb, h, by lia⟩
    · have := ((stp_run (lot := lot) W hc i).more h).1
      lia
  | succ n ih =>
    intro i hF hb
    by_cases h : (frc (runS w0 w1 lot c0 i).c).length = 1
    · exact ⟨i, Nat.le_refl _, by lia, hb, h, by lia⟩
    · obtain ⟨h1, h2⟩ := (stp_run (lot := lot) W hc i).more h
      have e1 : Fc (runS w0 w1 lot c0 (i + 1)).c < Fc (runS w0 w1 lot c0 i).c := h1
      have e2 : Gc (runS w0 w1 lot c0 (i + 1)).c + bt (movS w0 w1 lot i (runS w0 w1 lot c0 i)) 0 ≤ Gc (runS w0 w1 lot c0 i).c := h2
      obtain ⟨t, t1, t2, t3, t4, t5⟩ := ih (i + 1) (by lia) fun j hj => by
        rcases Nat.lt_or_eq_of_le (Nat.le_of_lt_succ hj) with h' | rfl
        · exact hb j h'
        · exact h
      have e3 := stepS_len (w0 := w0) (w1 := w1) (lot := lot) i (runS w0 w1 lot c0 i) 0
      have e4 : ((runS w0 w1 lot c0 (i + 1)).mv 0).length = ((runS w0 w1 lot c0 i).mv 0).length + bt (movS w0 w1 lot i (runS w0 w1 lot c0 i)) 0 := e3
      exact ⟨t, by lia, by lia, t3, t4, by lia⟩
theorem alone_ok (W : Wy w0 w1) (hc : c0 < 256) : ∃ t0 a, Alone w0 w1 lot c0 t0 a := by
  obtain ⟨t, t1, t2, t3, t4, t5⟩ := alone_go (lot := lot) W hc _ 0 (Nat.le_refl _) fun _ h => absurd h (Nat.not_lt_zero _)
  obtain ⟨_, f1, f2⟩ := c_len hc
  have e0 : (runS w0 w1 lot c0 0).c = c0 := rfl
  have e1 : ((runS w0 w1 lot c0 0).mv 0).length = 0 := rfl
  rw [e0] at t2 t5
  have hm : (frc (runS w0 w1 lot c0 t).c).getD 0 0 < 4 := fr_lt (p := isFr (runS w0 w1 lot c0 t).c) (by show 0 < (frc (runS w0 w1 lot c0 t).c).length; lia)
  refine ⟨t, (frc (runS w0 w1 lot c0 t).c).getD 0 0, by lia, hm, t3, by lia, fun j => ?_⟩
  induction j with
  | zero =>
    rw [Nat.add_zero, Nat.add_zero, Nat.mod_eq_of_lt hm]
    match h : frc (runS w0 w1 lot c0 t).c, t4 with
    | [x], _ => rfl
  | succ j ih =>
    have := (stp_run (lot := lot) W hc (t + j)).one (by rw [ih]; rfl)
    have e : frc (runS w0 w1 lot c0 (t + j + 1)).c = [((frc (runS w0 w1 lot c0 (t + j)).c).getD 0 0 + 1) % 4] := this
    rw [← Nat.add_assoc, e, ih]
    show [(((frc (runS w0 w1 lot c0 t).c).getD 0 0 + j) % 4 + 1) % 4] = _
    congr 1
    lia
end
end Mine
end
/-! ## P5 -/
section
open PySem PySem.W PySem.Calls PyProof.Rows
set_option maxHeartbeats 1000000
set_option maxRecDepth 100000
namespace Mine
theorem snoc_ind {α : Type} {P : List α → Prop} (h0 : P []) (h1 : ∀ l x, P l → P (l ++ [x])) (l : List α) : P l := by
  have : ∀ r : List α, P r.reverse := fun r => by
    induction r with
    | nil => exact h0
    | cons x r ih => rw [List.reverse_cons]; exact h1 _ _ ih
  have := this l.reverse
  rwa [List.reverse_reverse] at this
theorem firsts_snoc (ms : List Int) (x : Int) : firstsV (ms ++ [x]) = if x ∈ ms then firstsV ms else firstsV ms ++ [x] := by
  have hg : ∀ j, j < ms.length → (ms ++ [x]).getD j 0 = ms.getD j 0 := fun j hj => by
    rw [List.getD_eq_getElem?_getD, List.getD_eq_getElem?_getD, List.getElem?_append_left hj]
  have ht : ∀ j, j < ms.length → (ms ++ [x]).take j = ms.take j := fun j hj => List.take_append_of_le_length (Nat.le_of_lt hj)
  have hn : (ms ++ [x]).getD ms.length 0 = x := by rw [List.getD_eq_getElem?_getD]; simp
  have hn' : (ms ++ [x]).take ms.length = ms := by simp
  have hany : (ms.any fun y => decide (y = x)) = decide (x ∈ ms) := by
    rw [Bool.eq_iff_iff]
    simp
  unfold firstsV
  rw [List.length_append, List.length_singleton, List.range_succ, List.filter_append, List.map_append]
  have e1 : ((List.range ms.length).filter fun j => !(((ms ++ [x]).take j).any fun y => decide (y = (ms ++ [x]).getD j 0))) = (List.range ms.length).filter fun j => !((ms.take j).any fun y => decide (y = ms.getD j 0)) :=
    List.filter_congr fun j hj => by
      have hj := List.mem_range.mp hj
      rw [hg j hj, ht j hj]
  have e2 : (((List.range ms.length).filter fun j => !((ms.take j).any fun y => decide (y = ms.getD j 0))).map fun j => (ms ++ [x]).getD j 0) = ((List.range ms.length).filter fun j => !((ms.take j).any fun y => decide (y = ms.getD j 0))).map fun j => ms.getD j 0 :=
    List.map_congr_left fun j hj => hg j (List.mem_range.mp (List.mem_filter.mp hj).1)
  rw [e1, e2, List.filter_cons, List.filter_nil, hn', hn, hany]
  by_cases h : x ∈ ms
  · simp [h]
  · simp only [h, decide_false, Bool.not_false, if_true, if_false, List.map_cons, List.map_nil, hn]
theorem firsts_mem (x : Int) : ∀ ms, x ∈ firstsV ms ↔ x ∈ ms := snoc_ind (by simp [firstsV]) fun ms y ih => by
  rw [firsts_snoc]
  split
  · rename_i h
    rw [ih]
    simp only [List.mem_append, List.mem_singleton]
    constructor
    · exact .inl
    · rintro (h' | rfl)
      · exact h'
      · exact h
  · simp only [List.mem_append, List.mem_singleton, ih]
theorem firsts_nodup : ∀ ms, (firstsV ms).Nodup := snoc_ind (by simp [firstsV]) fun ms y ih => by
  rw [firsts_snoc]
  split
  · exact ih
  · rename_i h
    rw [List.nodup_append]
    refine ⟨ih, by simp, fun a ha b hb z => ?_⟩
    rw [List.mem_singleton] at hb
    subst hb z
    exact h ((firsts_mem _ _).mp ha)
theorem firsts_len : ∀ ms, (firstsV ms).length ≤ ms.length := snoc_ind (by simp [firstsV]) fun ms y ih => by
  rw [firsts_snoc]
  split
  · rw [List.length_append]; lia
  · rw [List.length_append, List.length_append]; simp; exact ih
noncomputable def tbl (ms : List Int) : List (Int × Int) := (firstsV ms).map fun d => (d, ((ms.count d : Nat) : Int))
theorem any_keys {js : List (Int × Int)} {k : Int} : (js.any fun p => decide (p.1 = k)) = true ↔ k ∈ js.map (·.1) := by
  simp only [List.any_eq_true, decide_eq_true_eq, List.mem_map]
theorem copy_go : ∀ (js acc : List (Int × Int)), ((acc ++ js).map (·.1)).Nodup → js.foldl (fun acc p => putJ acc p.1 p.2) acc = acc ++ js
  | [], acc, _ => by simp
  | p :: js, acc, h => by
    have hn : p.1 ∉ acc.map (·.1) := fun z => by
      rw [List.map_append, List.nodup_append] at h
      exact h.2.2 _ z _ (by simp) rfl
    have e : putJ acc p.1 p.2 = acc ++ [p] := by
      unfold putJ
      rw [if_neg (fun z => hn (any_keys.mp z))]
    rw [List.foldl_cons, e, copy_go js (acc ++ [p]) (by simpa using h)]
    simp
theorem copy_id {js : List (Int × Int)} (h : (js.map (·.1)).Nodup) : copyJ js = js := by
  unfold copyJ
  rw [copy_go js [] (by simpa using h)]
  rfl
theorem tbl_keys (ms : List Int) : (tbl ms).map (·.1) = firstsV ms := by
  unfold tbl
  rw [List.map_map]
  simp [Function.comp_def]
theorem val_of {k v : Int} : ∀ {js : List (Int × Int)}, (js.map (·.1)).Nodup → (k, v) ∈ js → valJ js k = some v
  | [], _, h => (nomatch h)
  | p :: js, hn, h => by
    rw [List.map_cons, List.nodup_cons] at hn
    unfold valJ
    rcases List.mem_cons.mp h with rfl | h
    · simp
    · have : p.1 ≠ k := fun z => hn.1 (z ▸ List.mem_map.mpr ⟨(k, v), h, rfl⟩)
      rw [List.find?_cons_of_neg (by simpa using this)]
      exact val_of hn.2 h
theorem val_none {k : Int} {js : List (Int × Int)} (h : k ∉ js.map (·.1)) : valJ js k = none := by
  unfold valJ
  rw [Option.map_eq_none_iff, List.find?_eq_none]
  intro p hp z
  exact h (List.mem_map.mpr ⟨p, hp, by simpa using z⟩)
theorem tbl_step (ms : List Int) (x : Int) : mergeV (tbl ms) [(x, 1)] = tbl (ms ++ [x]) := by
  have hnd : ((tbl ms).map (·.1)).Nodup := by rw [tbl_keys]; exact firsts_nodup ms
  unfold mergeV
  rw [copy_id hnd]
  show addJ (tbl ms) (x, 1) = _
  by_cases h : x ∈ ms
  · have hin : (x, ((ms.count x : Nat) : Int)) ∈ tbl ms := List.mem_map.mpr ⟨x, (firsts_mem x ms).mpr h, rfl⟩
    rw [addJ_some (val_of hnd hin)]
    unfold putJ
    rw [if_pos (any_keys.mpr (by rw [tbl_keys]; exact (firsts_mem x ms).mpr h))]
    unfold tbl
    rw [firsts_snoc, if_pos h, List.map_map]
    refine List.map_congr_left fun d hd => ?_
    dsimp only [Function.comp]
    by_cases hdx : d = x
    · subst hdx
      rw [if_pos rfl, List.count_append, List.count_singleton_self]
      congr 1
    · rw [if_neg hdx, List.count_append, List.count_singleton]
      simp [Ne.symm hdx]
  · have hx : x ∉ firstsV ms := fun z => h ((firsts_mem x ms).mp z)
    rw [addJ_none (val_none (by rw [tbl_keys]; exact hx))]
    unfold putJ
    rw [if_neg (fun z => hx (by have := any_keys.mp z; rwa [tbl_keys] at this))]
    unfold tbl
    rw [firsts_snoc, if_neg h, List.map_append]
    congr 1
    · refine List.map_congr_left fun d hd => ?_
      have hdx : d ≠ x := fun z => hx (z ▸ hd)
      rw [List.count_append, List.count_singleton]
      simp [Ne.symm hdx]
    · rw [List.map_singleton, List.count_append, List.count_eq_zero.mpr h]
      simp
theorem tbl_sum (ms : List Int) : ((tbl ms).map (·.2)).sum = (ms.length : Nat) := by
  revert ms
  refine snoc_ind (by simp [tbl, firstsV]) fun ms x ih => ?_
  have aux : ∀ fs : List Int, fs.Nodup → (fs.map fun d => (((ms ++ [x]).count d : Nat) : Int)).sum = (fs.map fun d => ((ms.count d : Nat) : Int)).sum + (if x ∈ fs then 1 else 0) := by
    intro fs
    induction fs with
    | nil => intro _; simp
    | cons d fs ihf =>
      intro hn
      rw [List.nodup_cons] at hn
      rw [List.map_cons, List.map_cons, List.sum_cons, List.sum_cons, ihf hn.2, List.count_append, List.count_singleton]
      by_cases hdx : x = d
      · subst hdx
        simp [hn.1]
        lia
      · have hb : (x == d) = false := by simpa using hdx
        rw [hb]
        by_cases hm : x ∈ fs
        · simp [hm]; lia
        · simp [hm, hdx]
  have e : ∀ l : List Int, ((tbl l).map (·.2)) = (firstsV l).map fun d => ((l.count d : Nat) : Int) := fun l => by unfold tbl; rw [List.map_map]; rfl
  rw [e] at ih ⊢
  rw [firsts_snoc]
  by_cases h : x ∈ ms
  · rw [if_pos h, aux _ (firsts_nodup ms), ih, if_pos ((firsts_mem x ms).mpr h), List.length_append]
    simp
  · have hx : x ∉ firstsV ms := fun z => h ((firsts_mem x ms).mp z)
    rw [if_neg h, List.map_append, List.sum_append, aux _ (firsts_nodup ms), ih, if_neg hx, List.length_append, List.map_singleton, List.count_append, List.count_eq_zero.mpr h]
    simp
/-- a book, from all moves -/
noncomputable def bkL (l : List (Int × Bool)) : Bk := ⟨((l.filter (·.2)).length : Nat), ((l.map (·.1)).length : Nat), (l.map (·.1)).sum, ((l.map (·.1)).map fun d => d * d).sum, tbl (l.map (·.1))⟩
theorem bk_step (l : List (Int × Bool)) (x : Int) (b : Bool) : statsD ((if b then 1 else 0) + (bkL l).a) (1 + (bkL l).b) (x + (bkL l).d) (x * x + (bkL l).e) (mergeV (bkL l).js [(x, 1)]) = (bkL (l ++ [(x, b)])).data := by
  unfold bkL Bk.data
  dsimp only
  rw [tbl_step]
  simp only [List.map_append, List.map_cons, List.map_nil, List.sum_append, List.filter_append, List.length_append]
  have e1 : (if b = true then (1 : Int) else 0) + ((l.filter fun x => x.2).length : Nat) = (((l.filter fun x => x.2).length + ([(x, b)].filter fun x => x.2).length : Nat) : Int) := by
    cases b <;> simp <;> lia
  rw [e1]
  congr 1
  · simp; lia
  · simp; lia
  · simp; lia
theorem bk_calls (l : List (Int × Bool)) : callsV (bkL l).js = (l.length : Nat) := by
  unfold callsV bkL
  dsimp only
  rw [tbl_sum, List.length_map]
theorem bk_len (l : List (Int × Bool)) : (bkL l).js.length ≤ l.length := by
  unfold bkL tbl
  dsimp only
  rw [List.length_map]
  have := firsts_len (l.map (·.1))
  rw [List.length_map] at this
  exact this
theorem bk_entry (l : List (Int × Bool)) : [PyData.int (bkL l).a, .int (bkL l).b, .int (bkL l).d, .int (bkL l).e, .list ((bkL l).js.map fun p => .tuple [.int p.1, .int p.2])] = entryV l := by
  unfold bkL entryV tbl
  dsimp only
  congr 5
  rw [List.map_map]
  rfl
end Mine
end
/-! ## R1 -/
section
open PySem PySem.W PySem.Calls PyProof.Rows
set_option maxRecDepth 100000
namespace Mine
theorem runFor_succ (n : Nat) (m : Sre.M) : m.runFor (n + 1) = if m.outcome.isSome = true then m else m.step.runFor n := rfl
theorem runFor_done {n : Nat} {m : Sre.M} (h : m.outcome.isSome = true) : m.runFor n = m := by
  cases n with
  | zero => rfl
  | succ n => rw [runFor_succ, if_pos h]
theorem runFor_add : ∀ (a b : Nat) (m : Sre.M), m.runFor (a + b) = (m.runFor a).runFor b
  | 0, b, m => by rw [Nat.zero_add]; rfl
  | a + 1, b, m => by
    rw [Nat.succ_add, runFor_succ, runFor_succ]
    by_cases h : m.outcome.isSome = true
    · rw [if_pos h, if_pos h]
      exact (runFor_done h).symm
    · rw [if_neg h, if_neg h]
      exact runFor_add a b _
/-- the machine is driven to its end -/
theorem wp_drive {M : Model} {A : Around} {E : Value → Shared → Prop} {s : Shared} {Q : Sre.M → Shared → Prop} : ∀ (k : Nat) (n : Nat) (m : Sre.M), ((m.runFor (4 * k)).outcome.isSome = true) → k < n → Q (m.runFor (4 * k)) s → wpAny M A (Builtin.Re.reDrive n m) Q E s
  | _, 0, _, _, h, _ => absurd h (by lia)
  | 0, n + 1, m, hk, _, hQ => by
    unfold Builtin.Re.reDrive
    have e : m.runFor 0 = m := rfl
    rw [Nat.mul_zero, e] at hk hQ
    rw [runFor_done hk]
    simp only [hk, if_true]
    exact wpAny_pure hQ
  | k + 1, n + 1, m, hk, hn, hQ => by
    unfold Builtin.Re.reDrive
    have e : 4 * (k + 1) = 4 + 4 * k := by lia
    rw [e, runFor_add] at hk hQ
    show wpAny _ _ (if (m.runFor 4).outcome.isSome then pure (m.runFor 4) else do rule "sre.turn"; Builtin.Re.reDrive n (m.runFor 4)) _ _ _
    by_cases h : (m.runFor 4).outcome.isSome = true
    · rw [if_pos h]
      rw [runFor_done h] at hQ
      exact wpAny_pure hQ
    · rw [if_neg h]
      exact wpAny_bind (wpAny_rule (wp_drive k n _ hk (by lia) hQ))
end Mine
end
/-! ## R2 -/
section
open PySem PySem.W PySem.Calls PyProof.Rows
set_option maxRecDepth 100000
namespace Mine
section
variable {m m' : Sre.M} {n : Nat}
theorem step_exec (h0 : m.outcome = none) (h1 : m.answer = none) (h2 : Nat.blt m.pc m.code.size = true) : m.step = m.exec := by
  unfold Sre.M.step
  rw [h0, h1]
  exact if_pos (Nat.blt_eq.mp h2)
theorem step_say {f : Sre.Frame} {r : List Sre.Frame} {yes : Bool} (h0 : m.outcome = none) (h1 : m.answer = some yes) (h2 : m.frames = f :: r) :
    m.step = Sre.M.resume { m with answer := none, frames := r, weight := m.weight - (1 + f.kept.marks.size), pc := f.pc, pos := f.pos, outermost := f.outermost } f yes := by
  unfold Sre.M.step
  rw [h0, h1, h2]
  rfl
theorem run_step (h0 : m.outcome = none) (h : m.step = m') : m.runFor (n + 1) = m'.runFor n := by
  rw [runFor_succ, h0, h]
  rfl
/-- one letter -/
theorem ex_lit_end (h1 : Sre.ops[m.word 0]? = some .LITERAL) (h2 : m.pos ≥ m.lim) : m.exec = { m with seen := m.seen.add (m.word 0), answer := some false } := by
  unfold Sre.M.exec
  rw [h1]
  exact if_pos h2
theorem acc_lit {code : Array Nat} {i c : Nat} {seen : Sre.Seen} (h1 : Sre.ops[code.getD i 0]? = some .LITERAL) : Sre.accepts code i c seen = .ok (c == code.getD (i + 1) 0, seen) := by
  unfold Sre.accepts
  rw [h1]
theorem ex_lit_no (h1 : Sre.ops[m.word 0]? = some .LITERAL) (h2 : ¬ m.pos ≥ m.lim) (h3 : (m.text.getD m.pos 0 == m.word 1) = false) : m.exec = { m with seen := m.seen.add (m.word 0), answer := some false } := by
  unfold Sre.M.exec
  rw [h1]
  refine (if_neg h2).trans ?_
  have e : Sre.accepts m.code m.pc (m.text.getD m.pos 0) (m.seen.add (m.word 0)) = .ok (false, m.seen.add (m.word 0)) := by rw [acc_lit (i := m.pc) h1]; exact congrArg (fun b => Except.ok (b, _)) h3
  show (match Sre.accepts m.code m.pc (m.text.getD m.pos 0) (m.seen.add (m.word 0)) with | .error why => _ | .ok (false, seen) => _ | .ok (true, seen) => _) = _
  rw [e]
  rfl
theorem width_lit {code : Array Nat} {i : Nat} (h1 : Sre.ops[code.getD i 0]? = some .LITERAL) : Sre.itemWidth code i = 2 := by
  unfold Sre.itemWidth
  rw [h1]
theorem ex_lit_yes (h1 : Sre.ops[m.word 0]? = some .LITERAL) (h2 : ¬ m.pos ≥ m.lim) (h3 : (m.text.getD m.pos 0 == m.word 1) = true) : m.exec = { m with seen := m.seen.add (m.word 0), pc := m.pc + 2, pos := m.pos + 1 } := by
  unfold Sre.M.exec
  rw [h1]
  refine (if_neg h2).trans ?_
  have e : Sre.accepts m.code m.pc (m.text.getD m.pos 0) (m.seen.add (m.word 0)) = .ok (true, m.seen.add (m.word 0)) := by rw [acc_lit (i := m.pc) h1]; exact congrArg (fun b => Except.ok (b, _)) h3
  show (match Sre.accepts m.code m.pc (m.text.getD m.pos 0) (m.seen.add (m.word 0)) with | .error why => _ | .ok (false, seen) => _ | .ok (true, seen) => _) = _
  rw [e]
  show ({ m with seen := m.seen.add (m.word 0), pc := m.pc + Sre.itemWidth m.code m.pc, pos := m.pos + 1 } : Sre.M) = _
  rw [width_lit (i := m.pc) h1]
/-- the line's start -/
theorem ex_at {b : Bool} (h1 : Sre.ops[m.word 0]? = some .AT) (h2 : m.word 1 = 1) (h3 : (m.pos == 0 || m.text.getD (m.pos - 1) 0 == 10) = b) :
    m.exec = if b then { m with seen := (m.seen.add (m.word 0)).add 44, pc := m.pc + 2 } else { m with seen := (m.seen.add (m.word 0)).add 44, answer := some false } := by
  unfold Sre.M.exec
  rw [h1]
  have e : ({ m with seen := m.seen.add (m.word 0) } : Sre.M).isAt (({ m with seen := m.seen.add (m.word 0) } : Sre.M).word 1) = .ok b := by
    show Sre.M.isAt _ (m.word 1) = _
    rw [h2]
    exact congrArg Except.ok h3
  have e2 : (m.seen.add (m.word 0)).add (43 + m.word 1) = (m.seen.add (m.word 0)).add 44 := by rw [h2]
  dsimp only
  rw [e]
  cases b
  · show ({ m with seen := (m.seen.add (m.word 0)).add (43 + m.word 1), answer := some false } : Sre.M) = _
    rw [e2]; rfl
  · show ({ m with seen := (m.seen.add (m.word 0)).add (43 + m.word 1), pc := m.pc + 2 } : Sre.M) = _
    rw [e2]; rfl
theorem ex_success (h1 : Sre.ops[m.word 0]? = some .SUCCESS) (h2 : (m.wholeText || m.mustAdvance && m.pos == m.start) = false) : m.exec = { m with seen := m.seen.add (m.word 0), handed := m.pos, answer := some true } := by
  unfold Sre.M.exec
  rw [h1]
  obtain ⟨a, b⟩ := Bool.or_eq_false_iff.mp h2
  refine if_neg ?_
  show ¬ (m.outermost && ((m.wholeText && m.pos != m.lim) || (m.mustAdvance && m.pos == m.start))) = true
  rw [a, b]
  cases m.outermost <;> exact Bool.false_ne_true
theorem ex_not (h1 : Sre.ops[m.word 0]? = some .ASSERT_NOT) (h2 : m.word 2 = 0) :
    m.exec = Sre.M.attempt { m with seen := m.seen.add (m.word 0) } { Sre.M.frame { m with seen := m.seen.add (m.word 0) } .lookNot with kept := Sre.M.keep { m with seen := m.seen.add (m.word 0) } (true && m.inner.isSome) } (m.pc + 3) m.pos false := by
  unfold Sre.M.exec
  rw [h1]
  have e : ({ m with seen := m.seen.add (m.word 0) } : Sre.M).word 2 = 0 := h2
  dsimp only
  rw [e]
  exact if_neg (Nat.not_lt_zero _)
noncomputable def Hit (m : Sre.M) (s e : Nat) : Prop := m.outcome = some .matched ∧ m.start = s ∧ m.handed = e
theorem hit_step {a b : Nat} (h0 : m.outcome = none) (h : m.step = m') (k : Hit (m'.runFor n) a b) : Hit (m.runFor (n + 1)) a b := by
  rw [run_step h0 h]
  exact k
theorem say_yes {f : Sre.Frame} {r : List Sre.Frame} (h0 : m.outcome = none) (h1 : m.answer = some true) (h2 : m.frames = f :: r) (w : f.wait = .nextBranch ∨ f.wait = .nextStart) : m.step = ({ m with frames := r, weight := m.weight - (1 + f.kept.marks.size), pc := f.pc, pos := f.pos, outermost := f.outermost, answer := some true } : Sre.M) := by
  refine (step_say h0 h1 h2).trans ?_
  unfold Sre.M.resume
  rcases w with w | w <;> rw [w] <;> rfl
theorem hit_of {fb fs : Sre.Frame} (h0 : m.outcome = none) (h1 : m.answer = some true) (h2 : m.frames = [fb, fs]) (w1 : fb.wait = .nextBranch) (w2 : fs.wait = .nextStart) : Hit (m.runFor (n + 3)) m.start m.handed := by
  rw [run_step h0 (say_yes h0 h1 h2 (.inl w1)), run_step (by exact h0) (say_yes (by exact h0) rfl rfl (.inr w2)), runFor_succ, if_neg (by show ¬ m.outcome.isSome = true; rw [h0]; exact Bool.false_ne_true)]
  have e : ∀ X : Sre.M, X.outcome = none → X.answer = some true → X.frames = [] → X.step = { X with outcome := some .matched } := fun X a b d => by
    unfold Sre.M.step
    rw [a, b, d]
    rfl
  rw [e _ (by exact h0) rfl rfl, runFor_done rfl]
  exact ⟨rfl, rfl, rfl⟩
theorem getD_at {T : Array Nat} {i : Nat} : T.getD i 0 = T[i]?.getD 0 := Array.getD_eq_getD_getElem? ..
end
noncomputable def code1 : Array Nat := #[14, 4, 0, 1, 1, 6, 1, 16, 46, 1]
/-- the machine of the first pattern, about to try at s -/
noncomputable def m1 (T : Array Nat) (s h ls : Nat) (must first : Bool) (seen : Sre.Seen) : Sre.M :=
  { code := code1, text := T, lim := T.size, start := s, lastStart := ls, mustAdvance := must, pc := 5, pos := s, handed := h, outermost := first, marks := #[], seen := seen,
    frames := [{ wait := .nextStart, pc := 5, pos := s, outermost := first }], weight := 1 }
theorem m1_yes (T : Array Nat) (s h ls : Nat) (must first : Bool) (seen : Sre.Seen) (hs : s = 0 ∨ T[s - 1]?.getD 0 = 10) : (m1 T s h ls must first seen).step = { m1 T s h ls must first ((seen.add 6).add 44) with pc := 7 } := by
  have hb : (s == 0 || T.getD (s - 1) 0 == 10) = true := by
    rw [getD_at]
    rcases hs with h | h
    · rw [h]; rfl
    · rw [h]; exact Bool.or_true _
  exact (step_exec rfl rfl rfl).trans (ex_at (b := true) rfl rfl hb)
theorem m1_no (T : Array Nat) (s h ls : Nat) (must first : Bool) (seen : Sre.Seen) (h1 : s ≠ 0) (h2 : T[s - 1]?.getD 0 ≠ 10) : (m1 T s h ls must first seen).step = ({ m1 T s h ls must first ((seen.add 6).add 44) with answer := some false } : Sre.M) := by
  have hb : (s == 0 || T.getD (s - 1) 0 == 10) = false := by
    rw [getD_at]
    exact Bool.or_eq_false_iff.mpr ⟨beq_eq_false_iff_ne.mpr h1, beq_eq_false_iff_ne.mpr h2⟩
  exact (step_exec rfl rfl rfl).trans (ex_at (b := false) rfl rfl hb)
/-- behind the line's start -/
noncomputable def m1b (T : Array Nat) (s h ls : Nat) (must first : Bool) (seen : Sre.Seen) : Sre.M := { m1 T s h ls must first seen with pc := 7 }
theorem lit46 {T : Array Nat} {s : Nat} {b : Bool} (hs : s < T.size) (h : (T[s] == 46) = b) : (T.getD s 0 == 46) = b := by
  rw [getD_at, Array.getElem?_eq_getElem hs]
  exact h
theorem m1b_no (T : Array Nat) (s h ls : Nat) (must first : Bool) (seen : Sre.Seen) (hs : s < T.size) (hc : T[s] ≠ 46) : (m1b T s h ls must first seen).step = ({ m1b T s h ls must first (seen.add 16) with answer := some false } : Sre.M) :=
  (step_exec rfl rfl rfl).trans (ex_lit_no rfl (Nat.not_le.mpr hs) (lit46 hs (beq_eq_false_iff_ne.mpr hc)))
theorem m1b_yes (T : Array Nat) (s h ls : Nat) (must first : Bool) (seen : Sre.Seen) (hs : s < T.size) (hc : T[s] = 46) : (m1b T s h ls must first seen).step = ({ m1b T s h ls must first (seen.add 16) with pc := 9, pos := s + 1 } : Sre.M) :=
  (step_exec rfl rfl rfl).trans (ex_lit_yes rfl (Nat.not_le.mpr hs) (lit46 hs (beq_iff_eq.mpr hc)))
theorem m1c (T : Array Nat) (s h ls : Nat) (must first : Bool) (seen : Sre.Seen) : ({ m1b T s h ls must first seen with pc := 9, pos := s + 1 } : Sre.M).step = ({ m1b T s (s + 1) ls must first (seen.add 1) with pc := 9, pos := s + 1, answer := some true } : Sre.M) := by
  have hb : (false || must && (s + 1 == s)) = false := by
    rw [beq_eq_false_iff_ne.mpr (Nat.succ_ne_self s)]
    cases must <;> rfl
  exact (step_exec rfl rfl rfl).trans (ex_success rfl hb)
end Mine
end
/-! ## R3 -/
section
open PySem PySem.W PySem.Calls PyProof.Rows
set_option maxRecDepth 100000
namespace Mine
theorem m1_next (T : Array Nat) (s h ls : Nat) (first : Bool) (seen : Sre.Seen) (hs : s < ls) (p : Nat) (pc : Nat) : (({ m1 T s h ls false first seen with pc := pc, pos := p, answer := some false } : Sre.M).step) = m1 T (s + 1) (s + 1) ls false false seen := by
  unfold Sre.M.step m1
  simp only [Option.isSome_none, Bool.false_eq_true, if_false]
  simp [Sre.M.resume, Sre.M.attemptFrom, Sre.M.hasFirstSet, Sre.M.attemptAt, Sre.M.attempt, Sre.M.putBack, hs, code1]
theorem m1_last (T : Array Nat) (s h ls : Nat) (first : Bool) (seen : Sre.Seen) (hs : ¬ s < ls) (p : Nat) (pc : Nat) : ((({ m1 T s h ls false first seen with pc := pc, pos := p, answer := some false } : Sre.M).runFor 2)).outcome = some .failed := by
  rw [runFor_succ]
  simp only [m1, Option.isSome_none, Bool.false_eq_true, if_false]
  unfold Sre.M.step
  simp only [Option.isSome_none, Bool.false_eq_true, if_false]
  simp [Sre.M.resume, Sre.M.putBack, hs, Sre.M.say, Sre.M.runFor, Sre.M.step]
end Mine
end
/-! ## R4 -/
section
open PySem PySem.W PySem.Calls PyProof.Rows
set_option maxRecDepth 100000
set_option linter.unusedSimpArgs false
namespace Mine
noncomputable def code2 : Array Nat := #[14, 9, 4, 1, 2, 16, 10, 16, 13, 0, 7, 7, 16, 13, 16, 10, 15, 18, 5, 16, 10, 15, 13, 11, 16, 13, 5, 5, 0, 16, 10, 1, 15, 2, 0, 1]
/-- the machine of the second pattern, about to try at s -/
noncomputable def m2 (T : Array Nat) (s ls : Nat) (first : Bool) (seen : Sre.Seen) : Sre.M :=
  { code := code2, text := T, lim := T.size, start := s, lastStart := ls, pc := 10, pos := s, handed := s, outermost := first, marks := #[], seen := seen,
    frames := [{ wait := .nextStart, pc := 10, pos := s, outermost := first }], weight := 1 }
theorem nge {T : Array Nat} {s : Nat} (h : s < T.size) : ¬ (s ≥ T.size) := Nat.not_le.mpr h
noncomputable def fS (s : Nat) (first : Bool) : Sre.Frame := { wait := .nextStart, pc := 10, pos := s, outermost := first }
noncomputable def fB (p s : Nat) (first : Bool) : Sre.Frame := { wait := .nextBranch, pc := p, pos := s, outermost := first }
/-- the second machine in midst of a try -/
noncomputable def st2 (T : Array Nat) (s ls : Nat) (first o : Bool) (seen : Sre.Seen) (pc pos hd w : Nat) (ans : Option Bool) (fr : List Sre.Frame) : Sre.M :=
  { code := code2, text := T, lim := T.size, start := s, lastStart := ls, pc := pc, pos := pos, handed := hd, outermost := o, marks := #[], seen := seen, frames := fr, weight := w, answer := ans }
section
variable {T : Array Nat} {s ls pos hd w : Nat} {first o : Bool} {seen : Sre.Seen} {fr : List Sre.Frame} {pc : Nat}
theorem st_yes {d : Nat} (ho : Nat.blt pc 36 = true) (h1 : Sre.ops[code2.getD pc 0]? = some .LITERAL) (hd1 : code2.getD (pc + 1) 0 = d) (h : T[pos]?.getD 0 = d) (hl : pos < T.size) : (st2 T s ls first o seen pc pos hd w none fr).step = st2 T s ls first o (seen.add (code2.getD pc 0)) (pc + 2) (pos + 1) hd w none fr :=
  (step_exec rfl rfl ho).trans (ex_lit_yes h1 (nge hl) (by show (T.getD pos 0 == code2.getD (pc + 1) 0) = true; rw [hd1, getD_at, h]; exact beq_self_eq_true d))
theorem st_not (ho : Nat.blt pc 36 = true) (h1 : Sre.ops[code2.getD pc 0]? = some .LITERAL) (h : T.size ≤ pos ∨ (pos < T.size ∧ (T[pos]?.getD 0 == code2.getD (pc + 1) 0) = false)) : (st2 T s ls first o seen pc pos hd w none fr).step = st2 T s ls first o (seen.add (code2.getD pc 0)) pc pos hd w (some false) fr := by
  refine (step_exec rfl rfl ho).trans ?_
  rcases h with h | ⟨h, e⟩
  · exact ex_lit_end h1 h
  · exact ex_lit_no h1 (nge h) (by rw [getD_at]; exact e)
end
theorem st_done {T : Array Nat} {s ls pos hd w : Nat} {first : Bool} {seen : Sre.Seen} {p n : Nat} : Hit ((st2 T s ls first first seen 35 pos hd w none [fB p s first, fS s first]).runFor (n + 4)) s pos :=
  hit_step (m' := st2 T s ls first first (seen.add 1) 35 pos pos w (some true) [fB p s first, fS s first]) rfl ((step_exec rfl rfl rfl).trans (ex_success rfl rfl)) (hit_of rfl rfl rfl rfl rfl)
theorem m2_crlf (T : Array Nat) (s ls : Nat) (first : Bool) (seen : Sre.Seen) (h0 : s + 1 < T.size) (h1 : T[s]?.getD 0 = 13) (h2 : T[s + 1]?.getD 0 = 10) : Hit ((m2 T s ls first seen).runFor 10) s (s + 2) := by
  refine hit_step (m' := st2 T s ls first first (seen.add 7) 12 s s 2 none [fB 11 s first, fS s first]) rfl (by kernel_rfl) ?_
  refine hit_step rfl (st_yes rfl rfl rfl h1 (Nat.lt_of_succ_lt h0)) ?_
  refine hit_step rfl (st_yes rfl rfl rfl h2 h0) ?_
  refine hit_step (m' := st2 T s ls first first ((((seen.add 7).add 16).add 16).add 15) 35 (s + 2) s 2 none [fB 11 s first, fS s first]) rfl (by kernel_rfl) ?_
  exact st_done (n := 2)
theorem m2_lf (T : Array Nat) (s ls : Nat) (first : Bool) (seen : Sre.Seen) (h0 : s < T.size) (h1 : T[s]?.getD 0 = 10) : Hit ((m2 T s ls first seen).runFor 14) s (s + 1) := by
  refine hit_step (m' := st2 T s ls first first (seen.add 7) 12 s s 2 none [fB 11 s first, fS s first]) rfl (by kernel_rfl) ?_
  refine hit_step rfl (st_not rfl rfl (.inr ⟨h0, by rw [h1]; rfl⟩)) ?_
  refine hit_step (m' := st2 T s ls first first ((seen.add 7).add 16) 19 s s 2 none [fB 18 s first, fS s first]) rfl (by kernel_rfl) ?_
  refine hit_step rfl (st_yes rfl rfl rfl h1 h0) ?_
  refine hit_step (m' := st2 T s ls first first ((((seen.add 7).add 16).add 16).add 15) 35 (s + 1) s 2 none [fB 18 s first, fS s first]) rfl (by kernel_rfl) ?_
  exact st_done (n := 5)
noncomputable def m2c (T : Array Nat) (s ls : Nat) (first : Bool) (seen : Sre.Seen) : Sre.M := st2 T s ls first first seen 24 s s 2 none [fB 23 s first, fS s first]
theorem m2_alt3 (T : Array Nat) (s ls : Nat) (first : Bool) (seen : Sre.Seen) (h0 : s < T.size) (h1 : T[s]?.getD 0 = 13) (h2 : T.size ≤ s + 1 ∨ (s + 1 < T.size ∧ (T[s + 1]?.getD 0 == 10) = false)) : ∃ seen', (m2 T s ls first seen).runFor 6 = m2c T s ls first seen' := by
  refine ⟨(((seen.add 7).add 16).add 16).add 16, ?_⟩
  refine (run_step (m' := st2 T s ls first first (seen.add 7) 12 s s 2 none [fB 11 s first, fS s first]) rfl (by kernel_rfl)).trans ?_
  refine (run_step rfl (st_yes rfl rfl rfl h1 h0)).trans ?_
  refine (run_step rfl (st_not rfl rfl h2)).trans ?_
  refine (run_step (m' := st2 T s ls first first (((seen.add 7).add 16).add 16) 19 s s 2 none [fB 18 s first, fS s first]) rfl (by kernel_rfl)).trans ?_
  refine (run_step rfl (st_not rfl rfl (.inr ⟨h0, by rw [h1]; rfl⟩))).trans ?_
  exact (run_step (n := 0) (m' := m2c T s ls first ((((seen.add 7).add 16).add 16).add 16)) rfl (by kernel_rfl)).trans rfl
theorem m2_alt3b (T : Array Nat) (s ls : Nat) (first : Bool) (seen : Sre.Seen) (h0 : s < T.size) (h1 : T[s]?.getD 0 = 13) (h2 : T.size ≤ s + 1 ∨ (s + 1 < T.size ∧ (T[s + 1]?.getD 0 == 10) = false)) : Hit ((m2c T s ls first seen).runFor 9) s (s + 1) := by
  refine hit_step rfl (st_yes rfl rfl rfl h1 h0) ?_
  refine hit_step (m' := st2 T s ls first false ((seen.add 16).add 5) 29 (s + 1) (s + 1) 3 none [{ wait := .lookNot, pc := 26, pos := s + 1, outermost := first }, fB 23 s first, fS s first]) rfl ((step_exec rfl rfl rfl).trans ((ex_not rfl rfl).trans (by kernel_rfl))) ?_
  refine hit_step rfl (st_not rfl rfl h2) ?_
  refine hit_step (m' := st2 T s ls first first (((seen.add 16).add 5).add 16) 32 (s + 1) (s + 1) 2 none [fB 23 s first, fS s first]) rfl (by kernel_rfl) ?_
  refine hit_step (m' := st2 T s ls first first ((((seen.add 16).add 5).add 16).add 15) 35 (s + 1) (s + 1) 2 none [fB 23 s first, fS s first]) rfl (by kernel_rfl) ?_
  exact st_done (n := 0)
theorem m2_cr' (T : Array Nat) (s ls : Nat) (first : Bool) (seen : Sre.Seen) (h0 : s < T.size) (h1 : T[s]?.getD 0 = 13) (h2 : T.size ≤ s + 1 ∨ (s + 1 < T.size ∧ (T[s + 1]?.getD 0 == 10) = false)) : Hit ((m2 T s ls first seen).runFor 15) s (s + 1) := by
  obtain ⟨seen', e⟩ := m2_alt3 T s ls first seen h0 h1 h2
  rw [runFor_add 6 9, e]
  exact m2_alt3b T s ls first seen' h0 h1 h2
/-- where the second pattern is admitted -/
noncomputable def brk (T : Array Nat) (i : Nat) : Prop := T[i]?.getD 0 = 10 ∨ T[i]?.getD 0 = 13
theorem inSet2 (c : Nat) (seen : Sre.Seen) : ∃ seen', Sre.inSet code2 c code2.size 5 true seen = .ok (decide (c = 10 ∨ c = 13), seen') := by
  have e : Sre.inSet code2 c code2.size 5 true seen = if c == 10 then .ok (true, seen.add 16) else if c == 13 then .ok (true, (seen.add 16).add 16) else .ok (false, ((seen.add 16).add 16).add 0) := by kernel_rfl
  rw [e]
  by_cases h : c = 10
  · subst h
    exact ⟨_, rfl⟩
  · by_cases h' : c = 13
    · subst h'
      exact ⟨_, rfl⟩
    · rw [if_neg (fun z => h (beq_iff_eq.mp z)), if_neg (fun z => h' (beq_iff_eq.mp z)), decide_eq_false (fun z => z.elim h h')]
      exact ⟨_, rfl⟩
theorem admit2 (m : Sre.M) (hc : m.code = code2) : ∀ (fuel s : Nat) (seen : Sre.Seen), m.lim < s + fuel → 
    (∃ e seen', s ≤ e ∧ e < m.lim ∧ brk m.text e ∧ (∀ i, s ≤ i → i < e → ¬ brk m.text i) ∧ Sre.M.admitted m fuel s seen = .ok (some e, seen')) ∨
    ((∀ i, s ≤ i → i < m.lim → ¬ brk m.text i) ∧ ∃ seen', Sre.M.admitted m fuel s seen = .ok (none, seen'))
  | 0, s, seen, h => .inr ⟨fun i h1 h2 => by lia, seen, rfl⟩
  | fuel + 1, s, seen, h => by
    unfold Sre.M.admitted
    by_cases hs : s ≥ m.lim
    · rw [if_pos hs]
      exact .inr ⟨fun i h1 h2 => by lia, _, rfl⟩
    · rw [if_neg hs, hc]
      obtain ⟨seen', e⟩ := inSet2 (m.text.getD s 0) seen
      rw [e]
      have ed : m.text.getD s 0 = m.text[s]?.getD 0 := by simp
      rw [ed]
      by_cases hb : brk m.text s
      · have : decide (m.text[s]?.getD 0 = 10 ∨ m.text[s]?.getD 0 = 13) = true := decide_eq_true hb
        rw [this]
        exact .inl ⟨s, seen', Nat.le_refl _, by lia, hb, fun i h1 h2 => by lia, rfl⟩
      · have : decide (m.text[s]?.getD 0 = 10 ∨ m.text[s]?.getD 0 = 13) = false := decide_eq_false hb
        rw [this]
        rcases admit2 m hc fuel (s + 1) seen' (by lia) with ⟨e', s', a, b, c, d, f⟩ | ⟨a, s', f⟩
        · exact .inl ⟨e', s', by lia, b, c, fun i h1 h2 => if hi : i = s then hi ▸ hb else d i (by lia) h2, f⟩
        · exact .inr ⟨fun i h1 h2 => if hi : i = s then hi ▸ hb else a i (by lia) h2, s', f⟩
/-- where the second pattern's match ends -/
noncomputable def end2 (T : Array Nat) (s : Nat) : Nat := if T[s]?.getD 0 = 13 ∧ T[s + 1]?.getD 0 = 10 then s + 2 else s + 1
theorem m2_hit (T : Array Nat) (s ls : Nat) (first : Bool) (seen : Sre.Seen) (h0 : s < T.size) (hb : brk T s) : ∃ k, k ≤ 20 ∧ Hit ((m2 T s ls first seen).runFor k) s (end2 T s) := by
  unfold end2
  rcases hb with h | h
  · rw [if_neg (by rw [h]; intro z; exact absurd z.1 (by decide))]
    exact ⟨14, by lia, m2_lf T s ls first seen h0 h⟩
  · by_cases h2 : s + 1 < T.size
    · by_cases h3 : T[s + 1]?.getD 0 = 10
      · rw [if_pos ⟨h, h3⟩]
        exact ⟨10, by lia, m2_crlf T s ls first seen h2 h h3⟩
      · rw [if_neg (fun z => h3 z.2)]
        exact ⟨15, by lia, m2_cr' T s ls first seen h0 h (.inr ⟨h2, beq_eq_false_iff_ne.mpr h3⟩)⟩
    · have e : T[s + 1]?.getD 0 = 0 := by
        rw [Array.getElem?_eq_none (by lia)]; rfl
      rw [if_neg (fun z => by rw [e] at z; exact absurd z.2 (by decide))]
      exact ⟨15, by lia, m2_cr' T s ls first seen h0 h (.inl (by lia))⟩
/-- what a search comes to -/
noncomputable def Miss (m : Sre.M) : Prop := m.outcome = some .failed
noncomputable def base2 (T : Array Nat) (s : Nat) : Sre.M := { code := code2, text := T, lim := T.size, start := s, lastStart := T.size, pc := 10, pos := s, handed := s, marks := #[], seen := ({} : Sre.Seen).add 14 }
theorem for2 (T : Array Nat) (s : Nat) (h : s < T.size) : Sre.forSearch code2 T 0 s T.size false = (base2 T s).attemptFrom s true := by
  have e : (decide (s > T.size) || decide (T.size - s < 1)) = false := by
    rw [Bool.or_eq_false_iff]
    exact ⟨decide_eq_false (by lia), decide_eq_false (by lia)⟩
  show (if (decide (s > T.size) || decide (T.size - s < 1)) = true then _ else _) = _
  rw [e]
  rfl
theorem for2_end (T : Array Nat) (s : Nat) (h : T.size ≤ s) : Miss ((Sre.forSearch code2 T 0 s T.size false).runFor 1) := by
  have e : (decide (s > T.size) || decide (T.size - s < 1)) = true := by
    rw [Bool.or_eq_true]
    exact .inr (decide_eq_true (by lia))
  have e2 : Sre.forSearch code2 T 0 s T.size false = ({ base2 T s with lastStart := 0 } : Sre.M).say false := by
    show (if (decide (s > T.size) || decide (T.size - s < 1)) = true then _ else _) = _
    rw [e]
    rfl
  rw [e2]
  rfl
theorem from2 (T : Array Nat) (s e : Nat) (seen' : Sre.Seen) (f : Sre.M.admitted (base2 T s) (T.size + 1 - s) s (({} : Sre.Seen).add 14) = .ok (some e, seen')) : (base2 T s).attemptFrom s true = m2 T e T.size true seen' := by
  have hf : (base2 T s).hasFirstSet = true := rfl
  have f' : Sre.M.admitted (base2 T s) ((base2 T s).lim + 1 - s) s (base2 T s).seen = .ok (some e, seen') := f
  unfold Sre.M.attemptFrom
  rw [hf, f']
  rfl
theorem from2n (T : Array Nat) (s : Nat) (seen' : Sre.Seen) (f : Sre.M.admitted (base2 T s) (T.size + 1 - s) s (({} : Sre.Seen).add 14) = .ok (none, seen')) : Miss (((base2 T s).attemptFrom s true).runFor 1) := by
  have hf : (base2 T s).hasFirstSet = true := rfl
  have f' : Sre.M.admitted (base2 T s) ((base2 T s).lim + 1 - s) s (base2 T s).seen = .ok (none, seen') := f
  unfold Sre.M.attemptFrom
  rw [hf, f']
  rfl
theorem search2 (T : Array Nat) (s : Nat) (hs : s ≤ T.size) :
    (∃ e k, s ≤ e ∧ e < T.size ∧ brk T e ∧ (∀ i, s ≤ i → i < e → ¬ brk T i) ∧ k ≤ 20 ∧ Hit ((Sre.forSearch code2 T 0 s T.size false).runFor k) e (end2 T e)) ∨
    ((∀ i, s ≤ i → i < T.size → ¬ brk T i) ∧ ∃ k, k ≤ 20 ∧ Miss ((Sre.forSearch code2 T 0 s T.size false).runFor k)) := by
  by_cases h1 : T.size ≤ s
  · exact .inr ⟨fun i a b => by lia, 1, by lia, for2_end T s h1⟩
  · rw [for2 T s (by lia)]
    rcases admit2 (base2 T s) rfl (T.size + 1 - s) s (({} : Sre.Seen).add 14) (by show T.size < _; lia) with ⟨e', s', a, b, c, d, f⟩ | ⟨a, s', f⟩
    · rw [from2 T s e' s' f]
      obtain ⟨k, hk, H⟩ := m2_hit T e' T.size true s' b c
      exact .inl ⟨e', k, a, b, c, d, hk, H⟩
    · exact .inr ⟨a, 1, by lia, from2n T s s' f⟩
end Mine
end
/-! ## R5 -/
section
open PySem PySem.W PySem.Calls PyProof.Rows
set_option maxRecDepth 100000
set_option linter.unusedSimpArgs false
namespace Mine
/-- where the first pattern matches -/
noncomputable abbrev dotAt (T : Array Nat) (i : Nat) : Prop := (i = 0 ∨ T[i - 1]?.getD 0 = 10) ∧ T[i]?.getD 0 = 46
theorem m1_hit (T : Array Nat) (s h ls : Nat) (first : Bool) (seen : Sre.Seen) (hs : s < T.size) (hd : dotAt T s) : Hit ((m1 T s h ls false first seen).runFor 5) s (s + 1) := by
  have e : T[s] = 46 := by
    have := hd.2
    rw [Array.getElem?_eq_getElem hs] at this
    exact this
  exact hit_step rfl (m1_yes T s h ls false first seen hd.1) (hit_step (m := m1b T s h ls false first ((seen.add 6).add 44)) rfl (m1b_yes T s h ls false first _ hs e) (hit_step rfl (m1c T s h ls false first _) ⟨rfl, rfl, rfl⟩))
theorem m1_miss (T : Array Nat) (s h ls : Nat) (first : Bool) (seen : Sre.Seen) (hs : s ≤ T.size) (hd : s < T.size → ¬ dotAt T s) : ∃ k pc pos seen', k ≤ 2 ∧ (m1 T s h ls false first seen).runFor k = ({ m1 T s h ls false first seen' with pc := pc, pos := pos, answer := some false } : Sre.M) := by
  by_cases hb : s = 0 ∨ T[s - 1]?.getD 0 = 10
  · refine ⟨2, 7, s, ((seen.add 6).add 44).add 16, Nat.le_refl _, (run_step rfl (m1_yes T s h ls false first seen hb)).trans ?_⟩
    by_cases hlt : s < T.size
    · have e : T[s] ≠ 46 := fun z => hd hlt ⟨hb, by rw [Array.getElem?_eq_getElem hlt]; exact z⟩
      exact run_step (n := 0) (m := m1b T s h ls false first ((seen.add 6).add 44)) rfl (m1b_no T s h ls false first _ hlt e)
    · exact run_step (n := 0) (m := m1b T s h ls false first ((seen.add 6).add 44)) rfl ((step_exec rfl rfl rfl).trans (ex_lit_end rfl (Nat.le_of_not_lt hlt)))
  · exact ⟨1, 5, s, (seen.add 6).add 44, by decide, run_step (n := 0) rfl (m1_no T s h ls false first seen (fun z => hb (.inl z)) fun z => hb (.inr z))⟩
theorem run1 (T : Array Nat) : ∀ (n s : Nat) (first : Bool) (seen : Sre.Seen) (h : Nat), s + n = T.size →
    (∃ e k, s ≤ e ∧ e < T.size ∧ dotAt T e ∧ (∀ i, s ≤ i → i < e → ¬ dotAt T i) ∧ k ≤ 3 * n + 5 ∧ Hit ((m1 T s h T.size false first seen).runFor k) e (e + 1)) ∨
    ((∀ i, s ≤ i → i < T.size → ¬ dotAt T i) ∧ ∃ k, k ≤ 3 * n + 5 ∧ Miss ((m1 T s h T.size false first seen).runFor k))
  | 0, s, first, seen, h, hn => by
    obtain ⟨k, pc, pos, seen', hk, e⟩ := m1_miss T s h T.size first seen (by lia) (by lia)
    refine .inr ⟨fun i a b => by lia, k + 2, by lia, ?_⟩
    rw [runFor_add, e]
    exact m1_last T s h T.size first seen' (by lia) pos pc
  | n + 1, s, first, seen, h, hn => by
    by_cases hd : dotAt T s
    · exact .inl ⟨s, 5, Nat.le_refl _, by lia, hd, fun i a b => by lia, by lia, m1_hit T s h T.size first seen (by lia) hd⟩
    · obtain ⟨k, pc, pos, seen', hk, e⟩ := m1_miss T s h T.size first seen (by lia) (fun _ => hd)
      have e1 : (m1 T s h T.size false first seen).runFor (k + 1) = m1 T (s + 1) (s + 1) T.size false false seen' := by
        rw [runFor_add, e, runFor_succ]
        show (if (none : Option Sre.Outcome).isSome = true then _ else _) = _
        rw [if_neg (by decide)]
        exact m1_next T s h T.size first seen' (by lia) pos pc
      rcases run1 T n (s + 1) false seen' (s + 1) (by lia) with ⟨e', k', a, b, c, d, f, H⟩ | ⟨a, k', f, H⟩
      · refine .inl ⟨e', k + 1 + k', by lia, b, c, fun i x y => if hi : i = s then hi ▸ hd else d i (by lia) y, by lia, ?_⟩
        rw [runFor_add, e1]
        exact H
      · refine .inr ⟨fun i x y => if hi : i = s then hi ▸ hd else a i (by lia) y, k + 1 + k', by lia, ?_⟩
        rw [runFor_add, e1]
        exact H
theorem for1 (T : Array Nat) (s : Nat) (h : s < T.size) : Sre.forSearch code1 T 0 s T.size false = m1 T s s T.size false true (({} : Sre.Seen).add 14) := by
  have e : (decide (s > T.size) || decide (T.size - s < 1)) = false := by
    rw [Bool.or_eq_false_iff]
    exact ⟨decide_eq_false (by lia), decide_eq_false (by lia)⟩
  show (if (decide (s > T.size) || decide (T.size - s < 1)) = true then _ else _) = _
  rw [e]
  rfl
theorem for1_end (T : Array Nat) (s : Nat) (h : T.size ≤ s) : Miss ((Sre.forSearch code1 T 0 s T.size false).runFor 1) := by
  have e : (decide (s > T.size) || decide (T.size - s < 1)) = true := by
    rw [Bool.or_eq_true]
    exact .inr (decide_eq_true (by lia))
  have e2 : Sre.forSearch code1 T 0 s T.size false = ({ code := code1, text := T, lim := T.size, start := s, pc := 5, pos := s, handed := s, marks := #[], seen := ({} : Sre.Seen).add 14 } : Sre.M).say false := by
    show (if (decide (s > T.size) || decide (T.size - s < 1)) = true then _ else _) = _
    rw [e]
    rfl
  rw [e2]
  rfl
theorem search1 (T : Array Nat) (s : Nat) (hs : s ≤ T.size) :
    (∃ e k, s ≤ e ∧ e < T.size ∧ dotAt T e ∧ (∀ i, s ≤ i → i < e → ¬ dotAt T i) ∧ k ≤ 3 * T.size + 5 ∧ Hit ((Sre.forSearch code1 T 0 s T.size false).runFor k) e (e + 1)) ∨
    ((∀ i, s ≤ i → i < T.size → ¬ dotAt T i) ∧ ∃ k, k ≤ 3 * T.size + 5 ∧ Miss ((Sre.forSearch code1 T 0 s T.size false).runFor k)) := by
  by_cases h1 : T.size ≤ s
  · exact .inr ⟨fun i a b => by lia, 1, by lia, for1_end T s h1⟩
  · rw [for1 T s (by lia)]
    rcases run1 T (T.size - s) s true (({} : Sre.Seen).add 14) s (by lia) with ⟨e', k', a, b, c, d, f, H⟩ | ⟨a, k', f, H⟩
    · exact .inl ⟨e', k', a, b, c, d, by lia, H⟩
    · exact .inr ⟨a, k', by lia, H⟩
end Mine
end
/-! ## R6 -/
section
open PySem PySem.W PySem.Calls PyProof.Rows
set_option maxRecDepth 100000
set_option linter.unusedSimpArgs false
namespace Mine
theorem slot_sub : Slot "re.Pattern" "sub" "re.Pattern.sub" :=
  .of (owner := "re.Pattern") (n := "sub") (by rw [typeLookup_type, builtinLookup_eq_fast]; kernel_rfl) (by decide +kernel) (by decide +kernel) (by decide +kernel)
    (by first | exact .inl (by decide +kernel) | exact .inr (by decide +kernel)) (by rw [isSubtype_type]; kernel_rfl)
theorem type_sub : typeOf (.builtin "re.Pattern.sub") = pure (.type "method_descriptor") := by show builtinType _ = _; rw [builtinType_eq_fast]; kernel_rfl
theorem entry_sub : entryFor table "re.Pattern.sub" = some Builtin.«re.Pattern.sub» := entryFor_of_tree (by kernel_rfl)
theorem entry_sub_loop : entryFor table "re.Pattern.sub.loop" = some Builtin.«re.Pattern.sub.loop» := entryFor_of_tree (by kernel_rfl)
theorem args_sub (a b c : Value) : argsOk "re.Pattern.sub" ⟨[a, b, c], []⟩ := by
  unfold argsOk; kernel_rfl
theorem plain_pat : PlainAttrs "re.Pattern" :=
  ⟨⟨"object.__getattribute__", by rw [typeLookup_type, builtinLookup_eq_fast]; kernel_rfl, by decide +kernel⟩, by rw [typeLookup_type, builtinLookup_eq_fast]; kernel_rfl⟩
theorem quiet_loop (args : Args) : (Code.builtin "re.Pattern.sub.loop" args).quiet = true := Code.quiet_builtin _ (by decide +kernel)
/-- a pattern at pa -/
structure PatAt (h : Heap) (pa ca : Addr) (code : Array Nat) : Prop where
  pat : ∃ o vs, h.get? pa = some o ∧ o.cls = .type "re.Pattern" ∧ o.dict = none ∧ o.data = .fields vs ∧ vs.getD 5 .none = .ref ca ∧ Builtin.Re.reRawNat (vs.getD 6 .none) = 0 ∧ Builtin.Re.reRawNat (vs.getD 2 .none) = 0
  code : ∃ o items n, h.get? ca = some o ∧ o.data = .seq items n ∧ (items.map Builtin.Re.reRawOf).map (·.toNat) = code
theorem PatAt.keeps {h h' : Heap} {pa ca : Addr} {code : Array Nat} (x : PatAt h pa ca code) (k : h.StaysIn h') : PatAt h' pa ca code :=
  ⟨let ⟨o, vs, e, r⟩ := x.pat; ⟨o, vs, k _ _ e, r⟩, let ⟨o, vs, n, e, r⟩ := x.code; ⟨o, vs, n, k _ _ e, r⟩⟩
section
variable {M : Model} {A : Around} {E : Value → Shared → Prop} {s : Shared}
theorem wp_target {pa ca : Addr} {code : Array Nat} {T : Str} {t : Tok} {Q : Builtin.Re.ReTarget → Shared → Prop} (P : PatAt s.heap pa ca code)
    (h : Q { pattern := .ref pa, string := .str T t, code := code, text := T.cps, kind := 0, groups := 0, pos := 0, lim := T.cps.size } s) : wpAny M A (Builtin.Re.reWholeTarget (.ref pa) (.str T t)) Q E s := by
  obtain ⟨o, vs, ho, hc, hdi, hd, h5, h6, h2⟩ := P.pat
  obtain ⟨oc, items, n, hoc, hdc, hcode⟩ := P.code
  unfold Builtin.Re.reWholeTarget
  refine wpAny_bind (wpAny_fieldsOf ho hd ?_)
  refine wpAny_bind (m := Builtin.Re.reTextOf (.str T t)) (wpAny_pure ?_)
  dsimp only
  rw [h6]
  refine wpAny_bind (m := pure ()) (wpAny_pure ?_)
  rw [h5]
  refine wpAny_bind (m := Builtin.Re.reRawItems (.ref ca)) ?_
  unfold Builtin.Re.reRawItems
  refine wpAny_bind (wpAny_seqItems hoc hdc (wpAny_pure ?_))
  refine wpAny_pure ?_
  simp only [Option.getD_some]
  rw [hcode, h2]
  exact h

theorem wp_rules {p : Nat → Bool} {Q : PUnit → Shared → Prop} : ∀ (l : List Nat), Q ⟨⟩ s → wpAny M A (forIn l PUnit.unit fun i r => if p i = true then do rule (Sre.names.getD i ""); pure (ForInStep.yield PUnit.unit) else pure (ForInStep.yield PUnit.unit)) Q E s
  | [], h => by
    rw [List.forIn_nil]
    exact wpAny_pure h
  | a :: l, h => by
    rw [List.forIn_cons]
    refine wpAny_bind ?_
    by_cases hp : p a = true
    · rw [if_pos hp]
      exact wpAny_bind (wpAny_rule (wpAny_pure (wp_rules l h)))
    · rw [if_neg hp]
      exact wpAny_pure (wp_rules l h)
/-- a machine that ends, driven -/
theorem wp_toEnd {m : Sre.M} {k : Nat} {Q : Option Sre.M → Shared → Prop} (hk : k ≤ 2 ^ 40) (h : (∃ a e, Hit (m.runFor k) a e ∧ ∀ m', m'.start = a → m'.handed = e → Q (some m') s) ∨ (Miss (m.runFor k) ∧ Q none s)) : wpAny M A (Builtin.Re.reRunToEnd m) Q E s := by
  have hs : (m.runFor k).outcome.isSome = true := by
    rcases h with ⟨a, e, H, _⟩ | ⟨H, _⟩
    · rw [H.1]; rfl
    · rw [H]; rfl
  have e4 : m.runFor (4 * (k + 1)) = m.runFor k := by
    rw [show 4 * (k + 1) = k + (3 * k + 4) by lia, runFor_add, runFor_done hs]
  unfold Builtin.Re.reRunToEnd
  refine wpAny_bind (wp_drive (k + 1) _ m (by rw [e4]; exact hs) (by lia) ?_)
  rw [e4]
  refine wpAny_bind (wp_rules _ ?_)
  rcases h with ⟨a, e, H, hQ⟩ | ⟨H, hQ⟩
  · rw [H.1]
    exact wpAny_pure (hQ _ H.2.1 H.2.2)
  · rw [show (m.runFor k).outcome = some .failed from H]
    exact wpAny_pure hQ
end
end Mine
end
/-! ## R7 -/
section
open PySem PySem.W PySem.Calls PyProof.Rows
set_option maxRecDepth 100000
set_option linter.unusedSimpArgs false
namespace Mine
/-- what is written from d on -/
inductive Subs (code T : Array Nat) (rep : List Nat) : Nat → List Nat → Prop
  | done {d : Nat} : (∃ k, k ≤ 2 ^ 40 ∧ Miss ((Sre.forSearch code T 0 d T.size false).runFor k)) → d ≤ T.size → Subs code T rep d (T.toList.drop d)
  | step {d a e : Nat} {out : List Nat} : (∃ k, k ≤ 2 ^ 40 ∧ Hit ((Sre.forSearch code T 0 d T.size false).runFor k) a e) → d ≤ a → a < e → e ≤ T.size → Subs code T rep e out → Subs code T rep d ((T.toList.take a).drop d ++ rep ++ out)
noncomputable abbrev lst (ps : List (Str × Tok)) (n : Nat) : Obj := { cls := .type "list", data := .seq (strValues ps).toArray n }
noncomputable def tx (ps : List (Str × Tok)) : List Nat := (ps.map fun p => p.1.cps.toList).flatten
theorem tx_app (ps qs : List (Str × Tok)) : tx (ps ++ qs) = tx ps ++ tx qs := by unfold tx; simp
theorem strValues_app (ps qs : List (Str × Tok)) : strValues (ps ++ qs) = strValues ps ++ strValues qs := by unfold strValues; simp
section
variable {prog : Program} {w : World} {A : Around} {E : Value → Shared → Prop} {s : Shared}
/-- a piece is laid to the list -/
theorem wp_lay {l : Addr} {ps : List (Str × Tok)} {n : Nat} {x : Str} {t : Tok} {Q : Unit → Shared → Prop} (ho : s.heap.get? l = some (lst ps n)) (hl : ps.length ≤ 2 ^ 22)
    (h : ∀ h' n', h'.get? l = some (lst (ps ++ [(x, t)]) n') → Heap.ExtBut l s.heap h' → Q () { s with heap := h' }) : wpAny (model prog w) A (updateSeq l (·.push (.str x t))) Q E s := by
  have hz : (strValues ps).toArray.size = ps.length := by simp [strValues]
  refine wpAny_updateSeq ho rfl ?_ (by rw [hz, sizeLine_eq]; lia) (by rw [Array.size_push, hz, sizeLine_eq]; lia)
  have e := get?_update_seq (c := "list") ho (·.push (.str x t))
  have ea : (strValues ps).toArray.push (.str x t) = (strValues (ps ++ [(x, t)])).toArray := by rw [strValues_app]; simp [strValues]
  rw [ea] at e
  exact h _ _ e (Heap.SameBut.update s.heap l _).extBut
theorem sum_foldl (ps : List (Str × Tok)) : ∀ n, (ps.map (·.1)).foldl (fun (a : Nat) (b : Str) => a + b.length + Str.empty.length) n = n + (tx ps).length := by
  induction ps with
  | nil => intro n; rfl
  | cons p ps ih =>
    intro n
    rw [List.map_cons, List.foldl_cons, ih]
    unfold tx
    simp only [List.map_cons, List.flatten_cons, List.length_append]
    have : p.1.cps.toList.length = p.1.length := by rw [Array.length_toList]; rfl
    have h0 : Str.empty.length = 0 := rfl
    lia
theorem join_cps : ∀ (ps : List (Str × Tok)), (Str.join Str.empty (ps.map (·.1))).cps.toList = tx ps
  | [] => rfl
  | [p] => by unfold tx; simp [Str.join]
  | p :: q :: r => by
    have ih := join_cps (q :: r)
    have e : tx (p :: q :: r) = p.1.cps.toList ++ tx (q :: r) := by unfold tx; simp
    rw [e, ← ih]
    show (p.1 ++ Str.empty ++ Str.join Str.empty ((q :: r).map (·.1))).cps.toList = _
    rw [Str.cps_append, Str.cps_append]
    simp
    rfl
noncomputable abbrev loopArgs (pa l : Addr) (T rep : Str) (tt tr : Tok) (n : Int) (d : Nat) : Args := ⟨[.ref pa, .str T tt, .str rep tr, rawInt 0, rawInt 0, rawInt n, rawInt d, rawInt d, .bool false, .ref l, .bool false], []⟩
theorem sub_go {code : Array Nat} {T rep : Str} {pa ca l : Addr} {tt tr : Tok} (hpl : pa ≠ l) (hcl : ca ≠ l) (hT : T.cps.size ≤ 2 ^ 20) {d : Nat} {out : List Nat} (S : Subs code T.cps rep.cps.toList d out) :
    ∀ (ps : List (Str × Tok)) (n : Int) (m : Nat) (s : Shared) (R : Result → Shared → Prop), PatAt s.heap pa ca code → s.heap.get? l = some (lst ps m) → ps.length ≤ 2 * d → (tx ps ++ out).length ≤ 2 ^ 22 →
      (∀ x t h' tk, x.cps.toList = tx ps ++ out → Heap.ExtBut l s.heap h' → R (.ok (.ret (.str x t))) { s with heap := h', toks := tk }) →
      codeAny (model prog w) A (.builtin "re.Pattern.sub.loop" (loopArgs pa l T rep tt tr n d)) R s := by
  induction S with
  | @done d H hd =>
    intro ps n m s R P hl hps htot hR
    refine codeAny_builtin entry_sub_loop ?_
    unfold Builtin.«re.Pattern.sub.loop»
    dsimp only [loopArgs, rawInt]
    refine wpAny_bind (wp_target P ?_)
    obtain ⟨k, hk, H⟩ := H
    have hd0 : ((d : Int)).toNat = d := rfl
    refine wpAny_bind (m := pure ()) (wpAny_pure ?_)
    refine wpAny_bind (m := Builtin.Re.reRunToEnd _) (wp_toEnd hk (.inr ⟨H, ?_⟩))
    have key : ∀ (ps' : List (Str × Tok)) (m' : Nat) (s' : Shared), s'.heap.get? l = some (lst ps' m') → tx ps' = tx ps ++ T.cps.toList.drop d → Heap.ExtBut l s.heap s'.heap → (∃ h' tk, s' = { s with heap := h', toks := tk }) → 
        wpAny (model prog w) A.in1 (do
          let joiner ← Builtin.Re.reSlice T.cps 0 0 0
          let xs ← seqItems? (.ref l)
          if (xs.getD #[]).isEmpty = true then do
            let text ← pure joiner
            if false = true then do ret (← holding [text] do newTuple [text, ← mkInt n]) else ret text
          else do
            let text ← call (.builtin (if ((0 : Nat) == 0) = true then "str.join" else "bytes.join")) [joiner, .ref l]
            if false = true then do ret (← holding [text] do newTuple [text, ← mkInt n]) else ret text)
          (fun fin s' => match fin with | .done f => R (.ok f) s' | .again c' => c'.quiet = true ∧ codeAny (model prog w) A c' R s') (fun e s' => R (.error e) s') s' := by
      rintro ps' m' s' hl' htx hx ⟨h₁, tk₁, rfl⟩
      have e00 : (⟨T.cps.extract 0 0⟩ : Str) = Str.empty := by simp [Str.empty]
      refine wpAny_bind ?_
      show wpAny _ _ (mkStr ⟨T.cps.extract 0 0⟩) _ _ _
      rw [e00]
      refine wpAny_mkStr ?_ (by decide)
      refine wpAny_bind (wpAny_seqItems hl' rfl ?_)
      have hlen : (strValues ps').toArray.size = ps'.length := by simp [strValues]
      by_cases hemp : ps' = []
      · subst hemp
        refine wpAny_bind (wpAny_pure ?_)
        show wpAny _ _ (ret _) _ _ _
        refine wpAny_pure (hR Str.empty _ _ _ ?_ hx)
        rw [← htx]
        rfl
      · have hne : (strValues ps').toArray.isEmpty = false := by
          rw [Array.isEmpty_eq_false_iff]
          intro z
          have := congrArg Array.size z
          rw [hlen] at this
          exact hemp (List.length_eq_zero_iff.mp this)
        show wpAny _ _ (if (strValues ps').toArray.isEmpty = true then _ else _) _ _ _
        rw [hne]
        refine wpAny_bind ?_
        have htot' : (tx ps').length ≤ 2 ^ 22 := by rw [htx]; exact htot
        refine call_meets PySem.F.slot_str_join (typeIs_str _ _ _) PySem.F.entry_str_join (PySem.F.args_str_join_2 _ _) (meets_str_join_list Str.empty _ l ps' ?_) ⟨⟨_, hl', rfl, _, rfl⟩, ?_⟩
        · unfold Builtin.Str.tooLong
          rw [List.foldl_toArray, sum_foldl]
          exact decide_eq_false (by rw [sizeLine_eq]; lia)
        · have fin : ∀ x t tk, x.cps.toList = tx ps' → wpAny (model prog w) A.in1 (ret (.str x t)) (fun fin s' => match fin with | .done f => R (.ok f) s' | .again c' => c'.quiet = true ∧ codeAny (model prog w) A c' R s') (fun e s' => R (.error e) s') { s with heap := h₁, toks := tk } := fun x t tk hx' =>
            wpAny_pure (hR x t _ _ (hx'.trans htx) hx)
          match ps', hemp, htot' with
          | [p], _, _ => exact fin p.1 p.2 _ (by unfold tx; simp)
          | p :: q :: r, _, htot' =>
            refine ⟨?_, ?_⟩
            · rw [StrLaws.glued_eq_join]
              have := congrArg List.length (join_cps (p :: q :: r))
              rw [Array.length_toList] at this
              show (Str.join Str.empty ((p :: q :: r).map (·.1))).cps.size ≤ _
              rw [this, sizeLine_eq]
              lia
            · exact fin (Builtin.Str.glued Str.empty ((p :: q :: r).map fun (y : Str × Tok) => y.1)) _ _ (by rw [StrLaws.glued_eq_join]; exact join_cps (p :: q :: r))
    show wpAny _ _ (if d < T.cps.size then _ else _) _ _ _
    by_cases hlt : d < T.cps.size
    · rw [if_pos hlt]
      refine wpAny_bind (m := mkStr ⟨T.cps.extract d T.cps.size⟩) ?_
      have hex : (⟨T.cps.extract d T.cps.size⟩ : Str).cps.toList = T.cps.toList.drop d := by
        simp [List.take_of_length_le]
      refine wpAny_mkStr ?_ (by show (T.cps.extract d T.cps.size).size ≤ _; rw [Array.size_extract, sizeLine_eq]; lia)
      refine wpAny_bind (wp_lay hl (by lia) fun h' n' hl' hx => ?_)
      refine key _ _ _ hl' ?_ hx ⟨_, _, rfl⟩
      rw [tx_app]
      unfold tx
      simp
      exact List.take_of_length_le (by simp)
    · rw [if_neg hlt]
      refine key ps m s hl ?_ (Heap.ExtBut.refl _ _) ⟨_, _, rfl⟩
      rw [List.drop_eq_nil_of_le (by rw [Array.length_toList]; lia), List.append_nil]
  | @step d a e out H hda hae he S ih =>
    intro ps n m s R P hl hps htot hR
    refine codeAny_builtin entry_sub_loop ?_
    unfold Builtin.«re.Pattern.sub.loop»
    dsimp only [loopArgs, rawInt]
    refine wpAny_bind (wp_target P ?_)
    obtain ⟨k, hk, H⟩ := H
    refine wpAny_bind (m := pure ()) (wpAny_pure ?_)
    refine wpAny_bind (m := Builtin.Re.reRunToEnd _) (wp_toEnd hk (.inl ⟨a, e, H, fun m' hs' he' => ?_⟩))
    have key : ∀ (ps' : List (Str × Tok)) (mm : Nat) (s' : Shared), s'.heap.get? l = some (lst ps' mm) → tx ps' = tx ps ++ (T.cps.toList.take a).drop d → ps'.length ≤ ps.length + 1 → Heap.ExtBut l s.heap s'.heap → (∃ h' tk, s' = { s with heap := h', toks := tk }) →
        wpAny (model prog w) A.in1 (do
          updateSeq l (·.push (.str rep tr))
          again (.builtin "re.Pattern.sub.loop" (loopArgs pa l T rep tt tr (n + 1) e)))
          (fun fin s' => match fin with | .done f => R (.ok f) s' | .again c' => c'.quiet = true ∧ codeAny (model prog w) A c' R s') (fun e s' => R (.error e) s') s' := by
      rintro ps' mm s' hl' htx hlen hx ⟨h₁, tk₁, rfl⟩
      refine wpAny_bind (wp_lay hl' (by lia) fun h' n' hl₂ hx₂ => ?_)
      have ex : Heap.ExtBut l s.heap h' := hx.trans hx₂
      have etx : tx (ps' ++ [(rep, tr)]) = tx ps ++ (T.cps.toList.take a).drop d ++ rep.cps.toList := by
        rw [tx_app, htx]
        unfold tx
        simp
      have P' : PatAt h' pa ca code := by
        obtain ⟨o, vs, q, r⟩ := P.pat
        obtain ⟨oc, vs', n', q', r'⟩ := P.code
        exact ⟨⟨o, vs, ex _ _ hpl q, r⟩, ⟨oc, vs', n', ex _ _ hcl q', r'⟩⟩
      refine wpAny_pure ⟨quiet_loop _, ih _ (n + 1) _ _ R P' hl₂ (by rw [List.length_append, List.length_singleton]; lia) ?_ fun x t h₂ tk hx₃ ht => ?_⟩
      · rw [etx]
        have : tx ps ++ (T.cps.toList.take a).drop d ++ rep.cps.toList ++ out = tx ps ++ ((T.cps.toList.take a).drop d ++ rep.cps.toList ++ out) := by simp
        rw [this]
        exact htot
      · refine hR x t _ _ ?_ (ex.trans ht)
        rw [hx₃, etx]
        simp
    have emust : (m'.handed == m'.start) = false := by rw [hs', he']; exact beq_eq_false_iff_ne.mpr (by lia)
    subst hs' he'
    dsimp only
    rw [emust]
    show wpAny _ _ (if d < m'.start then _ else _) _ _ _
    by_cases hlt : d < m'.start
    · rw [if_pos hlt]
      refine wpAny_bind (m := mkStr ⟨T.cps.extract d m'.start⟩) ?_
      refine wpAny_mkStr ?_ (by show (T.cps.extract d m'.start).size ≤ _; rw [Array.size_extract, sizeLine_eq]; lia)
      refine wpAny_bind (wp_lay hl (by lia) fun h' n' hl' hx => ?_)
      refine key _ _ _ hl' ?_ (by simp) hx ⟨_, _, rfl⟩
      rw [tx_app]
      unfold tx
      simp
      rw [List.drop_take]
    · rw [if_neg hlt]
      refine key ps m s hl ?_ (by lia) (Heap.ExtBut.refl _ _) ⟨_, _, rfl⟩
      have : m'.start = d := by lia
      rw [this, List.drop_eq_nil_of_le (by simp; lia), List.append_nil]
end
end Mine
end
/-! ## R8 -/
section
open PySem PySem.W PySem.Calls PyProof.Rows
set_option maxRecDepth 100000
set_option linter.unusedSimpArgs false
namespace Mine
theorem noCall_str {i : Str} {t : Tok} : specialOf (.str i t) "__call__" = pure none := by show typeLookup (.type "str") _ = _; rw [typeLookup_type, builtinLookup_eq_fast]; kernel_rfl
theorem named_sub (a b : Value) : Builtin.Re.reNamed "re.Pattern.sub" "sub" ["repl", "string", "count"] 2 [a, b] [] = pure [some a, some b, none] := rfl
theorem wp_subcall {prog : Program} {w : World} {A : Around} {s : Shared} {code : Array Nat} {T rep : Str} {pa ca : Addr} {tt tr : Tok} {out : List Nat} {Q E : Value → Shared → Prop} (P : PatAt s.heap pa ca code) (S : Subs code T.cps rep.cps.toList 0 out)
    (hT : T.cps.size ≤ 2 ^ 20) (ho : out.length ≤ 2 ^ 22) (h92 : rep.cps.contains 92 = false) (hQ : ∀ x t h' tk, x.cps.toList = out → s.heap.StaysIn h' → Q (.str x t) { s with heap := h', toks := tk }) :
    wpAny (model prog w) A (call (.builtin "re.Pattern.sub") [.ref pa, .str rep tr, .str T tt]) Q E s := by
  have hty : s.TypeIs (.ref pa) "re.Pattern" := let ⟨o, vs, e, hc, _⟩ := P.pat; ⟨o, e, hc⟩
  refine call_meetsIn (S := fun A R s => wpAny (model prog w) A.in1 (Builtin.«re.Pattern.sub» ⟨[.ref pa, .str rep tr, .str T tt], []⟩) (fun fin s' => match fin with | .done f => R (.ok f) s' | .again c' => c'.quiet = true ∧ codeAny (model prog w) A c' R s') (fun e s' => R (.error e) s') s) slot_sub hty entry_sub (args_sub _ _ _) (fun A R s h => h) ?_
  unfold Builtin.«re.Pattern.sub» Builtin.Re.reSubstitute
  dsimp only
  rw [named_sub]
  refine wpAny_bind (wpAny_pure ?_)
  dsimp only
  refine wpAny_bind (m := pure 0) (wpAny_pure ?_)
  rw [noCall_str]
  refine wpAny_bind (wpAny_pure ?_)
  show wpAny _ _ (do
      let literal ← (if (none : Option Value).isSome = true then pure false else do match ← asStr? (.str rep tr) with
        | some s => pure !s.cps.contains 92
        | none => do match ← Builtin.Bytes.bufferQuiet? "re.Pattern.sub" (.str rep tr) with
          | some b => pure !b.contains 92
          | none => pure false)
      _) _ _ s
  rw [show (none : Option Value).isSome = false from rfl, if_neg (by decide)]
  refine wpAny_bind (wpAny_bind (m := pure (some rep)) (wpAny_pure (wpAny_pure ?_)))
  rw [h92]
  show wpAny _ _ (do
      let x ← (pure (Value.str rep tr, (0 : Int)) : Sem (Value × Int))
      _) _ _ s
  refine wpAny_bind (wpAny_pure ?_)
  refine wpAny_bind (wpAny_pure ?_)
  refine wpAny_bind (wpAny_holding (wp_target P ?_))
  show wpAny _ _ (do let l ← newList []; _) _ _ s
  refine wpAny_bind (wpAny_newList ?_ (Nat.zero_le _))
  have hpl : pa ≠ s.heap.objs.size := by
    obtain ⟨o, vs, e, _⟩ := P.pat
    exact Nat.ne_of_lt (Heap.lt_size e)
  have hcl : ca ≠ s.heap.objs.size := by
    obtain ⟨o, vs, n, e, _⟩ := P.code
    exact Nat.ne_of_lt (Heap.lt_size e)
  refine wpAny_pure ⟨quiet_loop _, ?_⟩
  refine sub_go (tt := tt) (tr := tr) hpl hcl hT S [] 0 0 _ _ (P.keeps (push_stays _ _)) (Heap.get?_push_size _ rfl) (by simp) (by simpa [tx] using ho) fun x t h' tk hx he => ?_
  refine hQ x t h' tk (by simpa [tx] using hx) fun b o e => he b o (Nat.ne_of_lt (Heap.lt_size e)) (Heap.get?_push_of_some _ e)

/-- what stands at the top for quotedata -/
structure Qd (c : Cx) : Prop where
  p1 : PatAt c.g0 36 35 code1
  p2 : PatAt c.g0 41 40 code2
  n1 : GN c (Str.ofString "_twin_re_1") (.ref 36)
  n2 : GN c (Str.ofString "_twin_re_2") (.ref 41)
  crlf : ∃ t, GN c (Str.ofString "CRLF") (.str (Str.ofString "\u000d\n") t)
section
variable {c : Cx} {A : Around} {env : Env} {ρ : List (Str × PyData)}
/-- a pattern's sub, called -/
theorem ev_sub {x : Str} {xp ap cp : Pos} {e₁ e₂ : Expr} {pa ca : Addr} {code : Array Nat} {rep T : Str} {out : List Nat} {pl : Sem Bool} (P : PatAt c.g0 pa ca code) (N : GN c x (.ref pa)) (hk : env.kindOf x = some .globalImplicit) (h₁ : Ev c A env ρ e₁ (.str rep)) (h₂ : Ev c A env ρ e₂ (.str T))
    (S : Subs code T.cps rep.cps.toList 0 out) (hT : T.cps.size ≤ 2 ^ 20) (ho : out.length ≤ 2 ^ 22) (h92 : rep.cps.contains 92 = false)
    (he : eval (.Call (.Attribute (.Name x xp) "sub" ap) [e₁, e₂] [] cp) env = (do
      let ov ← eval (.Name x xp) env
      standAt ap.atName
      let (f, first) ← holding [ov] (getMethod ov "sub" pl)
      callWith cp f first (backTo cp (starEach [e₁, e₂] env)) []) := by rfl)
    (he2 : starEach [e₁, e₂] env = (false, eval e₁ env) :: starEach [e₂] env := by rfl) (he3 : starEach [e₂] env = (false, eval e₂ env) :: starEach [] env := by rfl) (hpl : (backTo cp (starEach [e₂] env)).any (·.1) = false := by rfl) (hd : (x == ("__debug__" : Str)) = false := by decide) :
    Ev c A env ρ (.Call (.Attribute (.Name x xp) "sub" ap) [e₁, e₂] [] cp) (.str ⟨out.toArray⟩) := by
  intro g s Q E hg S' hQ
  have P' := P.keeps (stays_trans hg S'.gs)
  obtain ⟨o, vs, ho', hc, hdi, hrest⟩ := P'.pat
  refine MethodCall_ (pl := pl) (name_GN N hk hg S' ?_ hd) he
  refine getMethod_builtin ⟨o, ho', hc⟩ plain_pat slot_sub type_sub (fun a e => by cases e; exact ⟨o, ho', hdi⟩) ?_
  refine callWith_method1 ?_ he2 hpl
  refine (evs_cons h₁ (evs_cons h₂ evs_nil he3) he2) cp g s _ _ hg S' fun vs g₁ s₁ G₁ r₁ => ?_
  have zq := rdC r₁; clear r₁; obtain ⟨_, _, rfl, r₁, r'⟩ := zq
  have zq := rdC r'; clear r'; obtain ⟨_, _, rfl, r₂, r''⟩ := zq
  first | (obtain ⟨_, rfl⟩ := rdI r'') | (obtain ⟨_, rfl⟩ := rdS r'') | (obtain rfl := rdN r'') | cases r''
  obtain ⟨tr, rfl⟩ := rdS r₁
  obtain ⟨tt, rfl⟩ := rdS r₂
  refine wp_subcall (P'.keeps G₁.ss) S hT ho h92 fun x t h' tk hx st => ?_
  have e : x = ⟨out.toArray⟩ := by
    obtain ⟨⟨l⟩⟩ := x
    simp only at hx
    rw [← hx]
  subst e
  exact hQ _ g₁ _ (G₁.trans (gr_of G₁.gs st)) (.str _ _)
end
theorem f_quote {c : Cx} {x : Str} {fa : Addr} {T : Str} {mid out : List Nat} (D : DF c x fa 9) (K : Qd c) (S₂ : Subs code2 T.cps [13, 10] 0 mid) (S₁ : Subs code1 mid.toArray [46, 46] 0 out) (hT : T.cps.size ≤ 2 ^ 20) (hm : mid.length ≤ 2 ^ 20) (ho : out.length ≤ 2 ^ 22) :
    Fn c 1 fa [.str T] (.str ⟨out.toArray⟩) := by
  refine fn_at (n := 0) (ns := [Str.ofString "data"]) D rfl ?_ (by decide) (kinds_of (by rfl)) ?_ rfl rfl rfl
  · exact bind_via fun fd => vs1 fun _ => rfl
  · intro A L q code r
    obtain ⟨tc, hc⟩ := K.crlf
    refine x_ret (x_return (ev_sub (rep := Str.ofString "..") K.p1 K.n1 rfl ev_str (ev_sub (rep := Str.ofString "\u000d\n") K.p2 K.n2 rfl (fun g s Q E hg S hQ => name_GN hc rfl hg S (hQ _ _ _ (Gr.refl S.gs) (.str _ _))) (ev_name rfl) S₂ hT (by lia) (by decide +kernel)) S₁ (by show mid.toArray.size ≤ _; simpa using hm) ho (by decide +kernel)))
end Mine
end
/-! ## R9 -/
section
open PySem PySem.W PySem.Calls PyProof.Rows
set_option maxRecDepth 100000
set_option linter.unusedSimpArgs false
namespace Mine
/-- all ends of rows as CR LF (b: a CR stands ahead) -/
noncomputable def normL : Bool → List Nat → List Nat
  | _, [] => []
  | b, c :: r => if c = 13 then 13 :: 10 :: normL true r else if c = 10 then (if b then normL false r else 13 :: 10 :: normL false r) else c :: normL false r
/-- a dot more ahead of each row that begins with one -/
noncomputable def dotsL : Bool → List Nat → List Nat
  | _, [] => []
  | b, c :: r => if b = true ∧ c = 46 then 46 :: 46 :: dotsL false r else c :: dotsL (c == 10) r
theorem normL_cons (b : Bool) (c : Nat) (r : List Nat) : normL b (c :: r) = if c = 13 then 13 :: 10 :: normL true r else if c = 10 then (if b then normL false r else 13 :: 10 :: normL false r) else c :: normL false r := rfl
theorem dotsL_cons (b : Bool) (c : Nat) (r : List Nat) : dotsL b (c :: r) = if b = true ∧ c = 46 then 46 :: 46 :: dotsL false r else c :: dotsL (c == 10) r := rfl
theorem take_drop_self (l : List Nat) (d : Nat) : (l.take d).drop d = [] := List.drop_eq_nil_of_le (by rw [List.length_take]; exact Nat.min_le_left _ _)
theorem drop_at {T : Array Nat} {d : Nat} (h : d < T.size) : T.toList.drop d = T[d]?.getD 0 :: T.toList.drop (d + 1) := by
  have h' : d < T.toList.length := by rw [Array.length_toList]; exact h
  rw [List.drop_eq_getElem_cons h', Array.getElem_toList, Array.getElem?_eq_getElem h]
  rfl
theorem take_at {T : Array Nat} {d e : Nat} (h : d < e) (he : e ≤ T.size) : (T.toList.take e).drop d = T[d]?.getD 0 :: (T.toList.take e).drop (d + 1) := by
  have h' : d < (T.toList.take e).length := by rw [List.length_take, Array.length_toList]; lia
  rw [List.drop_eq_getElem_cons h', List.getElem_take, Array.getElem_toList, Array.getElem?_eq_getElem (by lia)]
  rfl
theorem norm_skip {T : Array Nat} {e : Nat} (he : e ≤ T.size) : ∀ (n d : Nat), d + n = e → (∀ i, d ≤ i → i < e → ¬ brk T i) → normL false (T.toList.drop d) = (T.toList.take e).drop d ++ normL false (T.toList.drop e)
  | 0, d, hd, h => by
    have : d = e := by lia
    subst this
    rw [take_drop_self, List.nil_append]
  | n + 1, d, hd, h => by
    have hb := h d (Nat.le_refl _) (by lia)
    unfold brk at hb
    rw [drop_at (by lia), take_at (by lia) he]
    rw [normL_cons, if_neg (fun z => hb (.inr z)), if_neg (fun z => hb (.inl z)), norm_skip he n (d + 1) (by lia) (fun i a b => h i (by lia) b)]
    rfl
theorem norm_hit {T : Array Nat} {e : Nat} (he : e < T.size) (hb : brk T e) : normL false (T.toList.drop e) = [13, 10] ++ normL false (T.toList.drop (end2 T e)) := by
  rw [drop_at he]
  unfold end2
  rcases hb with h | h
  · rw [h, if_neg (fun z => absurd z.1 (by decide))]
    rfl
  · rw [h]
    by_cases h2 : T[e + 1]?.getD 0 = 10
    · have hlt : e + 1 < T.size := by
        rcases Nat.lt_or_ge (e + 1) T.size with z | z
        · exact z
        · rw [Array.getElem?_eq_none z] at h2; cases h2
      rw [if_pos ⟨rfl, h2⟩, drop_at hlt, h2]
      rfl
    · rw [if_neg (fun z => h2 z.2)]
      show 13 :: 10 :: normL true (T.toList.drop (e + 1)) = 13 :: 10 :: normL false (T.toList.drop (e + 1))
      congr 2
      rcases Nat.lt_or_ge (e + 1) T.size with z | z
      · rw [drop_at z]
        rw [normL_cons, normL_cons, if_neg h2, if_neg h2]
      · rw [List.drop_eq_nil_of_le (by rw [Array.length_toList]; exact z)]
        rfl
theorem end2_le {T : Array Nat} {e : Nat} (he : e < T.size) : e < end2 T e ∧ end2 T e ≤ T.size := by
  unfold end2
  split
  · rename_i h
    have : e + 1 < T.size := by
      rcases Nat.lt_or_ge (e + 1) T.size with z | z
      · exact z
      · rw [Array.getElem?_eq_none z] at h; exact absurd h.2 (by decide)
    lia
  · lia
theorem subs2T (T : Array Nat) (hT : T.size ≤ 2 ^ 20) : ∀ (n d : Nat), T.size - d ≤ n → d ≤ T.size → Subs code2 T [13, 10] d (normL false (T.toList.drop d))
  | n, d, hn, hd => by
    rcases search2 T d hd with ⟨e, k, a, b, hb, c, hk, H⟩ | ⟨a, k, hk, H⟩
    · obtain ⟨l1, l2⟩ := end2_le b
      rw [norm_skip (Nat.le_of_lt b) (e - d) d (by lia) c, norm_hit b hb, ← List.append_assoc]
      match n with
      | 0 => lia
      | n + 1 => exact .step ⟨k, by lia, H⟩ a l1 l2 (subs2T T hT n _ (by lia) l2)
    · have e := norm_skip (Nat.le_refl T.size) (T.size - d) d (by lia) a
      have e1 : T.toList.drop T.size = [] := List.drop_eq_nil_of_le (by rw [Array.length_toList]; exact Nat.le_refl _)
      have e3 : T.toList.take T.size = T.toList := List.take_of_length_le (by rw [Array.length_toList]; exact Nat.le_refl _)
      rw [e1, e3, show normL false [] = [] from rfl, List.append_nil] at e
      rw [e]
      exact .done ⟨k, by lia, H⟩ hd
noncomputable def bol (T : Array Nat) (d : Nat) : Bool := decide (d = 0 ∨ T[d - 1]?.getD 0 = 10)
theorem bol_succ (T : Array Nat) (d : Nat) : bol T (d + 1) = (T[d]?.getD 0 == 10) := by
  unfold bol
  simp
  by_cases h : T[d]?.getD 0 = 10 <;> simp [h]
theorem dots_skip {T : Array Nat} {e : Nat} (he : e ≤ T.size) : ∀ (n d : Nat), d + n = e → (∀ i, d ≤ i → i < e → ¬ dotAt T i) → dotsL (bol T d) (T.toList.drop d) = (T.toList.take e).drop d ++ dotsL (bol T e) (T.toList.drop e)
  | 0, d, hd, h => by
    have : d = e := by lia
    subst this
    rw [take_drop_self, List.nil_append]
  | n + 1, d, hd, h => by
    have hb := h d (Nat.le_refl _) (by lia)
    rw [drop_at (by lia), take_at (by lia) he]
    rw [dotsL_cons, if_neg (fun z => hb ⟨of_decide_eq_true z.1, z.2⟩), ← bol_succ, dots_skip he n (d + 1) (by lia) (fun i a b => h i (by lia) b)]
    rfl
theorem dots_hit {T : Array Nat} {e : Nat} (he : e < T.size) (hb : dotAt T e) : dotsL (bol T e) (T.toList.drop e) = [46, 46] ++ dotsL (bol T (e + 1)) (T.toList.drop (e + 1)) := by
  rw [drop_at he, bol_succ]
  rw [dotsL_cons, if_pos ⟨decide_eq_true hb.1, hb.2⟩, hb.2]
  rfl
theorem subs1T (T : Array Nat) (hT : T.size ≤ 2 ^ 20) : ∀ (n d : Nat), T.size - d ≤ n → d ≤ T.size → Subs code1 T [46, 46] d (dotsL (bol T d) (T.toList.drop d))
  | n, d, hn, hd => by
    rcases search1 T d hd with ⟨e, k, a, b, hb, c, hk, H⟩ | ⟨a, k, hk, H⟩
    · rw [dots_skip (Nat.le_of_lt b) (e - d) d (by lia) c, dots_hit b hb, ← List.append_assoc]
      match n with
      | 0 => lia
      | n + 1 => exact .step ⟨k, by lia, H⟩ a (by lia) (by lia) (subs1T T hT n _ (by lia) (by lia))
    · have e := dots_skip (Nat.le_refl T.size) (T.size - d) d (by lia) a
      have e1 : T.toList.drop T.size = [] := List.drop_eq_nil_of_le (by rw [Array.length_toList]; exact Nat.le_refl _)
      have e3 : T.toList.take T.size = T.toList := List.take_of_length_le (by rw [Array.length_toList]; exact Nat.le_refl _)
      rw [e1, e3, show dotsL (bol T T.size) [] = [] from rfl, List.append_nil] at e
      rw [e]
      exact .done ⟨k, by lia, H⟩ hd
/-- what quotedata answers -/
noncomputable def quoteL (T : List Nat) : List Nat := dotsL true (normL false T)
theorem normL_len : ∀ (l : List Nat) (b : Bool), (normL b l).length ≤ 2 * l.length
  | [], _ => Nat.le_refl _
  | c :: r, b => by
    unfold normL
    have h1 := normL_len r true
    have h2 := normL_len r false
    split
    · simp only [List.length_cons]; lia
    · split
      · split
        · simp only [List.length_cons]; lia
        · simp only [List.length_cons]; lia
      · simp only [List.length_cons]; lia
theorem dotsL_len : ∀ (l : List Nat) (b : Bool), (dotsL b l).length ≤ 2 * l.length
  | [], _ => Nat.le_refl _
  | c :: r, b => by
    unfold dotsL
    split
    · have := dotsL_len r false
      simp only [List.length_cons]; lia
    · have := dotsL_len r (c == 10)
      simp only [List.length_cons]; lia
theorem f_quoted {c : Cx} {x : Str} {fa : Addr} {T : Str} (D : DF c x fa 9) (K : Qd c) (hT : T.cps.size ≤ 2 ^ 18) : Fn c 1 fa [.str T] (.str ⟨(quoteL T.cps.toList).toArray⟩) := by
  have l1 := normL_len T.cps.toList false
  have l2 := dotsL_len (normL false T.cps.toList) true
  have l0 : T.cps.toList.length = T.cps.size := Array.length_toList
  refine f_quote (mid := normL false T.cps.toList) D K ?_ ?_ (by lia) (by lia) (by show (dotsL true (normL false T.cps.toList)).length ≤ _; lia)
  · have := subs2T T.cps (by lia) _ 0 (Nat.le_refl _) (Nat.zero_le _)
    rwa [List.drop_zero] at this
  · have := subs1T (normL false T.cps.toList).toArray (by simp; lia) _ 0 (Nat.le_refl _) (Nat.zero_le _)
    rwa [List.drop_zero] at this
theorem k_quote {c : Cx} (hR : PySem.Challenge.rw_jc0014_01 = PySem.Challenge.rw_jc0014_01) (B : Bs c) (X : (Kh c.w.params).In c.g0) : Qd c := by
  revert hR X; k_fill; intro hR X
  refine ⟨⟨⟨_, _, X _ _ (by k_is), rfl, rfl, rfl, rfl, rfl, rfl⟩, ⟨_, _, _, X _ _ (by k_is), rfl, by kernel_rfl⟩⟩, ⟨⟨_, _, X _ _ (by k_is), rfl, rfl, rfl, rfl, rfl, rfl⟩, ⟨_, _, _, X _ _ (by k_is), rfl, by kernel_rfl⟩⟩, gn_of B (by k_is), gn_of B (by k_is), ⟨_, gn_of B (by k_is)⟩⟩
end Mine
end
/-! ## R10 -/
section
open PySem PySem.W PySem.Calls PyProof.Rows
set_option maxRecDepth 100000
set_option linter.unusedSimpArgs false
namespace Mine
open PySem.StrLaws PySem.Builtin PySem.Builtin.Str
noncomputable abbrev crlf : Str := Str.ofString "\u000d\n"
theorem crlf_cps : crlf.cps.toList = [13, 10] := by decide +kernel
theorem crlf_len : crlf.length = 2 := by decide +kernel
/-- rows with ends between them -/
noncomputable def joinL : List (List Nat) → List Nat
  | [] => []
  | [r] => r
  | r :: rs => r ++ 13 :: 10 :: joinL rs
noncomputable def cutsL : List (List Nat) → Nat → List Nat
  | [], _ => []
  | [_], _ => []
  | r :: rs, p => (p + r.length) :: cutsL rs (p + r.length + 2)
theorem occ_skip (x : Str) (limit : Nat) (st : Array Nat × Nat) : ∀ (k p n : Nat), k ≤ n → (∀ i, p ≤ i → i < p + k → subAt x crlf i = false ∨ i < st.snd) →
    forIn (List.range' p n) st (occBody x crlf x.length limit) = forIn (List.range' (p + k) (n - k)) st (occBody x crlf x.length limit)
  | 0, p, n, _, _ => rfl
  | k + 1, p, 0, h, _ => by lia
  | k + 1, p, n + 1, h, hs => by
    rw [List.range'_succ, List.forIn_cons]
    have hc : ¬ (((st.fst.size < limit ∧ st.snd ≤ p) ∧ p + crlf.length ≤ x.length) ∧ subAt x crlf p = true) := fun z => by
      rcases hs p (Nat.le_refl _) (by lia) with e | e
      · rw [e] at z; exact absurd z.2 (by decide)
      · lia
    have e1 : occBody x crlf x.length limit p st = pure (ForInStep.yield st) := by
      unfold occBody
      rw [if_neg hc]
    rw [e1]
    have ih := occ_skip x limit st k (p + 1) n (by lia) (fun i a b => hs i (by lia) (by lia))
    show forIn (List.range' (p + 1) n) st (occBody x crlf x.length limit) = _
    rw [ih]
    congr 1
    rw [show p + 1 + k = p + (k + 1) by lia, show n + 1 - (k + 1) = n - k by lia]
theorem subAt_crlf (x : Str) (i : Nat) : subAt x crlf i = ((x.cps.toList.drop i).take 2 == [13, 10]) := by
  rw [subAt_eq, crlf_len, crlf_cps]
theorem no13 {r rest : List Nat} (hr : ∀ c ∈ r, c ≠ 13) {j : Nat} (hj : j < r.length) : (((r ++ rest).drop j).take 2 == [13, 10]) = false := by
  have e : (r ++ rest).drop j = r[j] :: (r.drop (j + 1) ++ rest) := by
    rw [List.drop_append_of_le_length (Nat.le_of_lt hj), List.drop_eq_getElem_cons hj]
    rfl
  rw [e, beq_eq_false_iff_ne]
  intro z
  exact hr r[j] (List.getElem_mem hj) (List.cons.inj (show r[j] :: (r.drop (j + 1) ++ rest).take 1 = [13, 10] from z)).1
theorem occ_rows (x : Str) (limit : Nat) : ∀ (rows : List (List Nat)) (p : Nat) (st : Array Nat × Nat), x.cps.toList.drop p = joinL rows → p ≤ x.length → rows ≠ [] → (∀ r ∈ rows, ∀ c ∈ r, c ≠ 13) → st.snd ≤ p → st.fst.size + rows.length ≤ limit →
    (forIn (List.range' p (x.length + 1 - p)) st (occBody x crlf x.length limit)).run.fst.toList = st.fst.toList ++ cutsL rows p
  | [], p, st, _, _, h, _, _, _ => absurd rfl h
  | [r], p, st, hL, hp, _, hr, hst, hl => by
    have hlen : p + r.length = x.length := by
      have := congrArg List.length hL
      rw [List.length_drop, Array.length_toList] at this
      have e : x.cps.size = x.length := rfl
      show p + r.length = x.length
      have e2 : (joinL [r]).length = r.length := rfl
      lia
    rw [occ_skip x limit st (x.length + 1 - p) p (x.length + 1 - p) (Nat.le_refl _) (fun i a b => .inl ?_), Nat.sub_self]
    · show st.fst.toList = _
      exact (List.append_nil _).symm
    · rw [subAt_crlf]
      have e : x.cps.toList.drop i = (r ++ []).drop (i - p) := by
        rw [List.append_nil, show r = joinL [r] from rfl, ← hL, List.drop_drop]
        congr 1
        lia
      rw [e]
      by_cases hj : i - p < r.length
      · exact no13 (hr r (.head _)) hj
      · rw [List.append_nil, List.drop_eq_nil_of_le (by lia)]
        rfl
  | r :: r' :: rs, p, st, hL, hp, _, hr, hst, hl => by
    have hL' : x.cps.toList.drop p = r ++ 13 :: 10 :: joinL (r' :: rs) := hL
    have hlen : p + r.length + 2 ≤ x.length := by
      have := congrArg List.length hL'
      rw [List.length_drop, Array.length_toList, List.length_append] at this
      have e : x.cps.size = x.length := rfl
      simp only [List.length_cons] at this
      lia
    have hd : x.cps.toList.drop (p + r.length) = 13 :: 10 :: joinL (r' :: rs) := by
      rw [← List.drop_drop, hL', List.drop_left]
    rw [occ_skip x limit st r.length p (x.length + 1 - p) (by lia) (fun i a b => .inl ?_)]
    · rw [show x.length + 1 - p - r.length = (x.length - p - r.length) + 1 by lia, List.range'_succ, List.forIn_cons]
      have hc : ((st.fst.size < limit ∧ st.snd ≤ p + r.length) ∧ p + r.length + crlf.length ≤ x.length) ∧ subAt x crlf (p + r.length) = true := by
        refine ⟨⟨⟨?_, by lia⟩, by rw [crlf_len]; lia⟩, ?_⟩
        · simp only [List.length_cons] at hl; lia
        · rw [subAt_crlf, hd]
          rfl
      have e1 : occBody x crlf x.length limit (p + r.length) st = pure (ForInStep.yield (st.fst.push (p + r.length), p + r.length + crlf.length)) := by
        unfold occBody
        rw [if_pos hc]
      rw [e1]
      show (forIn (List.range' (p + r.length + 1) (x.length - p - r.length)) (st.fst.push (p + r.length), p + r.length + crlf.length) (occBody x crlf x.length limit)).run.fst.toList = _
      rw [occ_skip x limit _ 1 (p + r.length + 1) (x.length - p - r.length) (by lia) (fun i a b => .inr (by rw [crlf_len]; show i < p + r.length + 2; lia))]
      have ih := occ_rows x limit (r' :: rs) (p + r.length + 2) (st.fst.push (p + r.length), p + r.length + crlf.length) (by rw [← List.drop_drop, hd]; rfl) hlen (by simp) (fun q hq => hr q (.tail _ hq)) (by rw [crlf_len]; exact Nat.le_refl _) (by simp only [List.length_cons, Array.size_push] at hl ⊢; lia)
      rw [show p + r.length + 1 + 1 = p + r.length + 2 by lia, show x.length - p - r.length - 1 = x.length + 1 - (p + r.length + 2) by lia, ih]
      rw [Array.toList_push]
      show _ = st.fst.toList ++ ((p + r.length) :: cutsL (r' :: rs) (p + r.length + 2))
      rw [List.append_assoc]
      rfl
    · rw [subAt_crlf]
      have e : x.cps.toList.drop i = (r ++ 13 :: 10 :: joinL (r' :: rs)).drop (i - p) := by
        rw [← hL', List.drop_drop]
        congr 1
        lia
      rw [e]
      exact no13 (hr r (.head _)) (by lia)
theorem parts_rows (x : Str) : ∀ (rows : List (List Nat)) (p : Nat), x.cps.toList.drop p = joinL rows → p ≤ x.length → rows ≠ [] → partsFrom x 2 p (cutsL rows p) = rows.map fun r => (⟨r.toArray⟩ : Str)
  | [], _, _, _, h => absurd rfl h
  | [r], p, hL, hp, _ => by
    show [strSub x p x.length] = [⟨r.toArray⟩]
    congr 1
    apply Str.ext'
    apply Array.toList_inj.mp
    rw [strSub_toList, hL]
    show List.take _ r = r
    refine List.take_of_length_le ?_
    have := congrArg List.length hL
    rw [List.length_drop, Array.length_toList] at this
    have e : x.cps.size = x.length := rfl
    have e2 : (joinL [r]).length = r.length := rfl
    lia
  | r :: r' :: rs, p, hL, hp, _ => by
    have hL' : x.cps.toList.drop p = r ++ 13 :: 10 :: joinL (r' :: rs) := hL
    have hlen : p + r.length + 2 ≤ x.length := by
      have := congrArg List.length hL'
      rw [List.length_drop, Array.length_toList, List.length_append] at this
      have e : x.cps.size = x.length := rfl
      simp only [List.length_cons] at this
      lia
    show strSub x p (p + r.length) :: partsFrom x 2 (p + r.length + 2) (cutsL (r' :: rs) (p + r.length + 2)) = ⟨r.toArray⟩ :: (r' :: rs).map fun r => (⟨r.toArray⟩ : Str)
    congr 1
    · apply Str.ext'
      apply Array.toList_inj.mp
      rw [strSub_toList, hL', show p + r.length - p = r.length by lia]
      exact List.take_left
    · refine parts_rows x (r' :: rs) _ ?_ hlen (by simp)
      rw [← List.drop_drop, ← List.drop_drop, hL', List.drop_left]
      rfl
theorem split_rows {x : Str} {r r' : List Nat} {rs : List (List Nat)} (hL : x.cps.toList = joinL (r :: r' :: rs)) (hr : ∀ q ∈ r :: r' :: rs, ∀ c ∈ q, c ≠ 13) (hk : (r :: r' :: rs).length ≤ x.length + 1) :
    occurrences x crlf 0 x.length (x.length + 1) = cutsL (r :: r' :: rs) 0 ∧ partsBetween x (cutsL (r :: r' :: rs) 0) 2 = (r :: r' :: rs).map (fun r => (⟨r.toArray⟩ : Str)) ∧ (decide (x.length < crlf.length) || decide (Builtin.Str.strKind x < Builtin.Str.strKind crlf)) = false := by
  refine ⟨?_, ?_, ?_⟩
  · have := occ_rows x (x.length + 1) (r :: r' :: rs) 0 (#[], 0) (by rw [List.drop_zero]; exact hL) (Nat.zero_le _) (by simp) hr (Nat.le_refl _) (by show 0 + _ ≤ _; lia)
    rw [occ_eq, this]
    rfl
  · rw [partsBetween_eq]
    exact parts_rows x _ 0 (by rw [List.drop_zero]; exact hL) (Nat.zero_le _) (by simp)
  · have hlen := congrArg List.length hL
    rw [Array.length_toList] at hlen
    have e : x.cps.size = x.length := rfl
    have e2 : (joinL (r :: r' :: rs)).length = r.length + ((joinL (r' :: rs)).length + 2) := by
      show (r ++ 13 :: 10 :: joinL (r' :: rs)).length = _
      rw [List.length_append]
      rfl
    have e3 : Builtin.Str.strKind crlf = 1 := by decide +kernel
    rw [Bool.or_eq_false_iff, e3]
    refine ⟨decide_eq_false (by rw [crlf_len]; lia), decide_eq_false ?_⟩
    unfold Builtin.Str.strKind
    split
    · lia
    · split <;> lia
end Mine
end
/-! ## R11 -/
section
open PySem PySem.W PySem.Calls PyProof.Rows
set_option maxRecDepth 100000
set_option linter.unusedSimpArgs false
namespace Mine
theorem norm_true {l : List Nat} (h : l.head? ≠ some 10) : normL true l = normL false l := by
  cases l with
  | nil => rfl
  | cons c r =>
    have hc : c ≠ 10 := fun z => h (by rw [z]; rfl)
    rw [normL_cons, normL_cons, if_neg hc, if_neg hc]
theorem norm_row : ∀ {r : List Nat} (rest : List Nat), (∀ c ∈ r, c ≠ 10 ∧ c ≠ 13) → normL false (r ++ rest) = r ++ normL false rest
  | [], rest, _ => rfl
  | c :: r, rest, h => by
    have hc := h c (.head _)
    show normL false (c :: (r ++ rest)) = _
    rw [normL_cons, if_neg hc.2, if_neg hc.1, norm_row rest fun q hq => h q (.tail _ hq)]
    rfl
theorem norm_end {i : Int} (h0 : 0 ≤ i) (h3 : i < 3) {rest : List Nat} (h : rest.head? ≠ some 10 ∨ i ≠ 1) : normL false ((endV i).cps.toList ++ rest) = 13 :: 10 :: normL false rest := by
  have hi : i = 0 ∨ i = 1 ∨ i = 2 := by lia
  rcases hi with rfl | rfl | rfl
  · rfl
  · show 13 :: 10 :: normL true rest = _
    rw [norm_true (h.resolve_right fun z => z rfl)]
  · rfl
/-- a row: no ends within -/
noncomputable abbrev Free (r : List Nat) : Prop := ∀ c ∈ r, c ≠ 10 ∧ c ≠ 13
theorem row_first {d : Int} {k : Nat} (h1 : 1 ≤ d) (h4 : d ≤ 4) (hk : k < 4) : Free (rowV d k).cps.toList ∧ (rowV d k).cps.toList.head? = some 46 := by
  have hd : d = 1 ∨ d = 2 ∨ d = 3 ∨ d = 4 := by lia
  have hk' : k = 0 ∨ k = 1 ∨ k = 2 ∨ k = 3 := by lia
  rcases hd with rfl | rfl | rfl | rfl <;> rcases hk' with rfl | rfl | rfl | rfl <;> decide +kernel
theorem fm (k u : Int) (t : Int) (hu : t.fmod 3 = u) : (k + t).fmod 3 = (k + u).fmod 3 := by
  rw [Int.fmod_eq_emod_of_nonneg _ (by decide)] at *
  rw [Int.fmod_eq_emod_of_nonneg _ (by decide)]
  lia
theorem head_app {l m : List Nat} {c : Nat} (h : l.head? = some c) : (l ++ m).head? = some c := by
  cases l with
  | nil => cases h
  | cons a r => exact h
noncomputable def rows9 (d : Nat → Int) (t : Int) : List (List Nat) := [(rowV (d 0) 0).cps.toList, (rowV (d 1) 1).cps.toList, (rowV (d 2) 2).cps.toList, (rowV (d 3) 3).cps.toList, (lastV t).cps.toList, [], [], [46]] ++ (if t.fmod 2 = 0 then [[]] else [])
theorem last_free (t : Int) : Free (lastV t).cps.toList ∧ (lastV t).cps.toList.head? ≠ some 10 ∧ (lastV t).cps.toList.head? ≠ some 46 ∧ (lastV t).cps.toList ≠ [] := by
  have h := fmod_mem t (n := 4) (by decide)
  have h4 : t.fmod 4 = 0 ∨ t.fmod 4 = 1 ∨ t.fmod 4 = 2 ∨ t.fmod 4 = 3 := by lia
  unfold lastV
  rcases h4 with e | e | e | e <;> rw [e] <;> decide +kernel
theorem norm_mail {d : Nat → Int} (hd : ∀ k < 4, 1 ≤ d k ∧ d k ≤ 4) (t : Int) : normL false (mailV d t).cps.toList = joinL (rows9 d t) := by
  obtain ⟨f0, g0⟩ := row_first (hd 0 (by decide)).1 (hd 0 (by decide)).2 (show 0 < 4 by decide)
  obtain ⟨f1, g1⟩ := row_first (hd 1 (by decide)).1 (hd 1 (by decide)).2 (show 1 < 4 by decide)
  obtain ⟨f2, g2⟩ := row_first (hd 2 (by decide)).1 (hd 2 (by decide)).2 (show 2 < 4 by decide)
  obtain ⟨f3, g3⟩ := row_first (hd 3 (by decide)).1 (hd 3 (by decide)).2 (show 3 < 4 by decide)
  obtain ⟨fl, gl, _, nl⟩ := last_free t
  obtain ⟨u, hu⟩ : ∃ u, u = t.fmod 3 := ⟨_, rfl⟩
  have hu' := fmod_mem t (n := 3) (by decide)
  rw [← hu] at hu'
  have k0 := fm ((0 : Nat) : Int) u t hu.symm
  have k1 := fm ((1 : Nat) : Int) u t hu.symm
  have k2 := fm ((2 : Nat) : Int) u t hu.symm
  have k3 := fm ((3 : Nat) : Int) u t hu.symm
  have k4 := fm 4 u t hu.symm
  have k5 := fm 5 u t hu.symm
  have k6 := fm 6 u t hu.symm
  have m : ∀ k : Int, 0 ≤ (k + u).fmod 3 ∧ (k + u).fmod 3 < 3 := fun k => fmod_mem _ (by decide)
  have dot : (Str.ofString ".").cps.toList = [46] := by decide +kernel
  have whole : ∀ z : List Nat, normL false ((txtV d t 4).cps.toList ++ ((lastV t).cps.toList ++ ((endV ((4 + t).fmod 3)).cps.toList ++ ((endV ((4 + t).fmod 3)).cps.toList ++ ((endV ((5 + t).fmod 3)).cps.toList ++ ([46] ++ z)))))) =
      (rowV (d 0) 0).cps.toList ++ 13 :: 10 :: ((rowV (d 1) 1).cps.toList ++ 13 :: 10 :: ((rowV (d 2) 2).cps.toList ++ 13 :: 10 :: ((rowV (d 3) 3).cps.toList ++ 13 :: 10 :: ((lastV t).cps.toList ++ 13 :: 10 :: ([] ++ 13 :: 10 :: ([] ++ 13 :: 10 :: ([46] ++ normL false z))))))) := by
    intro z
    have e4 : (txtV d t 4).cps.toList = (rowV (d 0) 0).cps.toList ++ ((endV ((((0 : Nat) : Int) + t).fmod 3)).cps.toList ++ ((rowV (d 1) 1).cps.toList ++ ((endV ((((1 : Nat) : Int) + t).fmod 3)).cps.toList ++ ((rowV (d 2) 2).cps.toList ++ ((endV ((((2 : Nat) : Int) + t).fmod 3)).cps.toList ++ ((rowV (d 3) 3).cps.toList ++ (endV ((((3 : Nat) : Int) + t).fmod 3)).cps.toList)))))) := by
      simp only [txtV, Str.cps_append, Array.toList_append, List.append_assoc]
      rfl
    rw [e4, k0, k1, k2, k3, k4, k5]
    simp only [List.append_assoc]
    have nh : ∀ {l m : List Nat}, l.head? = some 46 → (l ++ m).head? ≠ some 10 := fun h => by rw [head_app h]; decide
    have nl' : ∀ {m : List Nat}, ((lastV t).cps.toList ++ m).head? ≠ some 10 := fun {m} => by
      cases hq : (lastV t).cps.toList with
      | nil => exact absurd hq nl
      | cons a r => rw [hq] at gl; exact gl
    rw [norm_row _ f0, norm_end (m _).1 (m _).2 (.inl (nh g1)), norm_row _ f1, norm_end (m _).1 (m _).2 (.inl (nh g2)), norm_row _ f2, norm_end (m _).1 (m _).2 (.inl (nh g3)), norm_row _ f3, norm_end (m _).1 (m _).2 (.inl nl'), norm_row _ fl]
    have hu3 : u = 0 ∨ u = 1 ∨ u = 2 := by lia
    congr 14
    rcases hu3 with rfl | rfl | rfl
    · rfl
    · rfl
    · rfl
  unfold mailV rows9
  by_cases h2 : t.fmod 2 = 0
  · rw [if_pos h2, if_pos h2]
    have e : (txtV d t 4 ++ lastV t ++ endV ((4 + t).fmod 3) ++ endV ((4 + t).fmod 3) ++ endV ((5 + t).fmod 3) ++ Str.ofString "." ++ endV ((6 + t).fmod 3)).cps.toList = (txtV d t 4).cps.toList ++ ((lastV t).cps.toList ++ ((endV ((4 + t).fmod 3)).cps.toList ++ ((endV ((4 + t).fmod 3)).cps.toList ++ ((endV ((5 + t).fmod 3)).cps.toList ++ ([46] ++ (endV ((6 + t).fmod 3)).cps.toList))))) := by
      simp only [Str.cps_append, Array.toList_append, List.append_assoc, dot]
    show normL false (txtV d t 4 ++ lastV t ++ endV ((4 + t).fmod 3) ++ endV ((4 + t).fmod 3) ++ endV ((5 + t).fmod 3) ++ Str.ofString "." ++ endV ((6 + t).fmod 3)).cps.toList = _
    rw [e, whole]
    have e6 : normL false (endV ((6 + t).fmod 3)).cps.toList = [13, 10] := by
      have h6 := fmod_mem (6 + t) (n := 3) (by decide)
      have hi : (6 + t).fmod 3 = 0 ∨ (6 + t).fmod 3 = 1 ∨ (6 + t).fmod 3 = 2 := by lia
      rcases hi with q | q | q <;> rw [q] <;> rfl
    rw [e6]
    rfl
  · rw [if_neg h2, if_neg h2]
    have e : (txtV d t 4 ++ lastV t ++ endV ((4 + t).fmod 3) ++ endV ((4 + t).fmod 3) ++ endV ((5 + t).fmod 3) ++ Str.ofString ".").cps.toList = (txtV d t 4).cps.toList ++ ((lastV t).cps.toList ++ ((endV ((4 + t).fmod 3)).cps.toList ++ ((endV ((4 + t).fmod 3)).cps.toList ++ ((endV ((5 + t).fmod 3)).cps.toList ++ ([46] ++ []))))) := by
      simp only [Str.cps_append, Array.toList_append, List.append_assoc, dot, List.append_nil]
    show normL false (txtV d t 4 ++ lastV t ++ endV ((4 + t).fmod 3) ++ endV ((4 + t).fmod 3) ++ endV ((5 + t).fmod 3) ++ Str.ofString ".").cps.toList = _
    rw [e, whole]
    rfl
/-- the rows, quoted -/
noncomputable def quo (r : List Nat) : List Nat := if r.head? = some 46 then 46 :: r else r
theorem quo_yes (r : List Nat) : quo (46 :: r) = 46 :: 46 :: r := rfl
theorem quo_no {c : Nat} (r : List Nat) (h : c ≠ 46) : quo (c :: r) = c :: r := if_neg fun z => h (Option.some.inj z)
theorem dots_free : ∀ {r : List Nat} (rest : List Nat), Free r → dotsL false (r ++ 13 :: 10 :: rest) = r ++ 13 :: 10 :: dotsL true rest
  | [], rest, _ => rfl
  | c :: r, rest, h => by
    have hc := h c (.head _)
    show dotsL false (c :: (r ++ 13 :: 10 :: rest)) = _
    rw [dotsL_cons, if_neg (fun z => absurd z.1 (by decide)), show (c == 10) = false from beq_eq_false_iff_ne.mpr hc.1, dots_free rest fun q hq => h q (.tail _ hq)]
    rfl
theorem dots_row {r : List Nat} (rest : List Nat) (h : Free r) : dotsL true (r ++ 13 :: 10 :: rest) = quo r ++ 13 :: 10 :: dotsL true rest := by
  cases r with
  | nil => rfl
  | cons c r =>
    have hc := h c (.head _)
    have hr : Free r := fun q hq => h q (.tail _ hq)
    show dotsL true (c :: (r ++ 13 :: 10 :: rest)) = _
    rw [dotsL_cons]
    by_cases h46 : c = 46
    · subst h46
      rw [if_pos ⟨rfl, rfl⟩, quo_yes, dots_free rest hr]
      rfl
    · rw [if_neg (fun z => h46 z.2), quo_no _ h46, show (c == 10) = false from beq_eq_false_iff_ne.mpr hc.1, dots_free rest hr]
      rfl
theorem dots_freeE : ∀ {r : List Nat}, Free r → dotsL false r = r
  | [], _ => rfl
  | c :: r, h => by
    have hc := h c (.head _)
    rw [dotsL_cons, if_neg (fun z => absurd z.1 (by decide)), show (c == 10) = false from beq_eq_false_iff_ne.mpr hc.1, dots_freeE fun q hq => h q (.tail _ hq)]
theorem dots_end {r : List Nat} (h : Free r) : dotsL true r = quo r := by
  cases r with
  | nil => rfl
  | cons c r =>
    have hc := h c (.head _)
    have hr : Free r := fun q hq => h q (.tail _ hq)
    rw [dotsL_cons]
    by_cases h46 : c = 46
    · subst h46
      rw [if_pos ⟨rfl, rfl⟩, quo_yes, dots_freeE hr]
    · rw [if_neg (fun z => h46 z.2), quo_no _ h46, show (c == 10) = false from beq_eq_false_iff_ne.mpr hc.1, dots_freeE hr]
theorem dots_join : ∀ (rows : List (List Nat)), (∀ r ∈ rows, Free r) → dotsL true (joinL rows) = joinL (rows.map quo)
  | [], _ => rfl
  | [r], h => dots_end (h r (.head _))
  | r :: r' :: rs, h => by
    show dotsL true (r ++ 13 :: 10 :: joinL (r' :: rs)) = quo r ++ 13 :: 10 :: joinL ((r' :: rs).map quo)
    rw [dots_row _ (h r (.head _)), dots_join (r' :: rs) fun q hq => h q (.tail _ hq)]
theorem rows9_free {d : Nat → Int} (hd : ∀ k < 4, 1 ≤ d k ∧ d k ≤ 4) (t : Int) : ∀ r ∈ rows9 d t, Free r := by
  obtain ⟨f0, g0⟩ := row_first (hd 0 (by decide)).1 (hd 0 (by decide)).2 (show 0 < 4 by decide)
  obtain ⟨f1, g1⟩ := row_first (hd 1 (by decide)).1 (hd 1 (by decide)).2 (show 1 < 4 by decide)
  obtain ⟨f2, g2⟩ := row_first (hd 2 (by decide)).1 (hd 2 (by decide)).2 (show 2 < 4 by decide)
  obtain ⟨f3, g3⟩ := row_first (hd 3 (by decide)).1 (hd 3 (by decide)).2 (show 3 < 4 by decide)
  have fl := (last_free t).1
  have fe : Free [] := fun _ h => nomatch h
  have fd : Free [46] := by decide
  have f8 : ∀ r ∈ [(rowV (d 0) 0).cps.toList, (rowV (d 1) 1).cps.toList, (rowV (d 2) 2).cps.toList, (rowV (d 3) 3).cps.toList, (lastV t).cps.toList, [], [], [46]], Free r := by
    intro r hr
    simp only [List.mem_cons, List.not_mem_nil, or_false] at hr
    rcases hr with rfl | rfl | rfl | rfl | rfl | rfl | rfl | rfl <;> assumption
  intro r hr
  unfold rows9 at hr
  rcases List.mem_append.mp hr with h | h
  · exact f8 r h
  · split at h
    · rcases List.mem_cons.mp h with rfl | h
      · exact fe
      · cases h
    · cases h
/-- the rows that are due -/
noncomputable def dueS (d : Nat → Int) (t : Int) : List Str := [rowD (d 0) ⟨#[48]⟩ ⟨#[97]⟩, rowD (d 1) ⟨#[49]⟩ ⟨#[98]⟩, rowD (d 2) ⟨#[50]⟩ ⟨#[99]⟩, rowD (d 3) ⟨#[51]⟩ ⟨#[100]⟩, kindV (t.fmod 4), Str.ofString "", Str.ofString "", Str.ofString ".."] ++ (if t.fmod 2 = 0 then [Str.ofString ""] else [])
theorem due_eq (d : Nat → Int) (t : Int) : dueV d t = (dueS d t).map .str := by
  unfold dueV dueS dueL
  by_cases h : t.fmod 2 = 0
  · rw [if_pos h, if_pos h]
    rfl
  · rw [if_neg h, if_neg h]
    rfl
theorem quo_row {d : Int} {k : Nat} (h1 : 1 ≤ d) (h4 : d ≤ 4) (hk : k < 4) : (⟨(quo (rowV d k).cps.toList).toArray⟩ : Str) = rowD d ⟨#[48 + k]⟩ ⟨#[97 + k]⟩ := by
  have hd : d = 1 ∨ d = 2 ∨ d = 3 ∨ d = 4 := by lia
  have hk' : k = 0 ∨ k = 1 ∨ k = 2 ∨ k = 3 := by lia
  rcases hd with rfl | rfl | rfl | rfl <;> rcases hk' with rfl | rfl | rfl | rfl <;> decide +kernel
theorem quo_last (t : Int) : (⟨(quo (lastV t).cps.toList).toArray⟩ : Str) = kindV (t.fmod 4) := by
  have h := fmod_mem t (n := 4) (by decide)
  have h4 : t.fmod 4 = 0 ∨ t.fmod 4 = 1 ∨ t.fmod 4 = 2 ∨ t.fmod 4 = 3 := by lia
  unfold lastV
  rcases h4 with e | e | e | e <;> rw [e] <;> decide +kernel
theorem quo_rows {d : Nat → Int} (hd : ∀ k < 4, 1 ≤ d k ∧ d k ≤ 4) (t : Int) : ((rows9 d t).map quo).map (fun r => (⟨r.toArray⟩ : Str)) = dueS d t := by
  have q0 := quo_row (hd 0 (by decide)).1 (hd 0 (by decide)).2 (show 0 < 4 by decide)
  have q1 := quo_row (hd 1 (by decide)).1 (hd 1 (by decide)).2 (show 1 < 4 by decide)
  have q2 := quo_row (hd 2 (by decide)).1 (hd 2 (by decide)).2 (show 2 < 4 by decide)
  have q3 := quo_row (hd 3 (by decide)).1 (hd 3 (by decide)).2 (show 3 < 4 by decide)
  have ql := quo_last t
  unfold rows9 dueS
  rw [List.map_append, List.map_append]
  congr 1
  · simp only [List.map_cons, List.map_nil, q0, q1, q2, q3, ql]
    rfl
  · split <;> rfl

/-- the mail as it is sent -/
noncomputable def sentV (d : Nat → Int) (t : Int) : Str := ⟨(quoteL (mailV d t).cps.toList).toArray⟩
theorem sent_rows {d : Nat → Int} (hd : ∀ k < 4, 1 ≤ d k ∧ d k ≤ 4) (t : Int) : (sentV d t).cps.toList = joinL ((rows9 d t).map quo) := by
  show dotsL true (normL false (mailV d t).cps.toList) = _
  rw [norm_mail hd t, dots_join _ (rows9_free hd t)]
theorem mail_len {d : Nat → Int} (hd : ∀ k < 4, 1 ≤ d k ∧ d k ≤ 4) (t : Int) : (mailV d t).length ≤ 1000 := by
  have h1 := txt_len hd t 4 (Nat.le_refl _)
  have h2 := last_len t
  have h3 := fun i => end_len i
  have a4 := h3 ((4 + t).fmod 3)
  have a5 := h3 ((5 + t).fmod 3)
  have a6 := h3 ((6 + t).fmod 3)
  have hdot : (Str.ofString ".").length = 1 := by decide
  unfold mailV
  split <;> simp only [Str.length_append] <;> lia
theorem sent_split {d : Nat → Int} (hd : ∀ k < 4, 1 ≤ d k ∧ d k ≤ 4) (t : Int) : (decide ((sentV d t).length < crlf.length) || decide (Builtin.Str.strKind (sentV d t) < Builtin.Str.strKind crlf)) = false ∧
    (Builtin.Str.occurrences (sentV d t) crlf 0 (sentV d t).length ((sentV d t).length + 1)).isEmpty = false ∧ (sentV d t).length ≤ sizeLine ∧
    (Builtin.Str.partsBetween (sentV d t) (Builtin.Str.occurrences (sentV d t) crlf 0 (sentV d t).length ((sentV d t).length + 1)) crlf.length).length ≤ sizeLine ∧ Txt.split (sentV d t) crlf = dueS d t := by
  have hj := sent_rows hd t
  have hq := quo_rows hd t
  have hfree : ∀ q ∈ (rows9 d t).map quo, ∀ c ∈ q, c ≠ 13 := by
    intro q hq' c hc
    obtain ⟨r, hr, rfl⟩ := List.mem_map.mp hq'
    have hf := rows9_free hd t r hr
    unfold quo at hc
    split at hc
    · rcases List.mem_cons.mp hc with rfl | hc
      · decide
      · exact (hf c hc).2
    · exact (hf c hc).2
  have hlen : (sentV d t).length ≤ 4000 := by
    have h1 := mail_len hd t
    have h2 := normL_len (mailV d t).cps.toList false
    have h3 := dotsL_len (normL false (mailV d t).cps.toList) true
    have h0 : (mailV d t).cps.toList.length = (mailV d t).length := Array.length_toList
    show (quoteL (mailV d t).cps.toList).toArray.size ≤ 4000
    have h4 : (quoteL (mailV d t).cps.toList).toArray.size = (dotsL true (normL false (mailV d t).cps.toList)).length := by simp [quoteL]
    lia
  obtain ⟨r, r', rs, hrs⟩ : ∃ r r' rs, (rows9 d t).map quo = r :: r' :: rs := ⟨_, _, _, rfl⟩
  rw [hrs] at hj hq hfree
  have hcount : (r :: r' :: rs).length ≤ 9 := by
    rw [← hrs]
    unfold rows9
    split <;> simp
  have hbig : 9 ≤ (sentV d t).length + 1 := by
    have h := congrArg List.length hj
    rw [Array.length_toList] at h
    have e : (sentV d t).cps.size = (sentV d t).length := rfl
    have hm : (r :: r' :: rs).length * 2 ≤ (joinL (r :: r' :: rs)).length + 2 := by
      have key : ∀ l : List (List Nat), l.length * 2 ≤ (joinL l).length + 2 := by
        intro l
        induction l with
        | nil => show 0 ≤ _; lia
        | cons a l ih =>
          cases l with
          | nil => show 2 ≤ a.length + 2; lia
          | cons b l =>
            have e1 : (joinL (a :: b :: l)).length = a.length + ((joinL (b :: l)).length + 2) := by
              show (a ++ 13 :: 10 :: joinL (b :: l)).length = _
              rw [List.length_append]
              rfl
            simp only [List.length_cons] at ih e1 ⊢
            lia
      exact key _
    have h8 : 8 ≤ (r :: r' :: rs).length := by
      rw [← hrs]
      unfold rows9
      split <;> simp
    lia
  obtain ⟨a, b, c⟩ := split_rows hj hfree (by lia)
  have hsz : sizeLine = 2 ^ 24 := rfl
  refine ⟨c, ?_, by lia, ?_, ?_⟩
  · rw [a]
    rfl
  · rw [a, crlf_len, b, List.length_map]
    lia
  · unfold Txt.split
    rw [c, if_neg (by decide), a, crlf_len, b, hq]
    rfl
section
variable {c : Cx} {A : Around} {env : Env} {ρ : List (Str × PyData)}
theorem ev_split {e : Expr} {s : Expr} {ap cp : Pos} {d : Nat → Int} {t : Int} {pl : Sem Bool} (hd : ∀ k < 4, 1 ≤ d k ∧ d k ≤ 4) (h : Ev c A env ρ e (.str (sentV d t))) (hs : Ev c A env ρ s (.str crlf))
    (he : eval (.Call (.Attribute e "split" ap) [s] [] cp) env = (do
      let ov ← eval e env
      standAt ap.atName
      let (f, first) ← holding [ov] (getMethod ov "split" pl)
      callWith cp f first (backTo cp (starEach [s] env)) []) := by rfl)
    (he2 : starEach [s] env = (false, eval s env) :: starEach [] env := by rfl) : Ev c A env ρ (.Call (.Attribute e "split" ap) [s] [] cp) (.list (dueV d t)) := by
  obtain ⟨h1, h2, h3, h4, h5⟩ := sent_split hd t
  rw [due_eq, ← h5]
  exact ev_meth1 (pl := pl) h gm_split hs (op_split (by rw [crlf_len]; rfl) h1 h2 h3 h4) he he2
end
theorem f_sent {c : Cx} {x : Str} {fa : Addr} {d : Nat → Int} {t : Int} (hd : ∀ k < 4, 1 ≤ d k ∧ d k ≤ 4) (D : DF c x fa 9) (K : Qd c) : Fn c 1 fa [.str (mailV d t)] (.str (sentV d t)) :=
  f_quoted D K (by have := mail_len hd t; show (mailV d t).length ≤ _; lia)
end Mine
end
/-! ## E25 -/
section
open PySem PySem.W PySem.Calls PyProof.Rows
set_option maxHeartbeats 2000000
set_option maxRecDepth 100000
namespace Mine
/-- all that law leans on -/
structure Lw (c : Cx) : Prop where
  N : Nm c
  K : Ek c
  Q : Qd c
  B : Big c
  nb : NoneBooked c.g0
  L : Lk c
  lim : c.g0.NoLimit
  T : TcK c 188
  M : MF c 188 20 1
  k191 : keepIn (Kh c.w.params) (.ref 191) = true
  n191 : GN c (Str.ofString "TupleComp") (.ref 191)
  lt : DF c (Str.ofString "lt") 118 11
  le : DF c (Str.ofString "le") 125 12
  eq : DF c (Str.ofString "eq") 132 13
  ne : DF c (Str.ofString "ne") 139 14
  sub : DF c (Str.ofString "sub") 146 15
  count : DF c (Str.ofString "countOf") 153 16
  fdiv : DF c (Str.ofString "ifloordiv") 160 17
  mod : DF c (Str.ofString "imod") 167 18
  std : DF c (Str.ofString "func_std_string") 202 21
  add : DF c (Str.ofString "add_func_stats") 209 22
  callers : DF c (Str.ofString "add_callers") 216 23
  calls : DF c (Str.ofString "count_calls") 223 24
  cell : DF c (Str.ofString "_law_cell") 228 26
  mail : DF c (Str.ofString "_law_mail") 233 27
  due : DF c (Str.ofString "_law_due") 238 28
  asked : DF c (Str.ofString "_law_asked") 245 29
  free : DF c (Str.ofString "_law_free") 252 30
  told : DF c (Str.ofString "_law_told") 257 31
  movers : DF c (Str.ofString "_law_movers") 262 32
  entry : DF c (Str.ofString "_law_entry") 267 33
  quote : DF c (Str.ofString "quotedata") 111 9
/-- the statements -/
noncomputable def lawSt (k : Nat) : Stmt := ((bodyAt 34)[k]?).getD (.Pass default)
noncomputable def loopB : List Stmt := match lawSt 12 with
  | .For _ _ b _ _ => b
  | _ => []
noncomputable def lp (k : Nat) : Stmt := (loopB[k]?).getD (.Pass default)
noncomputable abbrev envL (L fa : Addr) (q : Str) : Env := envAt 34 L fa q (.ref 271)
noncomputable def rgI (c k : Nat) : Int := ((rg c k : Nat) : Int)
noncomputable def rhoL (kind lot w0 w1 : Int) (c : Nat) (al : PyData) : List (Str × PyData) :=
  [(Str.ofString "kind", .int kind), (Str.ofString "lot", .int lot), (Str.ofString "dots", dotsD (dt c)), (Str.ofString "ring", dotsD (rgI c)), (Str.ofString "ways", .tuple [.int w0, .int w1]), (Str.ofString "judge", instD (selD w0 w1)), (Str.ofString "alone", al)]
structure As7 where
  am : Addr
  ab : Addr
  ad : Addr
  sn : Addr
  m : Nat → Addr
  z : Nat
noncomputable def omL (a : As7) (due seen : List PyData) (mv : Nat → List (Int × Bool)) : List (Addr × PyData) :=
  [(a.ad, .list due), (a.sn, .list seen), (a.m 0, movesD (mv 0)), (a.m 1, movesD (mv 1)), (a.m 2, movesD (mv 2)), (a.m 3, movesD (mv 3)), (a.ab, bookD fun k => bkL (mv k))]
noncomputable def nuL (a : As7) : List (Str × Value) := [(Str.ofString "due", .ref a.ad), (Str.ofString "seen", .ref a.sn), (Str.ofString "moves", .ref a.am), (Str.ofString "book", .ref a.ab)]
noncomputable def objM (a : As7) : Obj := { cls := .type "list", data := .seq #[.ref (a.m 0), .ref (a.m 1), .ref (a.m 2), .ref (a.m 3)] a.z }
noncomputable def sdL (q : Str) (a : As7) : Sd := sdT 189 33 (q ++ ".<locals>." ++ "<lambda>") (fun g => g.get? a.am = some (objM a)) (fun k h => k _ _ h)
/-- law's assertions -/
noncomputable abbrev LA (c : Cx) (L fa : Addr) (q : Str) (a : As7) (ρ : List (Str × PyData)) (due seen : List PyData) (mv : Nat → List (Int × Bool)) : As := LB c (envL L fa q) (sdL q a) (nuL a) ρ (omL a due seen mv)
noncomputable def mtold (d : Nat → Int) (k : Nat) : Int := 1 + (d k).fmod 4
/-! plain facts of the data -/
theorem nats_ints (l : List Nat) : natsD l = (l.map fun k : Nat => (k : Int)).map PyData.int := by unfold natsD; rw [List.map_map]; rfl
theorem nats_lay (l : List Nat) : PyData.canLayAll0 (natsD l) = true := by rw [nats_ints]; exact ke_canLayAll0 _
theorem nats_flat (l : List Nat) : flats (natsD l) = true := by rw [nats_ints]; exact flats_ints _
theorem nats_depth (l : List Nat) : PyData.depthAll (natsD l) = 0 := by rw [nats_ints]; exact ke_depthAll _
theorem strs_lay : ∀ l : List Str, (∀ x ∈ l, PyData.strOk x = true) → PyData.canLayAll0 (l.map PyData.str) = true
  | [], _ => rfl
  | x :: l, h => by
    rw [List.map_cons]
    simp only [PyData.canLayAll0, PyData.canLay0, Bool.and_eq_true]
    exact ⟨h x (.head _), strs_lay l fun y hy => h y (.tail _ hy)⟩
theorem strs_flat : ∀ l : List Str, flats (l.map PyData.str) = true
  | [] => rfl
  | x :: l => by rw [List.map_cons]; unfold flats; rw [strs_flat l]; rfl
theorem strs_depth : ∀ l : List Str, PyData.depthAll (l.map PyData.str) = 0
  | [] => rfl
  | x :: l => by simp [PyData.depthAll, PyData.depth, strs_depth l]
noncomputable def rowX (d : Nat → Int) (k : Nat) : Str := rowD (d k) ⟨#[48 + k]⟩ ⟨#[97 + k]⟩
theorem row_fact {d : Int} (h1 : 1 ≤ d) (h4 : d ≤ 4) {k : Nat} (hk : k < 4) : (rowD d ⟨#[48 + k]⟩ ⟨#[97 + k]⟩).cps.all (· < 128) = true ∧ cntV (rowD d ⟨#[48 + k]⟩ ⟨#[97 + k]⟩) (rowD d ⟨#[48 + k]⟩ ⟨#[97 + k]⟩).cps.size = d + 2 := by
  have hd : d = 1 ∨ d = 2 ∨ d = 3 ∨ d = 4 := by lia
  have hk' : k = 0 ∨ k = 1 ∨ k = 2 ∨ k = 3 := by lia
  rcases hd with rfl | rfl | rfl | rfl <;> rcases hk' with rfl | rfl | rfl | rfl <;> exact ⟨by decide +kernel, by decide +kernel⟩
theorem ok_ascii {x : Str} (h : x.cps.all (· < 128) = true) : PyData.strOk x = true := by
  unfold PyData.strOk
  rw [Array.all_eq_true] at h ⊢
  intro i hi
  have := h i hi
  simp only [decide_eq_true_eq] at this ⊢
  lia
theorem kind_ok (i : Int) : PyData.strOk (kindV i) = true := by
  unfold kindV
  split
  · decide +kernel
  · split
    · decide +kernel
    · split
      · decide +kernel
      · decide +kernel
theorem due_ok' {d : Nat → Int} (hd : ∀ k < 4, 1 ≤ d k ∧ d k ≤ 4) (t : Int) : ∀ x ∈ dueS d t, PyData.strOk x = true := by
  intro x hx
  have row : ∀ k < 4, PyData.strOk (rowD (d k) ⟨#[48 + k]⟩ ⟨#[97 + k]⟩) = true := fun k hk => ok_ascii (row_fact (hd k hk).1 (hd k hk).2 hk).1
  unfold dueS at hx
  rcases List.mem_append.mp hx with h | h
  · simp only [List.mem_cons, List.not_mem_nil, or_false] at h
    rcases h with rfl | rfl | rfl | rfl | rfl | rfl | rfl | rfl
    · exact row 0 (by decide)
    · exact row 1 (by decide)
    · exact row 2 (by decide)
    · exact row 3 (by decide)
    · exact kind_ok _
    · decide +kernel
    · decide +kernel
    · decide +kernel
  · split at h
    · rw [List.mem_singleton] at h
      subst h
      decide +kernel
    · cases h
theorem due_get (d : Nat → Int) (t : Int) : ∀ j < 4, (dueV d t)[j]? = some (.str (rowX d j)) := by
  intro j hj
  rw [due_eq]
  match j, hj with
  | 0, _ => rfl
  | 1, _ => rfl
  | 2, _ => rfl
  | 3, _ => rfl
theorem due_take (d : Nat → Int) (t : Int) : (dueV d t).take 4 = [.str (rowX d 0), .str (rowX d 1), .str (rowX d 2), .str (rowX d 3)] := by
  rw [due_eq]; rfl
theorem due_len (d : Nat → Int) (t : Int) : 4 ≤ (dueV d t).length ∧ (dueV d t).length ≤ 9 := by
  rw [due_eq, List.length_map]
  unfold dueS
  rw [List.length_append]
  split <;> simp
theorem rg_lt (c k : Nat) : rg c k < 4 := Nat.mod_lt _ (by decide)
theorem free_key : ∀ x < 4, ∀ y < 4, ∀ k < 4, (decide (((1 + (x + k) % 4 : Nat) : Int) = ((1 + (1 + (y + (k + 3) % 4) % 4) % 4 : Nat) : Int)) == decide (k = 0)) = ((x == y) == (k == 0)) := by decide +kernel
theorem free_fr (c : Nat) : freeL (dt c) (mtold (dt c)) = frc c := by
  unfold freeL frc
  refine List.filter_congr fun k hk => ?_
  have e : ∀ n : Nat, (1 + ((1 + n : Nat) : Int).fmod 4) = ((1 + (1 + n) % 4 : Nat) : Int) := fun n => by
    rw [Int.fmod_eq_emod_of_nonneg _ (by decide)]
    lia
  unfold isFree isFr mtold dt
  rw [e]
  exact free_key _ (rg_lt c k) _ (rg_lt c ((k + 3) % 4)) k (List.mem_range.mp hk)
section
variable {c : Cx} {A : Around} {L fa : Addr} {q : Str} {a : As7} {due seen : List PyData} {mv : Nat → List (Int × Bool)} {kind lot w0 w1 : Int} {cc i : Nat} {al : PyData} {rt : PyData → Prop} {bk : As}
noncomputable abbrev R0 (kind lot w0 w1 : Int) (cc i : Nat) (al : PyData) : List (Str × PyData) := setρ (rhoL kind lot w0 w1 cc al) (Str.ofString "turn") (.int (i : Int))
noncomputable abbrev R1 (kind lot w0 w1 : Int) (cc i : Nat) (al : PyData) : List (Str × PyData) := setρ (R0 kind lot w0 w1 cc i al) (Str.ofString "rows") (.list (dueV (dt cc) ((i : Int) + kind)))
noncomputable abbrev R2 (kind lot w0 w1 : Int) (cc i : Nat) (al : PyData) : List (Str × PyData) := setρ (R1 kind lot w0 w1 cc i al) (Str.ofString "told") (dotsD (mtold (dt cc)))
noncomputable abbrev R3 (kind lot w0 w1 : Int) (cc i : Nat) (al : PyData) : List (Str × PyData) := setρ (R2 kind lot w0 w1 cc i al) (Str.ofString "free") (.list (natsD (frc cc)))
theorem lp0 (W : Lw c) (r : Rm 6 A) : XA1 c A (envL L fa q) (LA c L fa q a (R0 kind lot w0 w1 cc i al) due seen mv) (lp 0) ⟨LA c L fa q a (R1 kind lot w0 w1 cc i al) due seen mv, rt, bk⟩ := by
  obtain ⟨_, Dq, _⟩ := W.quote
  obtain ⟨_, Dm, _⟩ := W.mail
  have hd4 : ∀ k < 4, 1 ≤ dt cc k ∧ dt cc k ≤ 4 := fun k _ => dt_mem cc k
  show XA1 _ _ _ _ (Stmt.Assign _ _ _) _
  exact lb_pure (x_assign (ev_split hd4 (ev_call Dq rfl (evs_cons (ev_call Dm rfl (evs_cons (ev_name rfl) (evs_cons (ev_bin (ev_name rfl) (ev_name rfl) op_add) evs_nil)) (f_mail hd4 W.N W.std W.mail) (r.less (by decide))) evs_nil) (f_sent hd4 W.quote W.Q) (r.less (by decide))) ev_str) (.inl rfl))
theorem lp1 (W : Lw c) (r : Rm 6 A) : XA1 c A (envL L fa q) (LA c L fa q a (R1 kind lot w0 w1 cc i al) due seen mv) (lp 1) ⟨LA c L fa q a (R1 kind lot w0 w1 cc i al) due seen mv, rt, bk⟩ := by
  obtain ⟨_, Dd, _⟩ := W.due
  have hd4 : ∀ k < 4, 1 ≤ dt cc k ∧ dt cc k ≤ 4 := fun k _ => dt_mem cc k
  have hlay : (PyData.list (dueV (dt cc) ((i : Int) + kind))).canLay0 = true := by rw [due_eq]; exact strs_lay _ (due_ok' hd4 _)
  have hfl : flat (PyData.list (dueV (dt cc) ((i : Int) + kind))) = true := by rw [due_eq]; exact strs_flat _
  have hdp : (PyData.list (dueV (dt cc) ((i : Int) + kind))).depth ≤ 1 := by rw [due_eq]; simp only [PyData.depth, strs_depth]; lia
  have h := op_ne (c := c) (A := A) hlay hlay (r.line _ (by lia)) hfl hfl
  rw [SeqAt.eqv_refl _ hlay] at h
  show XA1 _ _ _ _ (Stmt.If _ _ _ _) _
  exact lb_pure (x_if (b := false) (o := .next _) (tr_cmp (d₂ := .list (dueV (dt cc) ((i : Int) + kind))) (ev_name rfl) (ev_call Dd rfl (evs_cons (ev_name rfl) (evs_cons (ev_bin (ev_name rfl) (ev_name rfl) op_add) evs_nil)) (f_due hd4 W.N W.due) (r.less (by decide))) h) (fun h => nomatch h) (fun _ => x_nil))
noncomputable def cnt4 (d : Nat → Int) (k : Nat) : Int := 1 + (cntV (rowX d k) (rowX d k).cps.size - 2).fmod 4
theorem cnt_told {d : Nat → Int} (hd : ∀ k < 4, 1 ≤ d k ∧ d k ≤ 4) : dotsD (mtold d) = .list [.int (cnt4 d 0), .int (cnt4 d 1), .int (cnt4 d 2), .int (cnt4 d 3)] := by
  have e : ∀ k < 4, cnt4 d k = mtold d k := fun k hk => by
    unfold cnt4 rowX mtold
    rw [(row_fact (hd k hk).1 (hd k hk).2 hk).2]
    congr 2
    lia
  unfold dotsD
  rw [e 0 (by decide), e 1 (by decide), e 2 (by decide), e 3 (by decide)]
theorem lp2 (W : Lw c) (r : Rm 6 A) : XA1 c A (envL L fa q) (LA c L fa q a (R1 kind lot w0 w1 cc i al) due seen mv) (lp 2) ⟨LA c L fa q a (R2 kind lot w0 w1 cc i al) due seen mv, rt, bk⟩ := by
  obtain ⟨_, Dm, _⟩ := W.mod
  obtain ⟨_, Ds, _⟩ := W.sub
  have hd4 : ∀ k < 4, 1 ≤ dt cc k ∧ dt cc k ≤ 4 := fun k _ => dt_mem cc k
  unfold R2
  rw [cnt_told hd4]
  have asc : ∀ k < 4, (rowX (dt cc) k).cps.all (· < 128) = true := fun k hk => (row_fact (hd4 k hk).1 (hd4 k hk).2 hk).1
  show XA1 _ _ _ _ (Stmt.Assign _ _ _) _
  refine lb_pure (x_assign_comp (rs := [.int (cnt4 (dt cc) 0), .int (cnt4 (dt cc) 1), .int (cnt4 (dt cc) 2), .int (cnt4 (dt cc) 3)]) [] (it_list (ds := [.str (rowX (dt cc) 0), .str (rowX (dt cc) 1), .str (rowX (dt cc) 2), .str (rowX (dt cc) 3)]) r.h (by rw [← due_take]; exact ev_upto_list (n := 4) (ev_name rfl) ev_int (by have := (due_len (dt cc) ((i : Int) + kind)).2; have : sizeLine = 2 ^ 24 := rfl; lia))) rfl rfl (by decide) (by decide) (fun x d h => nomatch h) ?_ (show 4 ≤ sizeLine by decide) rfl rfl rfl)
  refine .keep [(Str.ofString "row", .str (rowX (dt cc) 0))] (fun C => bdc_name rfl rfl) (fun C => ifs_nil) (fun C => (ev_bin ev_int (ev_call Dm rfl (evs_cons (ev_call Ds rfl (evs_cons (ev_count W.count W.nb (asc 0 (by decide)) (r.less (by decide)) rfl rfl) (evs_cons ev_int evs_nil)) (f_sub W.sub) (r.less (by decide))) (evs_cons ev_int evs_nil)) (f_imod (by decide) W.mod) (r.less (by decide))) op_add)) ?_
  refine .keep [(Str.ofString "row", .str (rowX (dt cc) 1))] (fun C => bdc_name rfl rfl) (fun C => ifs_nil) (fun C => (ev_bin ev_int (ev_call Dm rfl (evs_cons (ev_call Ds rfl (evs_cons (ev_count W.count W.nb (asc 1 (by decide)) (r.less (by decide)) rfl rfl) (evs_cons ev_int evs_nil)) (f_sub W.sub) (r.less (by decide))) (evs_cons ev_int evs_nil)) (f_imod (by decide) W.mod) (r.less (by decide))) op_add)) ?_
  refine .keep [(Str.ofString "row", .str (rowX (dt cc) 2))] (fun C => bdc_name rfl rfl) (fun C => ifs_nil) (fun C => (ev_bin ev_int (ev_call Dm rfl (evs_cons (ev_call Ds rfl (evs_cons (ev_count W.count W.nb (asc 2 (by decide)) (r.less (by decide)) rfl rfl) (evs_cons ev_int evs_nil)) (f_sub W.sub) (r.less (by decide))) (evs_cons ev_int evs_nil)) (f_imod (by decide) W.mod) (r.less (by decide))) op_add)) ?_
  refine .keep [(Str.ofString "row", .str (rowX (dt cc) 3))] (fun C => bdc_name rfl rfl) (fun C => ifs_nil) (fun C => (ev_bin ev_int (ev_call Dm rfl (evs_cons (ev_call Ds rfl (evs_cons (ev_count W.count W.nb (asc 3 (by decide)) (r.less (by decide)) rfl rfl) (evs_cons ev_int evs_nil)) (f_sub W.sub) (r.less (by decide))) (evs_cons ev_int evs_nil)) (f_imod (by decide) W.mod) (r.less (by decide))) op_add)) ?_
  exact .nil
theorem lp3 (W : Lw c) (r : Rm 6 A) (hA : A.frames = some [envL L fa q]) : XA1 c A (envL L fa q) (LA c L fa q a (R2 kind lot w0 w1 cc i al) due seen mv) (lp 3) ⟨LA c L fa q a (R3 kind lot w0 w1 cc i al) due seen mv, rt, bk⟩ := by
  show XA1 _ _ _ _ (Stmt.Assign _ _ _) _
  unfold R3
  rw [← free_fr]
  have hd4 : ∀ k < 4, 1 ≤ dt cc k ∧ dt cc k ≤ 4 := fun k _ => dt_mem cc k
  obtain ⟨l1, l2⟩ := due_len (dt cc) ((i : Int) + kind)
  exact lb_free (rs := dueV (dt cc) ((i : Int) + kind)) (rowS := rowX (dt cc)) W.K W.N W.free W.asked W.ne W.eq hA rfl rfl (r.less (by decide)) (evs_cons (ev_name rfl) (evs_cons (ev_name rfl) (evs_cons (ev_name rfl) evs_nil))) (due_get _ _) l1 (by lia) (fun j hj => ok_ascii (row_fact (hd4 j hj).1 (hd4 j hj).2 hj).1) (.inl rfl) rfl
theorem eqv_cons_nil (x : PyData) (xs : List PyData) : PyData.eqv (.list (x :: xs)) (.list []) = false := by unfold PyData.eqv; rfl
theorem lp4 (r : Rm 6 A) (hc : cc < 256) : XA1 c A (envL L fa q) (LA c L fa q a (R3 kind lot w0 w1 cc i al) due seen mv) (lp 4) ⟨LA c L fa q a (R3 kind lot w0 w1 cc i al) due seen mv, rt, bk⟩ := by
  have h := op_eq (c := c) (A := A) (d₁ := .list (natsD (frc cc))) (d₂ := .list []) (nats_lay _) rfl (r.line _ (by simp [PyData.depth, nats_depth, PyData.depthAll])) (nats_flat _) rfl
  have e : PyData.eqv (.list (natsD (frc cc))) (.list []) = false := by
    have := (c_len hc).1
    match hf : frc cc, this with
    | x :: l, _ => exact eqv_cons_nil _ _
  rw [e] at h
  show XA1 _ _ _ _ (Stmt.If _ _ _ _) _
  exact lb_pure (x_if (b := false) (o := .next _) (tr_cmp (ev_name rfl) (ev_list evs_nil (by decide)) h) (fun h => nomatch h) (fun _ => x_nil))
theorem lp5 (hs : seen.length ≤ 100) : XA1 c A (envL L fa q) (LA c L fa q a (R3 kind lot w0 w1 cc i al) due seen mv) (lp 5) ⟨LA c L fa q a (R3 kind lot w0 w1 cc i al) due (seen ++ [.list (natsD (frc cc))]) mv, rt, bk⟩ := by
  show XA1 _ _ _ _ (Stmt.Expr _ _) _
  exact lb_append (ω₁ := [(a.ad, .list due)]) (a := a.sn) (ds := seen) (d := .list (natsD (frc cc))) rfl (ev_name rfl) (by lia)
end
end Mine
end
/-! ## E26 -/
section
open PySem PySem.W PySem.Calls PyProof.Rows
set_option maxHeartbeats 2000000
set_option maxRecDepth 100000
namespace Mine
theorem eqv_bool (a b : Bool) : PyData.eqv (.bool a) (.bool b) = (a == b) := by unfold PyData.eqv; cases a <;> cases b <;> rfl
noncomputable def frq (cc : Nat) : PyData → Bool
  | .int k => isFr cc k.toNat
  | _ => false
theorem fr_data (cc : Nat) : ([PyData.int 0, .int 1, .int 2, .int 3].filter (frq cc)).map id = natsD (frc cc) := by
  show ((([0, 1, 2, 3] : List Nat).map fun k : Nat => PyData.int (k : Int)).filter (frq cc)).map id = _
  rw [List.map_id, List.filter_map]
  rfl
section
variable {c : Cx} {A : Around} {L fa : Addr} {q : Str} {a : As7} {due seen : List PyData} {mv : Nat → List (Int × Bool)} {kind lot w0 w1 : Int} {cc i : Nat} {al : PyData} {rt : PyData → Prop} {bk : As}
theorem dots_at (d : Nat → Int) {env : Env} {ρ : List (Str × PyData)} {x : Str} {e : Expr} {p1 p3 : Pos} {k : Int} {j : Nat} (hj : seqIndex? k 4 = some j) (h4 : j < 4) (hx : ρ.lookup x = some (dotsD d)) (he : Ev c A env ρ e (.int k)) (h1 : -(2 ^ 63) ≤ k) (h2 : k < 2 ^ 63) (hdx : (x == ("__debug__" : Str)) = false)
    (hs : ∀ o i, subscripted e false o i = operate [o, i] (getItem o i) := by intro _ _; with_unfolding_all rfl) : Ev c A env ρ (.Subscript (.Name x p1) e p3) (.int (d j)) :=
  ev_item (T := "list") (d₁ := dotsD d) (ev_name hx hdx) he (op_item_list (j := j) hj (dots_get d h4) h1 h2) rfl hs
theorem lp6 (W : Lw c) (r : Rm 6 A) (hs : due.length ≤ 100) : XA1 c A (envL L fa q) (LA c L fa q a (R3 kind lot w0 w1 cc i al) due seen mv) (lp 6) ⟨LA c L fa q a (R3 kind lot w0 w1 cc i al) (due ++ [.list (natsD (frc cc))]) seen mv, rt, bk⟩ := by
  show XA1 _ _ _ _ (Stmt.Expr _ _) _
  refine lb_append (ω₁ := []) (a := a.ad) (ds := due) (d := .list (natsD (frc cc))) rfl (ev_comp (rs := natsD (frc cc)) [(Str.ofString "ring", dotsD (rgI cc))] (it_range1 (N := 4) r.h W.N.range rfl ev_int (by decide) (by decide)) rfl rfl (by decide) (by decide) (caps ⟨⟨rfl, rfl, rfl, rfl⟩, trivial⟩) (ds := rangeD 0 1 (4 : Int).toNat) ?_ (by decide)) (by lia)
  rw [rangeD4']
  refine Cp.cast (fr_data cc) (cp_filter id (frq cc) (fun C => rfl) (fun C => rfl) (fun d hd C => ?_) (fun d hd _ C => ev_name rfl))
  obtain ⟨k, hk, rfl⟩ : ∃ k : Nat, k < 4 ∧ d = .int (k : Int) := by
    simp only [List.mem_cons, List.not_mem_nil, or_false] at hd
    rcases hd with rfl | rfl | rfl | rfl
    · exact ⟨0, by decide, rfl⟩
    · exact ⟨1, by decide, rfl⟩
    · exact ⟨2, by decide, rfl⟩
    · exact ⟨3, by decide, rfl⟩
  have hm := fmod_mem ((k : Int) + 3) (n := 4) (by decide)
  have key : ∀ x y : Nat, decide (((x : Nat) : Int) = ((y : Nat) : Int)) = (x == y) := fun x y => by rw [Bool.eq_iff_iff, decide_eq_true_eq, beq_iff_eq]; lia
  have k0 : decide ((k : Int) = 0) = (k == 0) := by rw [Bool.eq_iff_iff, decide_eq_true_eq, beq_iff_eq]; lia
  have h := op_eq (c := c) (A := A) (d₁ := .bool (decide (rgI cc k = rgI cc ((k + 3) % 4)))) (d₂ := .bool (decide ((k : Int) = 0))) rfl rfl (r.line _ (by simp [PyData.depth]))
  have e : frq cc (.int (k : Int)) = (decide (rgI cc k = rgI cc ((k + 3) % 4)) == decide ((k : Int) = 0)) := by
    unfold frq isFr rgI
    rw [key, k0]
    rfl
  rw [eqv_bool, ← e] at h
  exact tr_cmp (ev_cmp (dots_at (rgI cc) (seq_ok (by lia) (show (k : Int) < ((4 : Nat) : Int) by lia)) hk rfl (ev_name rfl) (by lia) (by lia) (by decide)) (dots_at (rgI cc) (behind_ix hk (Nat.le_refl 4)) (Nat.mod_lt _ (by decide)) rfl (ev_bin (ev_bin (ev_name rfl) ev_int op_add) ev_int (op_mod (by decide))) (by lia) (by lia) (by decide)) (by rw [← eqv_int]; exact op_eq rfl rfl (r.line _ (by simp [PyData.depth])))) (ev_cmp (ev_name rfl) ev_int (by rw [← eqv_int]; exact op_eq rfl rfl (r.line _ (by simp [PyData.depth])))) h
noncomputable def alD (t0 a0 i : Nat) : PyData := if i ≤ t0 then .list [] else .list [.int (t0 : Int), .int (a0 : Int)]
theorem book_rd {g₀ : Heap} {s₀ : Shared} {k g : Heap} {s : Shared} {ρ : List (Str × PyData)} (F : LA c L fa q a ρ due seen mv g₀ s₀ k g s) : Rd (lent g s.heap (omL a due seen mv)) (.ref a.ab) (bookD fun k => bkL (mv k)) := F.fo.lent_rd (by simp [omL, bookD])
theorem moves_rd {g₀ : Heap} {s₀ : Shared} {k g : Heap} {s : Shared} {ρ : List (Str × PyData)} (F : LA c L fa q a ρ due seen mv g₀ s₀ k g s) : Rd (lent g s.heap (omL a due seen mv)) (.ref a.am) (movesL mv) := by
  obtain ⟨o, _, _, hφ⟩ := F.at_
  have e := lent_has (ω := omL a due seen mv) F.fo.frm.gs _ _ hφ
  have m : ∀ k, (a.m k, movesD (mv k)) ∈ omL a due seen mv → Rd (lent g s.heap (omL a due seen mv)) (.ref (a.m k)) (movesD (mv k)) := fun k h => F.fo.lent_rd h
  exact .list e rfl rfl rfl (.cons (m 0 (by simp [omL])) (.cons (m 1 (by simp [omL])) (.cons (m 2 (by simp [omL])) (.cons (m 3 (by simp [omL])) .nil))))
/-- law's own lists may be read, when lent -/
theorem lends {ρ : List (Str × PyData)} : Lends c (envL L fa q) (sdL q a) (nuL a) ρ (omL a due seen mv) ((Str.ofString "book", bookD fun k => bkL (mv k)) :: (Str.ofString "moves", movesL mv) :: ρ) := fun {g₀ s₀ k g s} F x d h => by
  rw [List.lookup_cons] at h
  by_cases hx : x = Str.ofString "book"
  · subst hx
    simp at h
    subst h
    exact .inr ⟨.ref a.ab, rfl, book_rd F⟩
  · rw [beq_eq_false_iff_ne.mpr hx] at h
    simp only at h
    rw [List.lookup_cons] at h
    by_cases hy : x = Str.ofString "moves"
    · subst hy
      simp at h
      subst h
      exact .inr ⟨.ref a.am, rfl, moves_rd F⟩
    · rw [beq_eq_false_iff_ne.mpr hy] at h
      exact .inl h
theorem eqv_cons_cons (x y : PyData) (xs ys : List PyData) : PyData.eqv (.list (x :: xs)) (.list (y :: ys)) = (PyData.eqv x y && PyData.eqv (.list xs) (.list ys)) := by
  conv => lhs; unfold PyData.eqv
  simp only [PyData.eqvAll]
  conv => rhs; rhs; unfold PyData.eqv
theorem is_nil (xs : List PyData) : PyData.eqv (.list xs) (.list []) = xs.isEmpty := by
  cases xs with
  | nil => unfold PyData.eqv; rfl
  | cons x xs => exact eqv_cons_nil x xs
end
end Mine
end
/-! ## E27 -/
section
open PySem PySem.W PySem.Calls PyProof.Rows
set_option maxHeartbeats 2000000
set_option maxRecDepth 100000
namespace Mine
section
variable {c : Cx} {A : Around} {L fa : Addr} {q : Str} {a : As7} {due seen : List PyData} {mv : Nat → List (Int × Bool)} {kind lot w0 w1 : Int} {cc i t0 a0 : Nat} {al : PyData} {rt : PyData → Prop} {bk : As}
theorem xa_sub {P P' : As} {st : Stmt} {o : Po} {env : Env} (h : XA1 c A env P st o) (hp : ∀ g₀ s₀ k g s, P' g₀ s₀ k g s → P g₀ s₀ k g s) : XA1 c A env P' st o := fun g₀ s₀ k g s Q E p hQ => h g₀ s₀ k g s Q E (hp _ _ _ _ _ p) hQ
theorem lp7 (W : Lw c) (r : Rm 6 A) (hb : i < t0 → (frc cc).length ≠ 1) (h1 : i = t0 → frc cc = [a0]) (hf : i = t0 → (mv 0).length ≤ 3) :
    XA1 c A (envL L fa q) (LA c L fa q a (R3 kind lot w0 w1 cc i (alD t0 a0 i)) due seen mv) (lp 7) ⟨LA c L fa q a (R3 kind lot w0 w1 cc i (alD t0 a0 (i + 1))) due seen mv, rt, bk⟩ := by
  have tnil : ∀ al : List PyData, PyData.canLayAll0 al = true → flats al = true → PyData.depthAll al ≤ 5 → ∀ {ρ : List (Str × PyData)} {p1 p2 p3 : Pos}, ρ.lookup (Str.ofString "alone") = some (.list al) → Tr c A (envL L fa q) ρ (.Compare (.Name (Str.ofString "alone") p1) [.Eq] [.List [] p2] p3) al.isEmpty := fun al hl hfl hdp ρ p1 p2 p3 hx => by
    rw [← is_nil]
    exact tr_cmp (ev_name hx) (ev_list evs_nil (by decide)) (op_eq (d₁ := .list al) (d₂ := .list []) hl rfl (r.line _ (by simp only [PyData.depth, PyData.depthAll]; lia)) hfl rfl)
  have len1 : ∀ {ρ : List (Str × PyData)} {p1 p2 p3 p4 p5 : Pos} {k}, ρ.lookup (Str.ofString "free") = some (.list (natsD (frc cc))) → Tr c A (envL L fa q) ρ (.Compare (.Call (.Name (Str.ofString "len") p1) [.Name (Str.ofString "free") p2] [] p3) [.Eq] [.Constant (.int 1) k p4] p5) (decide ((((frc cc).length : Nat) : Int) = 1)) := fun {ρ p1 p2 p3 p4 p5 k} hx => by
    have hl4 := fr_len (isFr cc)
    refine tr_cmp (ev_len W.N.len rfl (ev_name hx) (by unfold natsD; rw [List.length_map]; show (frc cc).length < _; have : (frc cc).length ≤ 4 := hl4; lia) (by unfold natsD; rw [List.length_map])) ev_int (by rw [← eqv_int]; exact op_eq rfl rfl (r.line _ (by simp [PyData.depth])))
  show XA1 _ _ _ _ (Stmt.If _ _ _ _) _
  rcases Nat.lt_trichotomy i t0 with hi | hi | hi
  · have e1 : alD t0 a0 i = .list [] := by unfold alD; rw [if_pos (by lia)]
    have e2 : alD t0 a0 (i + 1) = .list [] := by unfold alD; rw [if_pos (by lia)]
    rw [e1, e2]
    have hne : decide ((((frc cc).length : Nat) : Int) = 1) = false := decide_eq_false (by have := hb hi; lia)
    exact lb_pure (x_if (b := false) (o := .next _) (Tr.cast (show (List.isEmpty ([] : List PyData) && (decide ((((frc cc).length : Nat) : Int) = 1) && true)) = false by rw [hne]; rfl) (tr_bool (al_and (tnil [] rfl rfl (by simp [PyData.depthAll]) rfl) (fun _ => al_and (len1 rfl) (fun _ => al_and_nil))))) (fun h => nomatch h) (fun _ => x_nil))
  · have e1 : alD t0 a0 i = .list [] := by unfold alD; rw [if_pos (by lia)]
    have e2 : alD t0 a0 (i + 1) = .list [.int (t0 : Int), .int (a0 : Int)] := by unfold alD; rw [if_neg (by lia)]
    rw [e1, e2]
    have hfr := h1 hi
    have hne : decide ((((frc cc).length : Nat) : Int) = 1) = true := decide_eq_true (by rw [hfr]; rfl)
    obtain ⟨_, Dl, _⟩ := W.le
    obtain ⟨_, Dc, _⟩ := W.calls
    have hcal : decide ((callsV (bkL (mv 0)).js) ≤ 3) = true := decide_eq_true (by rw [bk_calls]; have := hf hi; lia)
    have hle := f_le (a := callsV (bkL (mv 0)).js) (b := 3) W.le
    rw [hcal] at hle
    refine lb_if lends (b := true) (Tr.cast (show (List.isEmpty ([] : List PyData) && (decide ((((frc cc).length : Nat) : Int) = 1) && true)) = true by rw [hne]; rfl) (tr_bool (al_and (tnil [] rfl rfl (by simp [PyData.depthAll]) rfl) (fun _ => al_and (len1 rfl) (fun _ => al_and_nil))))) (fun _ => ?_) (fun h => nomatch h)
    refine xa_cons _ (lb_pure (x_assign (d := .list [.int (t0 : Int), .int (a0 : Int)]) (by
      rw [show ((t0 : Nat) : Int) = ((i : Nat) : Int) by rw [hi]]
      exact ev_list (evs_cons (ev_name rfl) (evs_cons (ev_item (T := "list") (d₁ := .list (natsD [a0])) (ev_name (by rw [← hfr]; rfl)) ev_int (op_item_list (j := 0) rfl rfl (by decide) (by decide)) rfl) evs_nil)) (show 2 ≤ sizeLine by decide)) (.inl rfl))) ?_
    refine xa_cons _ (lb_if lends (b := false) (tr_cmp (ev_call Dl rfl (evs_cons (ev_call Dc rfl (evs_cons (ev_item (T := "tuple") (d := dictD (bkL (mv 0)).js) (ev_item (T := "list") (d := (bkL (mv 0)).data) (d₁ := bookD fun k => bkL (mv k)) (ev_name rfl) ev_int (op_item_list (j := 0) rfl rfl (by decide) (by decide)) rfl) ev_int (op_item_tuple (j := 4) rfl rfl (by decide) (by decide)) rfl) evs_nil) (f_calls W.calls) (r.less (by decide))) (evs_cons ev_int evs_nil)) hle (r.less (by decide))) ev_bool op_isNot_bool) (fun h => nomatch h) (fun _ => xa_nil fun _ _ _ _ _ F => F)) (xa_nil fun _ _ _ _ _ F => ?_)
    exact F.weak (subs ⟨rfl, rfl, rfl, rfl, rfl, rfl, rfl, rfl, rfl, rfl, rfl, trivial⟩)
  · have e1 : alD t0 a0 i = .list [.int (t0 : Int), .int (a0 : Int)] := by unfold alD; rw [if_neg (by lia)]
    have e2 : alD t0 a0 (i + 1) = .list [.int (t0 : Int), .int (a0 : Int)] := by unfold alD; rw [if_neg (by lia)]
    rw [e1, e2]
    exact lb_pure (x_if (b := false) (o := .next _) (tr_bool (al_and (b₂ := true) (tnil [.int (t0 : Int), .int (a0 : Int)] rfl rfl (by simp [PyData.depthAll, PyData.depth]) rfl) (fun h => nomatch h))) (fun h => nomatch h) (fun _ => x_nil))
end
end Mine
end
/-! ## E28 -/
section
open PySem PySem.W PySem.Calls PyProof.Rows
set_option maxHeartbeats 2000000
set_option maxRecDepth 100000
namespace Mine
section
variable {c : Cx} {A : Around} {L fa : Addr} {q : Str} {a : As7} {due seen : List PyData} {mv : Nat → List (Int × Bool)} {kind lot w0 w1 : Int} {cc i t0 a0 : Nat} {al : PyData} {rt : PyData → Prop} {bk : As}
theorem t_eqnil (r : Rm 6 A) {al : List PyData} (hl : PyData.canLayAll0 al = true) (hfl : flats al = true) (hdp : PyData.depthAll al ≤ 5) {ρ : List (Str × PyData)} {p1 p2 p3 : Pos} (hx : ρ.lookup (Str.ofString "alone") = some (.list al)) : Tr c A (envL L fa q) ρ (.Compare (.Name (Str.ofString "alone") p1) [.Eq] [.List [] p2] p3) al.isEmpty := by
  rw [← is_nil]
  exact tr_cmp (ev_name hx) (ev_list evs_nil (by decide)) (op_eq (d₁ := .list al) (d₂ := .list []) hl rfl (r.line _ (by simp only [PyData.depth, PyData.depthAll]; lia)) hfl rfl)
theorem t_nenil (r : Rm 6 A) {al : List PyData} (hl : PyData.canLayAll0 al = true) (hfl : flats al = true) (hdp : PyData.depthAll al ≤ 5) {ρ : List (Str × PyData)} {p1 p2 p3 : Pos} (hx : ρ.lookup (Str.ofString "alone") = some (.list al)) : Tr c A (envL L fa q) ρ (.Compare (.Name (Str.ofString "alone") p1) [.NotEq] [.List [] p2] p3) (!al.isEmpty) := by
  rw [← is_nil]
  exact tr_cmp (ev_name hx) (ev_list evs_nil (by decide)) (op_ne (d₁ := .list al) (d₂ := .list []) hl rfl (r.line _ (by simp only [PyData.depth, PyData.depthAll]; lia)) hfl rfl)
theorem al_nil (h : i < t0) : alD t0 a0 (i + 1) = .list [] := by unfold alD; rw [if_pos (by lia)]
theorem al_two (h : t0 ≤ i) : alD t0 a0 (i + 1) = .list [.int (t0 : Int), .int (a0 : Int)] := by unfold alD; rw [if_neg (by lia)]
theorem lp8 (r : Rm 6 A) (h13 : t0 ≤ 13) : XA1 c A (envL L fa q) (LA c L fa q a (R3 kind lot w0 w1 cc i (alD t0 a0 (i + 1))) due seen mv) (lp 8) ⟨LA c L fa q a (R3 kind lot w0 w1 cc i (alD t0 a0 (i + 1))) due seen mv, rt, bk⟩ := by
  show XA1 _ _ _ _ (Stmt.If _ _ _ _) _
  rcases Nat.lt_or_ge i t0 with hi | hi
  · rw [al_nil hi]
    refine lb_pure (x_if (b := false) (o := .next _) (Tr.cast (show (List.isEmpty ([] : List PyData) && (decide ((i : Int) = 18) && true)) = false by rw [decide_eq_false (by lia)]; rfl) (tr_bool (al_and (t_eqnil r rfl rfl (by simp [PyData.depthAll]) rfl) (fun _ => al_and (tr_cmp (ev_name rfl) ev_int (by rw [← eqv_int]; exact op_eq rfl rfl (r.line _ (by simp [PyData.depth])))) (fun _ => al_and_nil))))) (fun h => nomatch h) (fun _ => x_nil))
  · rw [al_two hi]
    exact lb_pure (x_if (b := false) (o := .next _) (tr_bool (al_and (b₂ := true) (t_eqnil r (al := [.int (t0 : Int), .int (a0 : Int)]) rfl rfl (by simp [PyData.depthAll, PyData.depth]) rfl) (fun h => nomatch h))) (fun h => nomatch h) (fun _ => x_nil))
theorem lp9 (r : Rm 6 A) (hfr : t0 ≤ i → frc cc = [(a0 + (i - t0)) % 4]) : XA1 c A (envL L fa q) (LA c L fa q a (R3 kind lot w0 w1 cc i (alD t0 a0 (i + 1))) due seen mv) (lp 9) ⟨LA c L fa q a (R3 kind lot w0 w1 cc i (alD t0 a0 (i + 1))) due seen mv, rt, bk⟩ := by
  show XA1 _ _ _ _ (Stmt.If _ _ _ _) _
  rcases Nat.lt_or_ge i t0 with hi | hi
  · rw [al_nil hi]
    exact lb_pure (x_if (b := false) (o := .next _) (tr_bool (al_and (b₂ := true) (t_nenil r (al := []) rfl rfl (by simp [PyData.depthAll]) rfl) (fun h => nomatch h))) (fun h => nomatch h) (fun _ => x_nil))
  · rw [al_two hi]
    have hf := hfr hi
    have e : ((a0 : Int) + (i : Int) - (t0 : Int)).fmod 4 = (((a0 + (i - t0)) % 4 : Nat) : Int) := by
      rw [Int.fmod_eq_emod_of_nonneg _ (by decide)]
      lia
    have hlay : (PyData.list (natsD [(a0 + (i - t0)) % 4])).canLay0 = true := rfl
    have h := op_ne (c := c) (A := A) hlay hlay (r.line _ (by simp [PyData.depth, PyData.depthAll, natsD])) rfl rfl
    rw [SeqAt.eqv_refl _ hlay] at h
    refine lb_pure (x_if (b := false) (o := .next _) (tr_bool (al_and (b₁ := true) (b₂ := false) (t_nenil r (al := [.int (t0 : Int), .int (a0 : Int)]) rfl rfl (by simp [PyData.depthAll, PyData.depth]) rfl) (fun _ => al_and (b₁ := false) (b₂ := true) (tr_cmp (ev_name (by rw [← hf]; rfl)) ?_ h) (fun h => nomatch h)))) (fun h => nomatch h) (fun _ => x_nil))
    show Ev c A _ _ _ (.list [.int (((a0 + (i - t0)) % 4 : Nat) : Int)])
    rw [← e]
    exact ev_list (evs_cons (ev_bin (ev_bin (ev_bin (ev_item (T := "list") (d₁ := .list [.int (t0 : Int), .int (a0 : Int)]) (ev_name rfl) ev_int (op_item_list (j := 1) rfl rfl (by decide) (by decide)) rfl) (ev_name rfl) op_add) (ev_item (T := "list") (d₁ := .list [.int (t0 : Int), .int (a0 : Int)]) (ev_name rfl) ev_int (op_item_list (j := 0) rfl rfl (by decide) (by decide)) rfl) op_sub) ev_int (op_mod (by decide))) evs_nil) (show 1 ≤ sizeLine by decide)
theorem lp10 (r : Rm 6 A) (h : i < t0 + 4) : XA1 c A (envL L fa q) (LA c L fa q a (R3 kind lot w0 w1 cc i (alD t0 a0 (i + 1))) due seen mv) (lp 10) ⟨LA c L fa q a (R3 kind lot w0 w1 cc i (alD t0 a0 (i + 1))) due seen mv, rt, bk⟩ := by
  show XA1 _ _ _ _ (Stmt.If _ _ _ _) _
  rcases Nat.lt_or_ge i t0 with hi | hi
  · rw [al_nil hi]
    exact lb_pure (x_if (b := false) (o := .next _) (tr_bool (al_and (b₂ := true) (t_nenil r (al := []) rfl rfl (by simp [PyData.depthAll]) rfl) (fun h => nomatch h))) (fun h => nomatch h) (fun _ => x_nil))
  · rw [al_two hi]
    exact lb_pure (x_if (b := false) (o := .next _) (Tr.cast (show (!(List.isEmpty ([.int (t0 : Int), .int (a0 : Int)] : List PyData)) && (decide ((i : Int) = (t0 : Int) + 4) && true)) = false by rw [decide_eq_false (by lia)]; rfl) (tr_bool (al_and (t_nenil r rfl rfl (by simp [PyData.depthAll, PyData.depth]) rfl) (fun _ => al_and (tr_cmp (ev_name rfl) (ev_bin (ev_item (T := "list") (d₁ := .list [.int (t0 : Int), .int (a0 : Int)]) (ev_name rfl) ev_int (op_item_list (j := 0) rfl rfl (by decide) (by decide)) rfl) ev_int op_add) (by rw [← eqv_int]; exact op_eq rfl rfl (r.line _ (by simp [PyData.depth])))) (fun _ => al_and_nil))))) (fun h => nomatch h) (fun _ => x_nil))
theorem lp10b (r : Rm 6 A) (h : i = t0 + 4) (hbk : ∀ g₀ s₀ k g s, LA c L fa q a (R3 kind lot w0 w1 cc i (alD t0 a0 (i + 1))) due seen mv g₀ s₀ k g s → bk g₀ s₀ k g s) : XA1 c A (envL L fa q) (LA c L fa q a (R3 kind lot w0 w1 cc i (alD t0 a0 (i + 1))) due seen mv) (lp 10) ⟨fun _ _ _ _ _ => False, rt, bk⟩ := by
  have e := al_two (a0 := a0) (show t0 ≤ i by lia)
  show XA1 _ _ _ _ (Stmt.If _ _ _ _) _
  refine lb_if lends (b := true) (Tr.cast (show (!(List.isEmpty ([.int (t0 : Int), .int (a0 : Int)] : List PyData)) && (decide ((i : Int) = (t0 : Int) + 4) && true)) = true by rw [decide_eq_true (by lia)]; rfl) (tr_bool (al_and (t_nenil r rfl rfl (by simp [PyData.depthAll, PyData.depth]) (by rw [← e]; rfl)) (fun _ => al_and (tr_cmp (ev_name rfl) (ev_bin (ev_item (T := "list") (d₁ := .list [.int (t0 : Int), .int (a0 : Int)]) (ev_name (by rw [← e]; rfl)) ev_int (op_item_list (j := 0) rfl rfl (by decide) (by decide)) rfl) ev_int op_add) (by rw [← eqv_int]; exact op_eq rfl rfl (r.line _ (by simp [PyData.depth])))) (fun _ => al_and_nil))))) (fun _ => xa_break hbk) (fun h => nomatch h)
end
end Mine
end
/-! ## E29 -/
section
open PySem PySem.W PySem.Calls PyProof.Rows
set_option maxHeartbeats 2000000
set_option maxRecDepth 100000
namespace Mine
section
variable {c : Cx} {A : Around} {L fa : Addr} {q : Str} {a : As7} {due seen : List PyData} {mv : Nat → List (Int × Bool)} {kind lot w0 w1 : Int} {cc i t0 a0 : Nat} {al : PyData} {rt : PyData → Prop} {bk : As}
noncomputable abbrev R4 (kind lot w0 w1 : Int) (cc i : Nat) (al : PyData) : List (Str × PyData) := setρ (R3 kind lot w0 w1 cc i al) (Str.ofString "count") (.int (cnV lot i (frc cc).length))
theorem pow_log {i : Nat} (h : i ≤ 22) : ((10 : Int) ^ i).natAbs.log2 < 9000 := by
  have : ∀ i < 23, ((10 : Int) ^ i).natAbs.log2 < 9000 := by decide +kernel
  exact this i (by lia)
theorem pow_ne (i : Nat) : (10 : Int) ^ i ≠ 0 := Int.pow_ne_zero (by decide)
theorem lp11 (W : Lw c) (r : Rm 6 A) (hc : cc < 256) (hi : i ≤ 22) : XA1 c A (envL L fa q) (LA c L fa q a (R3 kind lot w0 w1 cc i al) due seen mv) (lp 11) ⟨LA c L fa q a (R4 kind lot w0 w1 cc i al) due seen mv, rt, bk⟩ := by
  obtain ⟨_, Dm, _⟩ := W.mod
  obtain ⟨_, Df, _⟩ := W.fdiv
  have h0 := (c_len hc).1
  have hl4 : (frc cc).length ≤ 4 := fr_len (isFr cc)
  show XA1 _ _ _ _ (Stmt.Assign _ _ _) _
  exact lb_pure (x_assign (ev_bin ev_int (ev_call Dm rfl (evs_cons (ev_call Dm rfl (evs_cons (ev_call Df rfl (evs_cons (ev_name rfl) (evs_cons (ev_bin (d := .int (10 ^ i)) ev_int (ev_name rfl) (op_pow (a := 10) (n := (i : Int)) (by lia) (by rw [show (Builtin.Int.intBits 10) = 4 by decide]; lia))) evs_nil)) (f_ifloordiv (pow_ne i) (pow_log hi) W.fdiv) (r.less (by decide))) (evs_cons ev_int evs_nil)) (f_imod (by decide) W.mod) (r.less (by decide))) (evs_cons (ev_len (n := ((frc cc).length : Nat)) W.N.len rfl (ev_name rfl) (by unfold natsD; rw [List.length_map]; lia) (by unfold natsD; rw [List.length_map])) evs_nil)) (f_imod (by lia) W.mod) (r.less (by decide))) op_add) (.inl rfl))
theorem lp12 (W : Lw c) (r : Rm 6 A) (hc : cc < 256) (hi : i ≤ 22) : XA1 c A (envL L fa q) (LA c L fa q a (R4 kind lot w0 w1 cc i al) due seen mv) (lp 12) ⟨LA c L fa q a (R4 kind lot w0 w1 cc i al) due seen mv, rt, bk⟩ := by
  have h0 := (c_len hc).1
  have hl4 : (frc cc).length ≤ 4 := fr_len (isFr cc)
  have h := op_ne (c := c) (A := A) (d₁ := .int (cnV lot i (frc cc).length)) (d₂ := .int (cnV lot i (frc cc).length)) rfl rfl (r.line _ (by simp [PyData.depth]))
  rw [SeqAt.eqv_refl _ rfl] at h
  show XA1 _ _ _ _ (Stmt.If _ _ _ _) _
  exact lb_pure (x_if (b := false) (o := .next _) (tr_cmp (ev_name rfl) (ev_bin ev_int (ev_bin (ev_bin (ev_bin (ev_name rfl) (ev_bin (d := .int (10 ^ i)) ev_int (ev_name rfl) (op_pow (a := 10) (n := (i : Int)) (by lia) (by rw [show (Builtin.Int.intBits 10) = 4 by decide]; lia))) (op_div r.h (pow_ne i) (pow_log hi))) ev_int (op_mod (by decide))) (ev_len (n := ((frc cc).length : Nat)) W.N.len rfl (ev_name rfl) (by unfold natsD; rw [List.length_map]; lia) (by unfold natsD; rw [List.length_map])) (op_mod (by lia))) op_add) h) (fun h => nomatch h) (fun _ => x_nil))
theorem om_lists : Lists (omL a due seen mv) := by
  intro p hp
  simp only [omL, List.mem_cons, List.not_mem_nil, or_false] at hp
  rcases hp with rfl | rfl | rfl | rfl | rfl | rfl | rfl <;> exact ⟨_, rfl⟩
/-- lists of lists, or of tuples -/
noncomputable def NoInt (l : List PyData) : Prop := ∀ i r, l ≠ .int i :: r
theorem om_noint (h1 : NoInt due) (h2 : NoInt seen) : ∀ p ∈ omL a due seen mv, ∀ i r, p.2 ≠ .list (.int i :: r) := by
  have mvs : ∀ l : List (Int × Bool), ∀ i r, movesD l ≠ .list (.int i :: r) := fun l i r z => by
    unfold movesD at z
    cases l with
    | nil => cases z
    | cons => cases z
  intro p hp i r
  simp only [omL, List.mem_cons, List.not_mem_nil, or_false] at hp
  rcases hp with rfl | rfl | rfl | rfl | rfl | rfl | rfl
  · exact fun z => h1 i r (PyData.list.inj z)
  · exact fun z => h2 i r (PyData.list.inj z)
  · exact mvs _ i r
  · exact mvs _ i r
  · exact mvs _ i r
  · exact mvs _ i r
  · exact fun z => by cases z
noncomputable abbrev nM (mv : Nat → List (Int × Bool)) (k : Nat) : Int := ((mv k).length : Nat)
noncomputable abbrev movL (w0 w1 lot : Int) (cc i : Nat) (mv : Nat → List (Int × Bool)) : List Nat := moversV w0 w1 (nM mv) (frc cc) (cnV lot i (frc cc).length)
noncomputable abbrev R5 (kind lot w0 w1 : Int) (cc i : Nat) (al : PyData) (mv : Nat → List (Int × Bool)) : List (Str × PyData) := setρ (R4 kind lot w0 w1 cc i al) (Str.ofString "movers") (.list (natsD (movL w0 w1 lot cc i mv)))
theorem cut_nats {env : Env} {ν ρ ω} {M : List Nat} (hne : M ≠ []) (hl : Lists ω) (hi : ∀ p ∈ ω, ∀ i r, p.2 ≠ .list (.int i :: r)) : Cuts c env ν ρ ω (.list (natsD M)) := by
  rw [nats_ints]
  match M, hne with
  | x :: M, _ => exact @cut_ints c env ν ρ ω ((x : Nat) : Int) (M.map fun k : Nat => (k : Int)) hl hi
theorem lp13 (W : Lw c) (r : Rm 6 A) (hlen : ∀ k < 4, (mv k).length ≤ 64) (hne : movL w0 w1 lot cc i mv ≠ []) (h1 : NoInt due) (h2 : NoInt seen) : XA1 c A (envL L fa q) (LA c L fa q a (R4 kind lot w0 w1 cc i al) due seen mv) (lp 13) ⟨LA c L fa q a (R5 kind lot w0 w1 cc i al mv) due seen mv, rt, bk⟩ := by
  obtain ⟨_, Dm, _⟩ := W.movers
  have hl4 : (frc cc).length ≤ 4 := fr_len (isFr cc)
  have f4 : ∀ k ∈ frc cc, k < 4 := fun k hk => List.mem_range.mp (List.mem_filter.mp hk).1
  show XA1 _ _ _ _ (Stmt.Assign _ _ _) _
  exact lb_assign lends (ev_call Dm rfl (evs_cons (ev_name rfl) (evs_cons (ev_name rfl) (evs_cons (ev_name rfl) (evs_cons (ev_name (d := bookD fun k => bkL (mv k)) rfl) (evs_cons (ev_name (d := movesL mv) rfl) (evs_cons (ev_name rfl) evs_nil)))))) (f_movers (n := nM mv) (B := fun k => bkL (mv k)) (fun k _ => rfl) (fun k _ => bk_calls _) hlen hl4 f4 W.N W.calls W.told W.lt W.T W.M W.movers) (r.less (by decide))) (cut_nats hne om_lists (om_noint h1 h2)) (.inr ⟨rfl, _, rfl⟩) rfl
end
end Mine
end
/-! ## E30 -/
section
open PySem PySem.W PySem.Calls PyProof.Rows
set_option maxHeartbeats 2000000
set_option maxRecDepth 100000
namespace Mine
noncomputable def resT (n : Nat) : KasT (Array Nat) → Bool
  | .ret p => p.all (· < n)
  | .ask _ _ k => resT n (k true) && resT n (k false)
theorem res_sort : ∀ n : Nat, n < 5 → resT n (kas_sort n) = true
  | 0, _ => by decide +kernel
  | 1, _ => by decide +kernel
  | 2, _ => by decide +kernel
  | 3, _ => by decide +kernel
  | 4, _ => by decide +kernel
theorem run_res {n : Nat} (β : Nat → Nat → Bool) : ∀ t : KasT (Array Nat), resT n t = true → (runT β t).all (· < n) = true
  | .ret _, h => h
  | .ask i j k, h => by
    unfold resT at h
    rw [Bool.and_eq_true] at h
    unfold runT
    refine run_res β _ ?_
    cases β i j with
    | true => exact h.1
    | false => exact h.2
theorem sortIx_lt {n : Nat} (hn : n < 5) (β : Nat → Nat → Bool) : ∀ i ∈ sortIx n β, i < n := by
  unfold sortIx
  split
  · intro i hi
    exact List.mem_range.mp hi
  · intro i hi
    have := run_res β _ (res_sort n hn)
    rw [Array.all_eq_true'] at this
    have := this i (by simpa using hi)
    simpa using this
noncomputable def szT : KasT (Array Nat) → Bool
  | .ret p => decide (p.size ≤ 4)
  | .ask _ _ k => szT (k true) && szT (k false)
theorem sz_sort : ∀ n : Nat, n < 5 → szT (kas_sort n) = true
  | 0, _ => by decide +kernel
  | 1, _ => by decide +kernel
  | 2, _ => by decide +kernel
  | 3, _ => by decide +kernel
  | 4, _ => by decide +kernel
noncomputable def keysP (w0 w1 : Int) (n : Nat → Int) (fr : List Nat) : List (Int × Int) := fr.map (keyP w0 w1 n)
theorem order_data (w0 w1 : Int) (n : Nat → Int) {fr : List Nat} (hl : fr.length < 5) : ((sortIx (natsD fr).length (betaOf (keysP w0 w1 n fr))).map fun i => (natsD fr).getD i .none) = natsD (ordO (LL w0 w1 n) fr) := by
  have e1 : (natsD fr).length = fr.length := by unfold natsD; rw [List.length_map]
  have e2 : sortIx fr.length (betaOf (keysP w0 w1 n fr)) = sortIx fr.length fun i j => LL w0 w1 n (fr.getD i 0) (fr.getD j 0) := by
    refine sortIx_congr hl fun i hi j hj => ?_
    have g : ∀ i < fr.length, (keysP w0 w1 n fr).getD i (0, 0) = keyP w0 w1 n (fr.getD i 0) := fun i hi => by
      unfold keysP
      rw [List.getD_eq_getElem?_getD, List.getD_eq_getElem?_getD, List.getElem?_map, List.getElem?_eq_getElem hi]
      rfl
    unfold betaOf
    rw [g i hi, g j hj]
    rfl
  rw [e1, e2]
  unfold ordO natsD
  rw [List.map_map]
  refine List.map_congr_left fun i hi => ?_
  have hi := sortIx_lt hl _ i hi
  rw [List.getD_eq_getElem?_getD, List.getElem?_map, List.getElem?_eq_getElem hi]
  dsimp only [Function.comp, Option.map, Option.getD]
  rw [List.getD_eq_getElem?_getD, List.getElem?_eq_getElem hi]
  rfl
theorem mul_way0 {w0 w1 : Int} (W : Wy w0 w1) (b : Int) : IntMulOk w0 b ∧ IntMulOk w1 b := by
  constructor
  · rcases W.h0 with rfl | rfl | rfl | rfl <;> exact IntMulOk.of_left (by decide +kernel)
  · rcases W.h1 with rfl | rfl <;> exact IntMulOk.of_left (by decide +kernel)
section
variable {c : Cx} {A : Around} {L fa : Addr} {q : Str} {a : As7} {due seen : List PyData} {mv : Nat → List (Int × Bool)} {kind lot w0 w1 : Int} {cc i t0 a0 : Nat} {al : PyData} {rt : PyData → Prop} {bk : As}
noncomputable abbrev R6 (kind lot w0 w1 : Int) (cc i : Nat) (al : PyData) (mv : Nat → List (Int × Bool)) : List (Str × PyData) := setρ (R5 kind lot w0 w1 cc i al mv) (Str.ofString "order") (.list (natsD (ordO (LL w0 w1 (nM mv)) (frc cc))))
theorem lends2 {ρ : List (Str × PyData)} (hw : ρ.lookup (Str.ofString "ways") = some (.tuple [.int w0, .int w1])) : Lends c (envL L fa q) (sdL q a) (nuL a) ρ (omL a due seen mv) [(Str.ofString "ways", .tuple [.int w0, .int w1]), (Str.ofString "moves", movesL mv)] := fun {g₀ s₀ k g s} F x d h => by
  rw [List.lookup_cons] at h
  by_cases hx : x = Str.ofString "ways"
  · subst hx
    simp at h
    subst h
    exact .inl hw
  · rw [beq_eq_false_iff_ne.mpr hx] at h
    simp only at h
    rw [List.lookup_cons] at h
    by_cases hy : x = Str.ofString "moves"
    · subst hy
      simp at h
      subst h
      exact .inr ⟨.ref a.am, rfl, moves_rd F⟩
    · rw [beq_eq_false_iff_ne.mpr hy] at h
      cases h
theorem moves_get (mv : Nat → List (Int × Bool)) {k : Nat} (h : k < 4) : [movesD (mv 0), movesD (mv 1), movesD (mv 2), movesD (mv 3)][k]? = some (movesD (mv k)) := by
  match k, h with
  | 0, _ => rfl
  | 1, _ => rfl
  | 2, _ => rfl
  | 3, _ => rfl
theorem lp14 (W : Lw c) (Y : Wy w0 w1) (r : Rm 6 A) (hc : cc < 256) (hlen : ∀ k < 4, (mv k).length ≤ 64) (hO : ordO (LL w0 w1 (nM mv)) (frc cc) ≠ []) (h1 : NoInt due) (h2 : NoInt seen) : XA1 c A (envL L fa q) (LA c L fa q a (R5 kind lot w0 w1 cc i al mv) due seen mv) (lp 14) ⟨LA c L fa q a (R6 kind lot w0 w1 cc i al mv) due seen mv, rt, bk⟩ := by
  have hl4 : (frc cc).length ≤ 4 := fr_len (isFr cc)
  have f4 : ∀ k ∈ frc cc, k < 4 := fun k hk => List.mem_range.mp (List.mem_filter.mp hk).1
  have hnl : (natsD (frc cc)).length = (frc cc).length := by unfold natsD; rw [List.length_map]
  obtain ⟨n0, ns, hon⟩ : ∃ n0 ns, natsD (ordO (LL w0 w1 (nM mv)) (frc cc)) = (n0 :: ns).map PyData.int := by
    rw [nats_ints]
    match ordO (LL w0 w1 (nM mv)) (frc cc), hO with
    | x :: l, _ => exact ⟨((x : Nat) : Int), l.map fun k : Nat => (k : Int), rfl⟩
  show XA1 _ _ _ _ (Stmt.Assign _ _ _) _
  unfold R6
  rw [hon]
  refine lb_order (x := Str.ofString "k") (z := Str.ofString "free") (y := Str.ofString "order") (lpos := ⟨189, 33, 189, 81⟩) (Φ := fun g => g.get? a.am = some (objM a)) (hΦ := fun k h => k _ _ h) (ds := natsD (frc cc)) (ps := keysP w0 w1 (nM mv) (frc cc)) (ρf := [(Str.ofString "ways", .tuple [.int w0, .int w1]), (Str.ofString "moves", movesL mv)]) W.L W.lim W.N.sorted rfl rfl rfl rfl rfl (fun _ _ _ _ _ => rfl) rfl (by decide) rfl rfl rfl (lends2 rfl) ?_ ?_ (by unfold keysP; rw [List.length_map, hnl]) (by lia) (ok_sort _ (by lia)) (by rw [order_data _ _ _ (by lia)]; exact hon) om_lists (om_noint h1 h2) (.inl rfl) rfl r.room
  · intro v d h
    rw [List.lookup_cons] at h
    by_cases hx : v = Str.ofString "ways"
    · subst hx
      exact ⟨by decide, rfl, by decide, rfl, rfl⟩
    · rw [beq_eq_false_iff_ne.mpr hx] at h
      simp only at h
      rw [List.lookup_cons] at h
      by_cases hy : v = Str.ofString "moves"
      · subst hy
        exact ⟨by decide, rfl, by decide, rfl, rfl⟩
      · rw [beq_eq_false_iff_ne.mpr hy] at h
        cases h
  · intro j d p hd hp A' qual L' f c'
    unfold natsD at hd
    unfold keysP at hp
    rw [List.getElem?_map] at hd hp
    cases hk : (frc cc)[j]? with
    | none => rw [hk] at hd; cases hd
    | some kk =>
      rw [hk] at hd hp
      cases hd
      cases hp
      have hk4 := f4 kk (List.mem_of_getElem? hk)
      have hz := hlen kk hk4
      exact ev_tuple (evs_cons (ev_bin (ev_item (T := "tuple") (d₁ := .tuple [.int w0, .int w1]) (ev_name rfl) ev_int (op_item_tuple (j := 0) rfl rfl (by decide) (by decide)) rfl) (ev_len (n := nM mv kk) W.N.len rfl (ev_item (T := "list") (d := movesD (mv kk)) (d₁ := movesL mv) (ev_name rfl) (ev_name rfl) (op_item_list (j := kk) (seq_ok (by lia) (show (kk : Int) < ((4 : Nat) : Int) by lia)) (moves_get mv hk4) (by lia) (by lia)) rfl) (by rw [List.length_map]; lia) (by rw [List.length_map])) (op_mul (mul_way0 Y _).1))
        (evs_cons (ev_bin (ev_item (T := "tuple") (d₁ := .tuple [.int w0, .int w1]) (ev_name rfl) ev_int (op_item_tuple (j := 1) rfl rfl (by decide) (by decide)) rfl) (ev_name rfl) (op_mul (mul_way0 Y _).2)) evs_nil)) (show 2 ≤ sizeLine by decide)
theorem lp15 (W : Lw c) (r : Rm 6 A) (hc : cc < 256) (hperm : (movL w0 w1 lot cc i mv).Perm ((ordO (LL w0 w1 (nM mv)) (frc cc)).take (cnV lot i (frc cc).length).toNat)) (hpw : (movL w0 w1 lot cc i mv).Pairwise (· ≤ ·)) : XA1 c A (envL L fa q) (LA c L fa q a (R6 kind lot w0 w1 cc i al mv) due seen mv) (lp 15) ⟨LA c L fa q a (R6 kind lot w0 w1 cc i al mv) due seen mv, rt, bk⟩ := by
  have h0 := (c_len hc).1
  have hl4 : (frc cc).length ≤ 4 := fr_len (isFr cc)
  obtain ⟨c1, c2⟩ := cn_mem lot i h0
  have hol : (ordO (LL w0 w1 (nM mv)) (frc cc)).length ≤ 4 := by
    have := hperm
    unfold ordO
    rw [List.length_map]
    unfold sortIx
    split
    · rw [List.length_range]; exact hl4
    · have key : ∀ n : Nat, n < 5 → ∀ β, (runT β (kas_sort n)).size ≤ 4 := by
        intro n hn β
        have g : ∀ t : KasT (Array Nat), szT t = true → (runT β t).size ≤ 4 := by
          intro t
          induction t with
          | ret p => intro h; exact of_decide_eq_true h
          | ask i j k ih =>
            intro h
            unfold szT at h
            rw [Bool.and_eq_true] at h
            unfold runT
            cases hb : β i j with
            | true => exact ih true h.1
            | false => exact ih false h.2
        exact g _ (sz_sort n hn)
      rw [Array.length_toList]
      exact key _ (by lia) _
  have hlay : (PyData.list (natsD (movL w0 w1 lot cc i mv))).canLay0 = true := nats_lay _
  have h := op_ne (c := c) (A := A) hlay hlay (r.line _ (by simp only [PyData.depth, nats_depth]; lia)) (nats_flat _) (nats_flat _)
  rw [SeqAt.eqv_refl _ hlay] at h
  show XA1 _ _ _ _ (Stmt.If _ _ _ _) _
  have hs : natsD (movL w0 w1 lot cc i mv) = ((movL w0 w1 lot cc i mv).map fun k : Nat => (k : Int)).map PyData.int := nats_ints _
  refine lb_pure (x_if (b := false) (o := .next _) (tr_cmp (d₂ := .list (natsD (movL w0 w1 lot cc i mv))) (ev_name rfl) ?_ h) (fun h => nomatch h) (fun _ => x_nil))
  rw [hs]
  have ht : (natsD (ordO (LL w0 w1 (nM mv)) (frc cc))).take (cnV lot i (frc cc).length).toNat = ((((ordO (LL w0 w1 (nM mv)) (frc cc)).take (cnV lot i (frc cc).length).toNat).map fun k : Nat => (k : Int))).map PyData.int := by
    rw [nats_ints, List.map_take, List.map_take]
  refine ev_sorted (ns := ((ordO (LL w0 w1 (nM mv)) (frc cc)).take (cnV lot i (frc cc).length).toNat).map fun k : Nat => (k : Int)) W.N.sorted rfl ?_ (by rw [List.length_map, List.length_take]; lia) (hperm.map _) ?_
  · rw [← ht]
    refine ev_upto_list (ev_name rfl) (ev_name ?_) (by unfold natsD; rw [List.length_map]; have : sizeLine = 2 ^ 24 := rfl; lia)
    rw [show (((cnV lot i (frc cc).length).toNat : Nat) : Int) = cnV lot i (frc cc).length by lia]
    rfl
  · rw [List.pairwise_map]
    exact hpw.imp fun h => by lia
end
end Mine
end
/-! ## E31 -/
section
open PySem PySem.W PySem.Calls PyProof.Rows
set_option maxHeartbeats 2000000
set_option maxRecDepth 100000
namespace Mine
theorem cp_four {c : Cx} {A : Around} {envC : Addr → Env} {x : Str} {p : Pos} {elt : Expr} {ρc : List (Str × PyData)} (F : Nat → Int) (hx : ∀ C, (envC C).kindOf x = some .local) (hp : ∀ C, ((envC C).scope.kind == .class || ((envC C).scope.kind == .module && (envC C).locals != (envC C).globals)) = false)
    (h : ∀ k < 4, ∀ C, Ev c A (envC C) ((x, .int ((k : Nat) : Int)) :: ρc) elt (.int (F k))) : Cp c A envC (.Name x p) [] elt ρc (rangeD 0 1 (4 : Int).toNat) [.int (F 0), .int (F 1), .int (F 2), .int (F 3)] := by
  rw [rangeD4']
  refine .keep [(x, .int 0)] (fun C => bdc_name (hx C) (hp C)) (fun C => ifs_nil) (fun C => h 0 (by decide) C) ?_
  refine .keep [(x, .int 1)] (fun C => bdc_name (hx C) (hp C)) (fun C => ifs_nil) (fun C => h 1 (by decide) C) ?_
  refine .keep [(x, .int 2)] (fun C => bdc_name (hx C) (hp C)) (fun C => ifs_nil) (fun C => h 2 (by decide) C) ?_
  refine .keep [(x, .int 3)] (fun C => bdc_name (hx C) (hp C)) (fun C => ifs_nil) (fun C => h 3 (by decide) C) ?_
  exact .nil
theorem any_nats (M : List Nat) (k : Nat) : ((natsD M).any fun y => PyData.eqv y (.int ((k : Nat) : Int))) = M.contains k := by
  unfold natsD
  rw [List.any_map]
  induction M with
  | nil => rfl
  | cons x M ih =>
    rw [List.any_cons, List.contains_cons, ih]
    congr 1
    dsimp only [Function.comp]
    rw [eqv_int, Bool.eq_iff_iff, decide_eq_true_eq, beq_iff_eq]
    lia
noncomputable def comeF (d : Nat → Int) (k : Nat) : Int := mtold d (k - 1)
noncomputable def aftF (cc k : Nat) : Int := if k = 0 then (rgI cc 0 + 1).fmod 4 else rgI cc (k - 1)
section
variable {c : Cx} {A : Around} {L fa : Addr} {q : Str} {a : As7} {due seen : List PyData} {mv : Nat → List (Int × Bool)} {kind lot w0 w1 : Int} {cc i t0 a0 : Nat} {al : PyData} {rt : PyData → Prop} {bk : As}
noncomputable abbrev R7 (kind lot w0 w1 : Int) (cc i : Nat) (al : PyData) (mv : Nat → List (Int × Bool)) : List (Str × PyData) := setρ (R6 kind lot w0 w1 cc i al mv) (Str.ofString "come") (dotsD (comeF (dt cc)))
noncomputable abbrev R8 (kind lot w0 w1 : Int) (cc i : Nat) (al : PyData) (mv : Nat → List (Int × Bool)) : List (Str × PyData) := setρ (R7 kind lot w0 w1 cc i al mv) (Str.ofString "after") (dotsD (aftF cc))
noncomputable abbrev nxL (w0 w1 lot : Int) (cc i : Nat) (mv : Nat → List (Int × Bool)) : Nat := nxc cc (movL w0 w1 lot cc i mv)
noncomputable abbrev R9 (kind lot w0 w1 : Int) (cc i : Nat) (al : PyData) (mv : Nat → List (Int × Bool)) : List (Str × PyData) := setρ (R8 kind lot w0 w1 cc i al mv) (Str.ofString "dots") (dotsD (dt (nxL w0 w1 lot cc i mv)))
noncomputable abbrev R10 (kind lot w0 w1 : Int) (cc i : Nat) (al : PyData) (mv : Nat → List (Int × Bool)) : List (Str × PyData) := setρ (R9 kind lot w0 w1 cc i al mv) (Str.ofString "ring") (dotsD (rgI (nxL w0 w1 lot cc i mv)))
theorem lp16 : XA1 c A (envL L fa q) (LA c L fa q a (R6 kind lot w0 w1 cc i al mv) due seen mv) (lp 16) ⟨LA c L fa q a (R7 kind lot w0 w1 cc i al mv) due seen mv, rt, bk⟩ := by
  show XA1 _ _ _ _ (Stmt.Assign _ _ _) _
  exact lb_pure (x_assign (d := dotsD (comeF (dt cc))) (ev_bin (d₁ := .list [.int (mtold (dt cc) 0)]) (d₂ := .list [.int (mtold (dt cc) 0), .int (mtold (dt cc) 1), .int (mtold (dt cc) 2)]) (ev_list (evs_cons (dots_at (mtold (dt cc)) (j := 0) rfl (by decide) rfl ev_int (by decide) (by decide) (by decide)) evs_nil) (show 1 ≤ sizeLine by decide)) (ev_upto_list (ds := [.int (mtold (dt cc) 0), .int (mtold (dt cc) 1), .int (mtold (dt cc) 2), .int (mtold (dt cc) 3)]) (n := 3) (ev_name rfl) ev_int (show 4 ≤ sizeLine by decide)) (op_add_list (show 4 ≤ sizeLine by decide))) (.inr ⟨rfl, _, rfl⟩))
theorem lp17 : XA1 c A (envL L fa q) (LA c L fa q a (R7 kind lot w0 w1 cc i al mv) due seen mv) (lp 17) ⟨LA c L fa q a (R8 kind lot w0 w1 cc i al mv) due seen mv, rt, bk⟩ := by
  show XA1 _ _ _ _ (Stmt.Assign _ _ _) _
  exact lb_pure (x_assign (d := dotsD (aftF cc)) (ev_bin (d₁ := .list [.int ((rgI cc 0 + 1).fmod 4)]) (d₂ := .list [.int (rgI cc 0), .int (rgI cc 1), .int (rgI cc 2)]) (ev_list (evs_cons (ev_bin (ev_bin (dots_at (rgI cc) (j := 0) rfl (by decide) rfl ev_int (by decide) (by decide) (by decide)) ev_int op_add) ev_int (op_mod (by decide))) evs_nil) (show 1 ≤ sizeLine by decide)) (ev_upto_list (ds := [.int (rgI cc 0), .int (rgI cc 1), .int (rgI cc 2), .int (rgI cc 3)]) (n := 3) (ev_name rfl) ev_int (show 4 ≤ sizeLine by decide)) (op_add_list (show 4 ≤ sizeLine by decide))) (.inr ⟨rfl, _, rfl⟩))
theorem dots_new {M : List Nat} (P : Stp cc M) {k : Nat} (hk : k < 4) : dt (nxc cc M) k = if M.contains k = true then comeF (dt cc) k else dt cc k := by
  have e := P.rg k hk
  unfold dt
  rw [e]
  unfold nx
  split
  · unfold comeF mtold
    dsimp only
    rw [Int.fmod_eq_emod_of_nonneg _ (by decide)]
    have h0 := rg_lt cc 0
    have h1 := rg_lt cc (k - 1)
    by_cases h : k = 0
    · subst h
      rw [if_pos rfl]
      show _ = (1 : Int) + ((1 + (rg cc 0 + 0) % 4 : Nat) : Int) % 4
      lia
    · rw [if_neg h]
      have : k - 1 < 4 := by lia
      lia
  · rfl
theorem ring_new {M : List Nat} (P : Stp cc M) {k : Nat} (hk : k < 4) : rgI (nxc cc M) k = if M.contains k = true then aftF cc k else rgI cc k := by
  unfold rgI
  rw [P.rg k hk]
  unfold nx
  split
  · unfold aftF rgI
    split
    · rw [Int.fmod_eq_emod_of_nonneg _ (by lia)]
      lia
    · rfl
  · rfl
theorem pick (r : Rm 6 A) {env : Env} {ρ : List (Str × PyData)} {M : List Nat} {F G : Nat → Int} {k : Nat} {x y : Str} {p1 p2 p3 p4 p5 p6 p7 p8 p9 : Pos} (hk : k < 4) (hkk : ρ.lookup (Str.ofString "k") = some (.int (k : Int))) (hM : ρ.lookup (Str.ofString "movers") = some (.list (natsD M))) (hx : ρ.lookup x = some (dotsD F)) (hy : ρ.lookup y = some (dotsD G)) (hdx : (x == ("__debug__" : Str)) = false) (hdy : (y == ("__debug__" : Str)) = false)
    (hs : ∀ o i, subscripted (.Name (Str.ofString "k") p5) false o i = operate [o, i] (getItem o i) := by intro _ _; with_unfolding_all rfl) (hs2 : ∀ o i, subscripted (.Name (Str.ofString "k") p8) false o i = operate [o, i] (getItem o i) := by intro _ _; with_unfolding_all rfl) :
    Ev c A env ρ (.IfExp (.Compare (.Name (Str.ofString "k") p1) [.In] [.Name (Str.ofString "movers") p2] p3) (.Subscript (.Name x p4) (.Name (Str.ofString "k") p5) p6) (.Subscript (.Name y p7) (.Name (Str.ofString "k") p8) p9) pos) (.int (if M.contains k = true then F k else G k)) := by
  have h := op_in_list (c := c) (A := A) (xs := natsD M) (d := .int (k : Int)) (nats_lay M) rfl (by rw [nats_depth, Nat.zero_min]; exact r.line 1 (by decide)) (nats_flat M) rfl
  rw [any_nats] at h
  refine ev_ifexp (b := M.contains k) (tr_cmp (ev_name hkk) (ev_name hM) h) (fun e => ?_) (fun e => ?_)
  · rw [if_pos e]
    exact dots_at F (seq_ok (by lia) (show (k : Int) < ((4 : Nat) : Int) by lia)) hk hx (ev_name hkk) (by lia) (by lia) hdx hs
  · rw [if_neg (by rw [e]; decide)]
    exact dots_at G (seq_ok (by lia) (show (k : Int) < ((4 : Nat) : Int) by lia)) hk hy (ev_name hkk) (by lia) (by lia) hdy hs2
theorem lp18 (W : Lw c) (r : Rm 6 A) (P : Stp cc (movL w0 w1 lot cc i mv)) : XA1 c A (envL L fa q) (LA c L fa q a (R8 kind lot w0 w1 cc i al mv) due seen mv) (lp 18) ⟨LA c L fa q a (R9 kind lot w0 w1 cc i al mv) due seen mv, rt, bk⟩ := by
  show XA1 _ _ _ _ (Stmt.Assign _ _ _) _
  refine lb_pure (x_assign (d := dotsD (dt (nxL w0 w1 lot cc i mv))) (ev_comp [(Str.ofString "come", dotsD (comeF (dt cc))), (Str.ofString "movers", .list (natsD (movL w0 w1 lot cc i mv))), (Str.ofString "dots", dotsD (dt cc))] (it_range1 (N := 4) r.h W.N.range rfl ev_int (by decide) (by decide)) rfl rfl (by decide) (by decide) (caps ⟨⟨rfl, rfl, rfl, rfl⟩, ⟨rfl, rfl, rfl, rfl⟩, ⟨rfl, rfl, rfl, rfl⟩, trivial⟩) (ds := rangeD 0 1 (4 : Int).toNat) (cp_four (dt (nxL w0 w1 lot cc i mv)) (fun C => rfl) (fun C => rfl) fun k hk C => ?_) (by decide)) (.inr ⟨rfl, _, rfl⟩))
  rw [dots_new P hk]
  exact pick r hk rfl rfl rfl rfl (by decide) (by decide)
theorem lp19 (W : Lw c) (r : Rm 6 A) (P : Stp cc (movL w0 w1 lot cc i mv)) : XA1 c A (envL L fa q) (LA c L fa q a (R9 kind lot w0 w1 cc i al mv) due seen mv) (lp 19) ⟨LA c L fa q a (R10 kind lot w0 w1 cc i al mv) due seen mv, rt, bk⟩ := by
  show XA1 _ _ _ _ (Stmt.Assign _ _ _) _
  refine lb_pure (x_assign (d := dotsD (rgI (nxL w0 w1 lot cc i mv))) (ev_comp [(Str.ofString "after", dotsD (aftF cc)), (Str.ofString "movers", .list (natsD (movL w0 w1 lot cc i mv))), (Str.ofString "ring", dotsD (rgI cc))] (it_range1 (N := 4) r.h W.N.range rfl ev_int (by decide) (by decide)) rfl rfl (by decide) (by decide) (caps ⟨⟨rfl, rfl, rfl, rfl⟩, ⟨rfl, rfl, rfl, rfl⟩, ⟨rfl, rfl, rfl, rfl⟩, trivial⟩) (ds := rangeD 0 1 (4 : Int).toNat) (cp_four (rgI (nxL w0 w1 lot cc i mv)) (fun C => rfl) (fun C => rfl) fun k hk C => ?_) (by decide)) (.inr ⟨rfl, _, rfl⟩))
  rw [ring_new P hk]
  exact pick r hk rfl rfl rfl rfl (by decide) (by decide)
theorem dt_of (cc k : Nat) : dt cc k = 1 + (rgI cc k + (k : Int)).fmod 4 := by
  unfold dt rgI
  rw [Int.fmod_eq_emod_of_nonneg _ (by decide)]
  lia
theorem lp20 (W : Lw c) (r : Rm 6 A) : XA1 c A (envL L fa q) (LA c L fa q a (R10 kind lot w0 w1 cc i al mv) due seen mv) (lp 20) ⟨LA c L fa q a (R10 kind lot w0 w1 cc i al mv) due seen mv, rt, bk⟩ := by
  have hlay : (dotsD (dt (nxL w0 w1 lot cc i mv))).canLay0 = true := rfl
  have h := op_ne (c := c) (A := A) hlay hlay (r.line _ (by simp [dotsD, PyData.depth, PyData.depthAll])) rfl rfl
  rw [SeqAt.eqv_refl _ hlay] at h
  show XA1 _ _ _ _ (Stmt.If _ _ _ _) _
  refine lb_pure (x_if (b := false) (o := .next _) (tr_cmp (d₁ := dotsD (dt (nxL w0 w1 lot cc i mv))) (d₂ := dotsD (dt (nxL w0 w1 lot cc i mv))) (ev_name rfl) (ev_comp [(Str.ofString "ring", dotsD (rgI (nxL w0 w1 lot cc i mv)))] (it_range1 (N := 4) r.h W.N.range rfl ev_int (by decide) (by decide)) rfl rfl (by decide) (by decide) (caps ⟨⟨rfl, rfl, rfl, rfl⟩, trivial⟩) (ds := rangeD 0 1 (4 : Int).toNat) (cp_four (dt (nxL w0 w1 lot cc i mv)) (fun C => rfl) (fun C => rfl) fun k hk C => ?_) (by decide)) h) (fun h => nomatch h) (fun _ => x_nil))
  rw [dt_of]
  exact ev_bin ev_int (ev_bin (ev_bin (dots_at (rgI (nxL w0 w1 lot cc i mv)) (seq_ok (by lia) (show (k : Int) < ((4 : Nat) : Int) by lia)) hk rfl (ev_name rfl) (by lia) (by lia) (by decide)) (ev_name rfl) op_add) ev_int (op_mod (by decide))) op_add
end
end Mine
end
/-! ## E32 -/
section
open PySem PySem.W PySem.Calls PyProof.Rows
set_option maxHeartbeats 400000
set_option maxRecDepth 100000
namespace Mine
theorem eqv_nats : ∀ M N : List Nat, PyData.eqv (.list (natsD M)) (.list (natsD N)) = (M == N)
  | [], [] => by unfold PyData.eqv; rfl
  | [], _ :: _ => by unfold PyData.eqv; rfl
  | _ :: _, [] => by unfold PyData.eqv; rfl
  | x :: M, y :: N => by
    show PyData.eqv (.list (.int (x : Int) :: natsD M)) (.list (.int (y : Int) :: natsD N)) = _
    rw [eqv_cons_cons, eqv_nats M N, eqv_int, Bool.eq_iff_iff]
    simp only [Bool.and_eq_true, decide_eq_true_eq, beq_iff_eq, List.cons.injEq]
    exact ⟨fun h => ⟨by lia, h.2⟩, fun h => ⟨by lia, h.2⟩⟩
theorem moves_snoc (l : List (Int × Bool)) (x : Int) (b : Bool) : movesD (l ++ [(x, b)]) = .list ((l.map fun p => PyData.tuple [.int p.1, .bool p.2]) ++ [.tuple [.int x, .bool b]]) := by
  unfold movesD
  rw [List.map_append]
  rfl
/-- one more move of k -/
noncomputable def updM (mv : Nat → List (Int × Bool)) (k : Nat) (x : Int) (b : Bool) (j : Nat) : List (Int × Bool) := if j = k then mv j ++ [(x, b)] else mv j
noncomputable def loopK : List Stmt := match lp 21 with
  | .For _ _ b _ _ => b
  | _ => []
section
variable {c : Cx} {A : Around} {L fa : Addr} {q : Str} {a : As7} {due seen : List PyData} {mv mj : Nat → List (Int × Bool)} {kind lot w0 w1 : Int} {cc i t0 a0 : Nat} {al : PyData} {rt : PyData → Prop} {bk : As}
noncomputable abbrev RF (kind lot w0 w1 : Int) (cc i : Nat) (al : PyData) (mv : Nat → List (Int × Bool)) : List (Str × PyData) := [(Str.ofString "dots", dotsD (dt (nxL w0 w1 lot cc i mv))), (Str.ofString "ring", dotsD (rgI (nxL w0 w1 lot cc i mv))), (Str.ofString "movers", .list (natsD (movL w0 w1 lot cc i mv))), (Str.ofString "kind", .int kind), (Str.ofString "lot", .int lot), (Str.ofString "ways", .tuple [.int w0, .int w1]), (Str.ofString "judge", instD (selD w0 w1)), (Str.ofString "alone", al)]
noncomputable abbrev R11 (kind lot w0 w1 : Int) (cc i : Nat) (al : PyData) (mv : Nat → List (Int × Bool)) (k : Nat) : List (Str × PyData) := setρ (RF kind lot w0 w1 cc i al mv) (Str.ofString "k") (.int (k : Int))
noncomputable abbrev R12 (kind lot w0 w1 : Int) (cc i : Nat) (al : PyData) (mv : Nat → List (Int × Bool)) (k : Nat) : List (Str × PyData) := setρ (R11 kind lot w0 w1 cc i al mv k) (Str.ofString "lone") (.bool (movL w0 w1 lot cc i mv == [k]))
theorem lk0 (r : Rm 6 A) {k : Nat} (hk : k < 4) : XA1 c A (envL L fa q) (LA c L fa q a (R11 kind lot w0 w1 cc i al mv k) due seen mj) ((loopK[0]?).getD (.Pass default)) ⟨LA c L fa q a (R12 kind lot w0 w1 cc i al mv k) due seen mj, rt, bk⟩ := by
  have h := op_eq (c := c) (A := A) (d₁ := .list (natsD (movL w0 w1 lot cc i mv))) (d₂ := .list (natsD [k])) (nats_lay _) (nats_lay _) (r.line _ (by simp only [PyData.depth, nats_depth]; lia)) (nats_flat _) (nats_flat _)
  rw [eqv_nats] at h
  show XA1 _ _ _ _ (Stmt.Assign _ _ _) _
  exact lb_pure (x_assign (ev_cmp (ev_name rfl) (ev_list (evs_cons (ev_name rfl) evs_nil) (show 1 ≤ sizeLine by decide)) h) (.inl rfl))
theorem data_step (l : List (Int × Bool)) (x : Int) (b : Bool) : (bkL (l ++ [(x, b)])).data = statsD ((if b then 1 else 0) + (bkL l).a) (1 + (bkL l).b) (x + (bkL l).d) (x * x + (bkL l).e) (mergeV (bkL l).js [(x, 1)]) := (bk_step l x b).symm
theorem lk_0 (W : Lw c) (r : Rm 6 A) (hl : (mj 0).length ≤ 29) : XA c A (envL L fa q) (LA c L fa q a (R11 kind lot w0 w1 cc i al mv 0) due seen mj) loopK ⟨LA c L fa q a (RF kind lot w0 w1 cc i al mv) due seen (updM mj 0 (dt (nxL w0 w1 lot cc i mv) 0) (movL w0 w1 lot cc i mv == [0])), rt, bk⟩ := by
  obtain ⟨_, Da, _⟩ := W.add
  have hj : (bkL (mj 0)).js.length ≤ 30 := by have := bk_len (mj 0); lia
  have hd4 := dt_mem (nxL w0 w1 lot cc i mv) 0
  refine xa_cons _ (lk0 r (k := 0) (by decide)) ?_
  refine xa_cons (LB c (envL L fa q) (sdL q a) (nuL a) (R12 kind lot w0 w1 cc i al mv 0) [(a.ad, .list due), (a.sn, .list seen), (a.m 0, movesD (mj 0)), (a.m 1, movesD (mj 1)), (a.m 2, movesD (mj 2)), (a.m 3, movesD (mj 3)), (a.ab, .list [(bkL (mj 0 ++ [(dt (nxL w0 w1 lot cc i mv) 0, movL w0 w1 lot cc i mv == [0])])).data, (bkL (mj 1)).data, (bkL (mj 2)).data, (bkL (mj 3)).data])]) ?_ ?_
  · show XA1 _ _ _ _ (Stmt.Assign _ _ _) _
    refine lb_setitem (ω₁ := [(a.ad, .list due), (a.sn, .list seen), (a.m 0, movesD (mj 0)), (a.m 1, movesD (mj 1)), (a.m 2, movesD (mj 2)), (a.m 3, movesD (mj 3))]) (ω₂ := []) (a := a.ab) (ds := [(bkL (mj 0)).data, (bkL (mj 1)).data, (bkL (mj 2)).data, (bkL (mj 3)).data]) (d := (bkL (mj 0 ++ [(dt (nxL w0 w1 lot cc i mv) 0, movL w0 w1 lot cc i mv == [0])])).data) (n := 0) (ρp := (Str.ofString "book", bookD fun k => bkL (mj k)) :: (Str.ofString "moves", movesL mj) :: R12 kind lot w0 w1 cc i al mv 0) rfl (ev_name rfl) (by decide) (show (0 : Int) < 4 by decide) (by decide) (lends (mv := mj)) ?_ (cut_stats (om_lists (mv := mj)))
    rw [data_step]
    exact ev_call Da rfl (evs_cons (ev_item (T := "list") (d := (bkL (mj 0)).data) (d₁ := bookD fun k => bkL (mj k)) (ev_name rfl) (ev_name rfl) (op_item_list (j := 0) rfl rfl (by decide) (by decide)) rfl) (evs_cons (ev_tuple (evs_cons (ev_ifexp (b := movL w0 w1 lot cc i mv == [0]) (d := .int (if (movL w0 w1 lot cc i mv == [0]) = true then 1 else 0)) (tr_val (d := .bool (movL w0 w1 lot cc i mv == [0])) (ev_name rfl) rfl (fun _ h => nomatch h)) (fun h => by rw [if_pos h]; exact ev_int) (fun h => by rw [if_neg (by rw [h]; decide)]; exact ev_int)) (evs_cons ev_int (evs_cons (dots_at (dt (nxL w0 w1 lot cc i mv)) (j := 0) rfl (by decide) rfl (ev_name rfl) (by decide) (by decide) (by decide)) (evs_cons (ev_bin (dots_at (dt (nxL w0 w1 lot cc i mv)) (j := 0) rfl (by decide) rfl (ev_name rfl) (by decide) (by decide) (by decide)) (dots_at (dt (nxL w0 w1 lot cc i mv)) (j := 0) rfl (by decide) rfl (ev_name rfl) (by decide) (by decide) (by decide)) (op_mul (mul_ok hd4.1 hd4.2))) (evs_cons (ev_dict1 W.B (dots_at (dt (nxL w0 w1 lot cc i mv)) (j := 0) rfl (by decide) rfl (ev_name rfl) (by decide) (by decide) (by decide)) ev_int) evs_nil))))) (show 5 ≤ sizeLine by decide)) evs_nil)) (f_stats hj (Nat.le_of_ble_eq_true rfl) W.N W.B W.callers W.add) (r.less (by decide))
  refine xa_cons (LB c (envL L fa q) (sdL q a) (nuL a) (R12 kind lot w0 w1 cc i al mv 0) ([(a.ad, .list due), (a.sn, .list seen)] ++ (a.m 0, .list (((mj 0).map fun p => PyData.tuple [.int p.1, .bool p.2]) ++ [.tuple [.int (dt (nxL w0 w1 lot cc i mv) 0), .bool (movL w0 w1 lot cc i mv == [0])]])) :: [(a.m 1, movesD (mj 1)), (a.m 2, movesD (mj 2)), (a.m 3, movesD (mj 3)), (a.ab, .list [(bkL (mj 0 ++ [(dt (nxL w0 w1 lot cc i mv) 0, movL w0 w1 lot cc i mv == [0])])).data, (bkL (mj 1)).data, (bkL (mj 2)).data, (bkL (mj 3)).data])])) ?_ (xa_nil fun _ _ _ _ _ F => ?_)
  · show XA1 c A (envL L fa q) (LB c (envL L fa q) (sdL q a) (nuL a) (R12 kind lot w0 w1 cc i al mv 0) ([(a.ad, .list due), (a.sn, .list seen)] ++ (a.m 0, .list ((mj 0).map fun p => PyData.tuple [.int p.1, .bool p.2])) :: [(a.m 1, movesD (mj 1)), (a.m 2, movesD (mj 2)), (a.m 3, movesD (mj 3)), (a.ab, .list [(bkL (mj 0 ++ [(dt (nxL w0 w1 lot cc i mv) 0, movL w0 w1 lot cc i mv == [0])])).data, (bkL (mj 1)).data, (bkL (mj 2)).data, (bkL (mj 3)).data])])) (Stmt.Expr (.Call (.Attribute (.Subscript (.Name _ _) _ _) _ _) [_] [] _) _) _
    refine lb_append_at (c := c) (A := A) (env := envL L fa q) (σ := sdL q a) (ν := nuL a) (ρ := R12 kind lot w0 w1 cc i al mv 0) (x := Str.ofString "moves") (ω₁ := [(a.ad, .list due), (a.sn, .list seen)]) (ω₂ := [(a.m 1, movesD (mj 1)), (a.m 2, movesD (mj 2)), (a.m 3, movesD (mj 3)), (a.ab, .list [(bkL (mj 0 ++ [(dt (nxL w0 w1 lot cc i mv) 0, movL w0 w1 lot cc i mv == [0])])).data, (bkL (mj 1)).data, (bkL (mj 2)).data, (bkL (mj 3)).data])]) (am := a.am) (a := a.m 0) (om := objM a) (rs := #[.ref (a.m 0), .ref (a.m 1), .ref (a.m 2), .ref (a.m 3)]) (zm := a.z) (ds := (mj 0).map fun p => PyData.tuple [.int p.1, .bool p.2]) (d := .tuple [.int (dt (nxL w0 w1 lot cc i mv) 0), .bool (movL w0 w1 lot cc i mv == [0])]) (n := 0) (pl := ?pl) (hin := ?hin) (hs := ?hs) (he := ?he) (he2 := ?he2) (hd := ?hd) (hsub := ?hsub) ?hx (fun h => h.2) rfl rfl ?hi (by decide) (by decide) rfl ?h (by rw [List.length_map]; lia)
    case hin => rfl
    case hs => rfl
    case he => rfl
    case he2 => rfl
    case hd => decide
    case hsub => intro _ _; with_unfolding_all rfl
    case hx => rfl
    case hi => exact ev_name rfl
    refine ev_tuple (evs_cons ?_ (evs_cons (ev_name rfl) evs_nil)) (show 2 ≤ sizeLine by decide)
    rw [dt_of]
    exact ev_bin ev_int (ev_bin (ev_bin (dots_at (rgI (nxL w0 w1 lot cc i mv)) (j := 0) rfl (by decide) rfl (ev_name rfl) (by decide) (by decide) (by decide)) (ev_name rfl) op_add) ev_int (op_mod (by decide))) op_add
  · rw [← moves_snoc] at F
    exact F.weak (subs ⟨rfl, rfl, rfl, rfl, rfl, rfl, rfl, rfl, trivial⟩)
theorem lk_1 (W : Lw c) (r : Rm 6 A) (hl : (mj 1).length ≤ 29) : XA c A (envL L fa q) (LA c L fa q a (R11 kind lot w0 w1 cc i al mv 1) due seen mj) loopK ⟨LA c L fa q a (RF kind lot w0 w1 cc i al mv) due seen (updM mj 1 (dt (nxL w0 w1 lot cc i mv) 1) (movL w0 w1 lot cc i mv == [1])), rt, bk⟩ := by
  obtain ⟨_, Da, _⟩ := W.add
  have hj : (bkL (mj 1)).js.length ≤ 30 := by have := bk_len (mj 1); lia
  have hd4 := dt_mem (nxL w0 w1 lot cc i mv) 1
  refine xa_cons _ (lk0 r (k := 1) (by decide)) ?_
  refine xa_cons (LB c (envL L fa q) (sdL q a) (nuL a) (R12 kind lot w0 w1 cc i al mv 1) [(a.ad, .list due), (a.sn, .list seen), (a.m 0, movesD (mj 0)), (a.m 1, movesD (mj 1)), (a.m 2, movesD (mj 2)), (a.m 3, movesD (mj 3)), (a.ab, .list [(bkL (mj 0)).data, (bkL (mj 1 ++ [(dt (nxL w0 w1 lot cc i mv) 1, movL w0 w1 lot cc i mv == [1])])).data, (bkL (mj 2)).data, (bkL (mj 3)).data])]) ?_ ?_
  · show XA1 _ _ _ _ (Stmt.Assign _ _ _) _
    refine lb_setitem (ω₁ := [(a.ad, .list due), (a.sn, .list seen), (a.m 0, movesD (mj 0)), (a.m 1, movesD (mj 1)), (a.m 2, movesD (mj 2)), (a.m 3, movesD (mj 3))]) (ω₂ := []) (a := a.ab) (ds := [(bkL (mj 0)).data, (bkL (mj 1)).data, (bkL (mj 2)).data, (bkL (mj 3)).data]) (d := (bkL (mj 1 ++ [(dt (nxL w0 w1 lot cc i mv) 1, movL w0 w1 lot cc i mv == [1])])).data) (n := 1) (ρp := (Str.ofString "book", bookD fun k => bkL (mj k)) :: (Str.ofString "moves", movesL mj) :: R12 kind lot w0 w1 cc i al mv 1) rfl (ev_name rfl) (by decide) (show (1 : Int) < 4 by decide) (by decide) (lends (mv := mj)) ?_ (cut_stats (om_lists (mv := mj)))
    rw [data_step]
    exact ev_call Da rfl (evs_cons (ev_item (T := "list") (d := (bkL (mj 1)).data) (d₁ := bookD fun k => bkL (mj k)) (ev_name rfl) (ev_name rfl) (op_item_list (j := 1) rfl rfl (by decide) (by decide)) rfl) (evs_cons (ev_tuple (evs_cons (ev_ifexp (b := movL w0 w1 lot cc i mv == [1]) (d := .int (if (movL w0 w1 lot cc i mv == [1]) = true then 1 else 0)) (tr_val (d := .bool (movL w0 w1 lot cc i mv == [1])) (ev_name rfl) rfl (fun _ h => nomatch h)) (fun h => by rw [if_pos h]; exact ev_int) (fun h => by rw [if_neg (by rw [h]; decide)]; exact ev_int)) (evs_cons ev_int (evs_cons (dots_at (dt (nxL w0 w1 lot cc i mv)) (j := 1) rfl (by decide) rfl (ev_name rfl) (by decide) (by decide) (by decide)) (evs_cons (ev_bin (dots_at (dt (nxL w0 w1 lot cc i mv)) (j := 1) rfl (by decide) rfl (ev_name rfl) (by decide) (by decide) (by decide)) (dots_at (dt (nxL w0 w1 lot cc i mv)) (j := 1) rfl (by decide) rfl (ev_name rfl) (by decide) (by decide) (by decide)) (op_mul (mul_ok hd4.1 hd4.2))) (evs_cons (ev_dict1 W.B (dots_at (dt (nxL w0 w1 lot cc i mv)) (j := 1) rfl (by decide) rfl (ev_name rfl) (by decide) (by decide) (by decide)) ev_int) evs_nil))))) (show 5 ≤ sizeLine by decide)) evs_nil)) (f_stats hj (Nat.le_of_ble_eq_true rfl) W.N W.B W.callers W.add) (r.less (by decide))
  refine xa_cons (LB c (envL L fa q) (sdL q a) (nuL a) (R12 kind lot w0 w1 cc i al mv 1) ([(a.ad, .list due), (a.sn, .list seen), (a.m 0, movesD (mj 0))] ++ (a.m 1, .list (((mj 1).map fun p => PyData.tuple [.int p.1, .bool p.2]) ++ [.tuple [.int (dt (nxL w0 w1 lot cc i mv) 1), .bool (movL w0 w1 lot cc i mv == [1])]])) :: [(a.m 2, movesD (mj 2)), (a.m 3, movesD (mj 3)), (a.ab, .list [(bkL (mj 0)).data, (bkL (mj 1 ++ [(dt (nxL w0 w1 lot cc i mv) 1, movL w0 w1 lot cc i mv == [1])])).data, (bkL (mj 2)).data, (bkL (mj 3)).data])])) ?_ (xa_nil fun _ _ _ _ _ F => ?_)
  · show XA1 c A (envL L fa q) (LB c (envL L fa q) (sdL q a) (nuL a) (R12 kind lot w0 w1 cc i al mv 1) ([(a.ad, .list due), (a.sn, .list seen), (a.m 0, movesD (mj 0))] ++ (a.m 1, .list ((mj 1).map fun p => PyData.tuple [.int p.1, .bool p.2])) :: [(a.m 2, movesD (mj 2)), (a.m 3, movesD (mj 3)), (a.ab, .list [(bkL (mj 0)).data, (bkL (mj 1 ++ [(dt (nxL w0 w1 lot cc i mv) 1, movL w0 w1 lot cc i mv == [1])])).data, (bkL (mj 2)).data, (bkL (mj 3)).data])])) (Stmt.Expr (.Call (.Attribute (.Subscript (.Name _ _) _ _) _ _) [_] [] _) _) _
    refine lb_append_at (c := c) (A := A) (env := envL L fa q) (σ := sdL q a) (ν := nuL a) (ρ := R12 kind lot w0 w1 cc i al mv 1) (x := Str.ofString "moves") (ω₁ := [(a.ad, .list due), (a.sn, .list seen), (a.m 0, movesD (mj 0))]) (ω₂ := [(a.m 2, movesD (mj 2)), (a.m 3, movesD (mj 3)), (a.ab, .list [(bkL (mj 0)).data, (bkL (mj 1 ++ [(dt (nxL w0 w1 lot cc i mv) 1, movL w0 w1 lot cc i mv == [1])])).data, (bkL (mj 2)).data, (bkL (mj 3)).data])]) (am := a.am) (a := a.m 1) (om := objM a) (rs := #[.ref (a.m 0), .ref (a.m 1), .ref (a.m 2), .ref (a.m 3)]) (zm := a.z) (ds := (mj 1).map fun p => PyData.tuple [.int p.1, .bool p.2]) (d := .tuple [.int (dt (nxL w0 w1 lot cc i mv) 1), .bool (movL w0 w1 lot cc i mv == [1])]) (n := 1) (pl := ?pl) (hin := ?hin) (hs := ?hs) (he := ?he) (he2 := ?he2) (hd := ?hd) (hsub := ?hsub) ?hx (fun h => h.2) rfl rfl ?hi (by decide) (by decide) rfl ?h (by rw [List.length_map]; lia)
    case hin => rfl
    case hs => rfl
    case he => rfl
    case he2 => rfl
    case hd => decide
    case hsub => intro _ _; with_unfolding_all rfl
    case hx => rfl
    case hi => exact ev_name rfl
    refine ev_tuple (evs_cons ?_ (evs_cons (ev_name rfl) evs_nil)) (show 2 ≤ sizeLine by decide)
    rw [dt_of]
    exact ev_bin ev_int (ev_bin (ev_bin (dots_at (rgI (nxL w0 w1 lot cc i mv)) (j := 1) rfl (by decide) rfl (ev_name rfl) (by decide) (by decide) (by decide)) (ev_name rfl) op_add) ev_int (op_mod (by decide))) op_add
  · rw [← moves_snoc] at F
    exact F.weak (subs ⟨rfl, rfl, rfl, rfl, rfl, rfl, rfl, rfl, trivial⟩)
theorem lk_2 (W : Lw c) (r : Rm 6 A) (hl : (mj 2).length ≤ 29) : XA c A (envL L fa q) (LA c L fa q a (R11 kind lot w0 w1 cc i al mv 2) due seen mj) loopK ⟨LA c L fa q a (RF kind lot w0 w1 cc i al mv) due seen (updM mj 2 (dt (nxL w0 w1 lot cc i mv) 2) (movL w0 w1 lot cc i mv == [2])), rt, bk⟩ := by
  obtain ⟨_, Da, _⟩ := W.add
  have hj : (bkL (mj 2)).js.length ≤ 30 := by have := bk_len (mj 2); lia
  have hd4 := dt_mem (nxL w0 w1 lot cc i mv) 2
  refine xa_cons _ (lk0 r (k := 2) (by decide)) ?_
  refine xa_cons (LB c (envL L fa q) (sdL q a) (nuL a) (R12 kind lot w0 w1 cc i al mv 2) [(a.ad, .list due), (a.sn, .list seen), (a.m 0, movesD (mj 0)), (a.m 1, movesD (mj 1)), (a.m 2, movesD (mj 2)), (a.m 3, movesD (mj 3)), (a.ab, .list [(bkL (mj 0)).data, (bkL (mj 1)).data, (bkL (mj 2 ++ [(dt (nxL w0 w1 lot cc i mv) 2, movL w0 w1 lot cc i mv == [2])])).data, (bkL (mj 3)).data])]) ?_ ?_
  · show XA1 _ _ _ _ (Stmt.Assign _ _ _) _
    refine lb_setitem (ω₁ := [(a.ad, .list due), (a.sn, .list seen), (a.m 0, movesD (mj 0)), (a.m 1, movesD (mj 1)), (a.m 2, movesD (mj 2)), (a.m 3, movesD (mj 3))]) (ω₂ := []) (a := a.ab) (ds := [(bkL (mj 0)).data, (bkL (mj 1)).data, (bkL (mj 2)).data, (bkL (mj 3)).data]) (d := (bkL (mj 2 ++ [(dt (nxL w0 w1 lot cc i mv) 2, movL w0 w1 lot cc i mv == [2])])).data) (n := 2) (ρp := (Str.ofString "book", bookD fun k => bkL (mj k)) :: (Str.ofString "moves", movesL mj) :: R12 kind lot w0 w1 cc i al mv 2) rfl (ev_name rfl) (by decide) (show (2 : Int) < 4 by decide) (by decide) (lends (mv := mj)) ?_ (cut_stats (om_lists (mv := mj)))
    rw [data_step]
    exact ev_call Da rfl (evs_cons (ev_item (T := "list") (d := (bkL (mj 2)).data) (d₁ := bookD fun k => bkL (mj k)) (ev_name rfl) (ev_name rfl) (op_item_list (j := 2) rfl rfl (by decide) (by decide)) rfl) (evs_cons (ev_tuple (evs_cons (ev_ifexp (b := movL w0 w1 lot cc i mv == [2]) (d := .int (if (movL w0 w1 lot cc i mv == [2]) = true then 1 else 0)) (tr_val (d := .bool (movL w0 w1 lot cc i mv == [2])) (ev_name rfl) rfl (fun _ h => nomatch h)) (fun h => by rw [if_pos h]; exact ev_int) (fun h => by rw [if_neg (by rw [h]; decide)]; exact ev_int)) (evs_cons ev_int (evs_cons (dots_at (dt (nxL w0 w1 lot cc i mv)) (j := 2) rfl (by decide) rfl (ev_name rfl) (by decide) (by decide) (by decide)) (evs_cons (ev_bin (dots_at (dt (nxL w0 w1 lot cc i mv)) (j := 2) rfl (by decide) rfl (ev_name rfl) (by decide) (by decide) (by decide)) (dots_at (dt (nxL w0 w1 lot cc i mv)) (j := 2) rfl (by decide) rfl (ev_name rfl) (by decide) (by decide) (by decide)) (op_mul (mul_ok hd4.1 hd4.2))) (evs_cons (ev_dict1 W.B (dots_at (dt (nxL w0 w1 lot cc i mv)) (j := 2) rfl (by decide) rfl (ev_name rfl) (by decide) (by decide) (by decide)) ev_int) evs_nil))))) (show 5 ≤ sizeLine by decide)) evs_nil)) (f_stats hj (Nat.le_of_ble_eq_true rfl) W.N W.B W.callers W.add) (r.less (by decide))
  refine xa_cons (LB c (envL L fa q) (sdL q a) (nuL a) (R12 kind lot w0 w1 cc i al mv 2) ([(a.ad, .list due), (a.sn, .list seen), (a.m 0, movesD (mj 0)), (a.m 1, movesD (mj 1))] ++ (a.m 2, .list (((mj 2).map fun p => PyData.tuple [.int p.1, .bool p.2]) ++ [.tuple [.int (dt (nxL w0 w1 lot cc i mv) 2), .bool (movL w0 w1 lot cc i mv == [2])]])) :: [(a.m 3, movesD (mj 3)), (a.ab, .list [(bkL (mj 0)).data, (bkL (mj 1)).data, (bkL (mj 2 ++ [(dt (nxL w0 w1 lot cc i mv) 2, movL w0 w1 lot cc i mv == [2])])).data, (bkL (mj 3)).data])])) ?_ (xa_nil fun _ _ _ _ _ F => ?_)
  · show XA1 c A (envL L fa q) (LB c (envL L fa q) (sdL q a) (nuL a) (R12 kind lot w0 w1 cc i al mv 2) ([(a.ad, .list due), (a.sn, .list seen), (a.m 0, movesD (mj 0)), (a.m 1, movesD (mj 1))] ++ (a.m 2, .list ((mj 2).map fun p => PyData.tuple [.int p.1, .bool p.2])) :: [(a.m 3, movesD (mj 3)), (a.ab, .list [(bkL (mj 0)).data, (bkL (mj 1)).data, (bkL (mj 2 ++ [(dt (nxL w0 w1 lot cc i mv) 2, movL w0 w1 lot cc i mv == [2])])).data, (bkL (mj 3)).data])])) (Stmt.Expr (.Call (.Attribute (.Subscript (.Name _ _) _ _) _ _) [_] [] _) _) _
    refine lb_append_at (c := c) (A := A) (env := envL L fa q) (σ := sdL q a) (ν := nuL a) (ρ := R12 kind lot w0 w1 cc i al mv 2) (x := Str.ofString "moves") (ω₁ := [(a.ad, .list due), (a.sn, .list seen), (a.m 0, movesD (mj 0)), (a.m 1, movesD (mj 1))]) (ω₂ := [(a.m 3, movesD (mj 3)), (a.ab, .list [(bkL (mj 0)).data, (bkL (mj 1)).data, (bkL (mj 2 ++ [(dt (nxL w0 w1 lot cc i mv) 2, movL w0 w1 lot cc i mv == [2])])).data, (bkL (mj 3)).data])]) (am := a.am) (a := a.m 2) (om := objM a) (rs := #[.ref (a.m 0), .ref (a.m 1), .ref (a.m 2), .ref (a.m 3)]) (zm := a.z) (ds := (mj 2).map fun p => PyData.tuple [.int p.1, .bool p.2]) (d := .tuple [.int (dt (nxL w0 w1 lot cc i mv) 2), .bool (movL w0 w1 lot cc i mv == [2])]) (n := 2) (pl := ?pl) (hin := ?hin) (hs := ?hs) (he := ?he) (he2 := ?he2) (hd := ?hd) (hsub := ?hsub) ?hx (fun h => h.2) rfl rfl ?hi (by decide) (by decide) rfl ?h (by rw [List.length_map]; lia)
    case hin => rfl
    case hs => rfl
    case he => rfl
    case he2 => rfl
    case hd => decide
    case hsub => intro _ _; with_unfolding_all rfl
    case hx => rfl
    case hi => exact ev_name rfl
    refine ev_tuple (evs_cons ?_ (evs_cons (ev_name rfl) evs_nil)) (show 2 ≤ sizeLine by decide)
    rw [dt_of]
    exact ev_bin ev_int (ev_bin (ev_bin (dots_at (rgI (nxL w0 w1 lot cc i mv)) (j := 2) rfl (by decide) rfl (ev_name rfl) (by decide) (by decide) (by decide)) (ev_name rfl) op_add) ev_int (op_mod (by decide))) op_add
  · rw [← moves_snoc] at F
    exact F.weak (subs ⟨rfl, rfl, rfl, rfl, rfl, rfl, rfl, rfl, trivial⟩)
theorem lk_3 (W : Lw c) (r : Rm 6 A) (hl : (mj 3).length ≤ 29) : XA c A (envL L fa q) (LA c L fa q a (R11 kind lot w0 w1 cc i al mv 3) due seen mj) loopK ⟨LA c L fa q a (RF kind lot w0 w1 cc i al mv) due seen (updM mj 3 (dt (nxL w0 w1 lot cc i mv) 3) (movL w0 w1 lot cc i mv == [3])), rt, bk⟩ := by
  obtain ⟨_, Da, _⟩ := W.add
  have hj : (bkL (mj 3)).js.length ≤ 30 := by have := bk_len (mj 3); lia
  have hd4 := dt_mem (nxL w0 w1 lot cc i mv) 3
  refine xa_cons _ (lk0 r (k := 3) (by decide)) ?_
  refine xa_cons (LB c (envL L fa q) (sdL q a) (nuL a) (R12 kind lot w0 w1 cc i al mv 3) [(a.ad, .list due), (a.sn, .list seen), (a.m 0, movesD (mj 0)), (a.m 1, movesD (mj 1)), (a.m 2, movesD (mj 2)), (a.m 3, movesD (mj 3)), (a.ab, .list [(bkL (mj 0)).data, (bkL (mj 1)).data, (bkL (mj 2)).data, (bkL (mj 3 ++ [(dt (nxL w0 w1 lot cc i mv) 3, movL w0 w1 lot cc i mv == [3])])).data])]) ?_ ?_
  · show XA1 _ _ _ _ (Stmt.Assign _ _ _) _
    refine lb_setitem (ω₁ := [(a.ad, .list due), (a.sn, .list seen), (a.m 0, movesD (mj 0)), (a.m 1, movesD (mj 1)), (a.m 2, movesD (mj 2)), (a.m 3, movesD (mj 3))]) (ω₂ := []) (a := a.ab) (ds := [(bkL (mj 0)).data, (bkL (mj 1)).data, (bkL (mj 2)).data, (bkL (mj 3)).data]) (d := (bkL (mj 3 ++ [(dt (nxL w0 w1 lot cc i mv) 3, movL w0 w1 lot cc i mv == [3])])).data) (n := 3) (ρp := (Str.ofString "book", bookD fun k => bkL (mj k)) :: (Str.ofString "moves", movesL mj) :: R12 kind lot w0 w1 cc i al mv 3) rfl (ev_name rfl) (by decide) (show (3 : Int) < 4 by decide) (by decide) (lends (mv := mj)) ?_ (cut_stats (om_lists (mv := mj)))
    rw [data_step]
    exact ev_call Da rfl (evs_cons (ev_item (T := "list") (d := (bkL (mj 3)).data) (d₁ := bookD fun k => bkL (mj k)) (ev_name rfl) (ev_name rfl) (op_item_list (j := 3) rfl rfl (by decide) (by decide)) rfl) (evs_cons (ev_tuple (evs_cons (ev_ifexp (b := movL w0 w1 lot cc i mv == [3]) (d := .int (if (movL w0 w1 lot cc i mv == [3]) = true then 1 else 0)) (tr_val (d := .bool (movL w0 w1 lot cc i mv == [3])) (ev_name rfl) rfl (fun _ h => nomatch h)) (fun h => by rw [if_pos h]; exact ev_int) (fun h => by rw [if_neg (by rw [h]; decide)]; exact ev_int)) (evs_cons ev_int (evs_cons (dots_at (dt (nxL w0 w1 lot cc i mv)) (j := 3) rfl (by decide) rfl (ev_name rfl) (by decide) (by decide) (by decide)) (evs_cons (ev_bin (dots_at (dt (nxL w0 w1 lot cc i mv)) (j := 3) rfl (by decide) rfl (ev_name rfl) (by decide) (by decide) (by decide)) (dots_at (dt (nxL w0 w1 lot cc i mv)) (j := 3) rfl (by decide) rfl (ev_name rfl) (by decide) (by decide) (by decide)) (op_mul (mul_ok hd4.1 hd4.2))) (evs_cons (ev_dict1 W.B (dots_at (dt (nxL w0 w1 lot cc i mv)) (j := 3) rfl (by decide) rfl (ev_name rfl) (by decide) (by decide) (by decide)) ev_int) evs_nil))))) (show 5 ≤ sizeLine by decide)) evs_nil)) (f_stats hj (Nat.le_of_ble_eq_true rfl) W.N W.B W.callers W.add) (r.less (by decide))
  refine xa_cons (LB c (envL L fa q) (sdL q a) (nuL a) (R12 kind lot w0 w1 cc i al mv 3) ([(a.ad, .list due), (a.sn, .list seen), (a.m 0, movesD (mj 0)), (a.m 1, movesD (mj 1)), (a.m 2, movesD (mj 2))] ++ (a.m 3, .list (((mj 3).map fun p => PyData.tuple [.int p.1, .bool p.2]) ++ [.tuple [.int (dt (nxL w0 w1 lot cc i mv) 3), .bool (movL w0 w1 lot cc i mv == [3])]])) :: [(a.ab, .list [(bkL (mj 0)).data, (bkL (mj 1)).data, (bkL (mj 2)).data, (bkL (mj 3 ++ [(dt (nxL w0 w1 lot cc i mv) 3, movL w0 w1 lot cc i mv == [3])])).data])])) ?_ (xa_nil fun _ _ _ _ _ F => ?_)
  · show XA1 c A (envL L fa q) (LB c (envL L fa q) (sdL q a) (nuL a) (R12 kind lot w0 w1 cc i al mv 3) ([(a.ad, .list due), (a.sn, .list seen), (a.m 0, movesD (mj 0)), (a.m 1, movesD (mj 1)), (a.m 2, movesD (mj 2))] ++ (a.m 3, .list ((mj 3).map fun p => PyData.tuple [.int p.1, .bool p.2])) :: [(a.ab, .list [(bkL (mj 0)).data, (bkL (mj 1)).data, (bkL (mj 2)).data, (bkL (mj 3 ++ [(dt (nxL w0 w1 lot cc i mv) 3, movL w0 w1 lot cc i mv == [3])])).data])])) (Stmt.Expr (.Call (.Attribute (.Subscript (.Name _ _) _ _) _ _) [_] [] _) _) _
    refine lb_append_at (c := c) (A := A) (env := envL L fa q) (σ := sdL q a) (ν := nuL a) (ρ := R12 kind lot w0 w1 cc i al mv 3) (x := Str.ofString "moves") (ω₁ := [(a.ad, .list due), (a.sn, .list seen), (a.m 0, movesD (mj 0)), (a.m 1, movesD (mj 1)), (a.m 2, movesD (mj 2))]) (ω₂ := [(a.ab, .list [(bkL (mj 0)).data, (bkL (mj 1)).data, (bkL (mj 2)).data, (bkL (mj 3 ++ [(dt (nxL w0 w1 lot cc i mv) 3, movL w0 w1 lot cc i mv == [3])])).data])]) (am := a.am) (a := a.m 3) (om := objM a) (rs := #[.ref (a.m 0), .ref (a.m 1), .ref (a.m 2), .ref (a.m 3)]) (zm := a.z) (ds := (mj 3).map fun p => PyData.tuple [.int p.1, .bool p.2]) (d := .tuple [.int (dt (nxL w0 w1 lot cc i mv) 3), .bool (movL w0 w1 lot cc i mv == [3])]) (n := 3) (pl := ?pl) (hin := ?hin) (hs := ?hs) (he := ?he) (he2 := ?he2) (hd := ?hd) (hsub := ?hsub) ?hx (fun h => h.2) rfl rfl ?hi (by decide) (by decide) rfl ?h (by rw [List.length_map]; lia)
    case hin => rfl
    case hs => rfl
    case he => rfl
    case he2 => rfl
    case hd => decide
    case hsub => intro _ _; with_unfolding_all rfl
    case hx => rfl
    case hi => exact ev_name rfl
    refine ev_tuple (evs_cons ?_ (evs_cons (ev_name rfl) evs_nil)) (show 2 ≤ sizeLine by decide)
    rw [dt_of]
    exact ev_bin ev_int (ev_bin (ev_bin (dots_at (rgI (nxL w0 w1 lot cc i mv)) (j := 3) rfl (by decide) rfl (ev_name rfl) (by decide) (by decide) (by decide)) (ev_name rfl) op_add) ev_int (op_mod (by decide))) op_add
  · rw [← moves_snoc] at F
    exact F.weak (subs ⟨rfl, rfl, rfl, rfl, rfl, rfl, rfl, rfl, trivial⟩)
end
end Mine
end
/-! ## E33 -/
section
open PySem PySem.W PySem.Calls PyProof.Rows
set_option maxHeartbeats 1000000
set_option maxRecDepth 100000
namespace Mine
theorem loopB_eq : loopB = [lp 0, lp 1, lp 2, lp 3, lp 4, lp 5, lp 6, lp 7, lp 8, lp 9, lp 10, lp 11, lp 12, lp 13, lp 14, lp 15, lp 16, lp 17, lp 18, lp 19, lp 20, lp 21] := rfl
section
variable {c : Cx} {A : Around} {L fa : Addr} {q : Str} {a : As7} {due seen : List PyData} {mv mj : Nat → List (Int × Bool)} {kind lot w0 w1 : Int} {cc i t0 a0 : Nat} {al : PyData} {rt : PyData → Prop} {bk : As}
/-- the moves behind the first j movers -/
noncomputable def mvJ (M : List Nat) (c' : Nat) (mv : Nat → List (Int × Bool)) (j k : Nat) : List (Int × Bool) := if (M.take j).contains k then mv k ++ [(dt c' k, M == [k])] else mv k
theorem mvJ_upd {M : List Nat} {c' j kk : Nat} (hn : M.Nodup) (hk : M[j]? = some kk) : updM (mvJ M c' mv j) kk (dt c' kk) (M == [kk]) = mvJ M c' mv (j + 1) := by
  have hnot : ¬ (M.take j).contains kk = true := by
    rw [List.contains_iff_mem]
    intro hm
    obtain ⟨n, hn1, hn2⟩ := List.mem_take_iff_getElem.mp hm
    have hjl := (List.getElem?_eq_some_iff.mp hk).1
    have e := (List.getElem?_eq_some_iff.mp hk).2
    exact (List.pairwise_iff_getElem.mp hn) n j (by lia) hjl (by lia) (hn2.trans e.symm)
  funext n
  unfold updM mvJ
  rw [List.take_add_one, hk]
  by_cases h : n = kk
  · subst h
    rw [if_pos rfl, if_neg hnot, if_pos (by simp)]
  · rw [if_neg h]
    have : ((M.take j) ++ (some kk).toList).contains n = (M.take j).contains n := by
      rw [Bool.eq_iff_iff, List.contains_iff_mem, List.contains_iff_mem]
      simp [h]
    rw [this]
theorem lp21 (W : Lw c) (r : Rm 6 A) (hn : (movL w0 w1 lot cc i mv).Nodup) (h4 : ∀ k ∈ movL w0 w1 lot cc i mv, k < 4) (hlen : ∀ k < 4, (mv k).length ≤ 28) :
    XA1 c A (envL L fa q) (LA c L fa q a (RF kind lot w0 w1 cc i al mv) due seen mv) (lp 21) ⟨LA c L fa q a (RF kind lot w0 w1 cc i al mv) due seen (mvJ (movL w0 w1 lot cc i mv) (nxL w0 w1 lot cc i mv) mv (movL w0 w1 lot cc i mv).length), rt, bk⟩ := by
  have e0 : mvJ (movL w0 w1 lot cc i mv) (nxL w0 w1 lot cc i mv) mv 0 = mv := by funext n; unfold mvJ; rw [List.take_zero]; rfl
  have hz : (natsD (movL w0 w1 lot cc i mv)).length = (movL w0 w1 lot cc i mv).length := by unfold natsD; rw [List.length_map]
  suffices h : XA1 c A (envL L fa q) (LA c L fa q a (RF kind lot w0 w1 cc i al mv) due seen (mvJ (movL w0 w1 lot cc i mv) (nxL w0 w1 lot cc i mv) mv 0)) (lp 21) ⟨LA c L fa q a (RF kind lot w0 w1 cc i al mv) due seen (mvJ (movL w0 w1 lot cc i mv) (nxL w0 w1 lot cc i mv) mv (movL w0 w1 lot cc i mv).length), rt, bk⟩ by
    rw [e0] at h
    exact h
  show XA1 _ _ _ _ (Stmt.For _ _ _ _ _) _
  refine xa_for (ds := natsD (movL w0 w1 lot cc i mv)) (fun j => LA c L fa q a (RF kind lot w0 w1 cc i al mv) due seen (mvJ (movL w0 w1 lot cc i mv) (nxL w0 w1 lot cc i mv) mv j)) (fun j => lb_ad) lb_ad
    (fun g₀ s₀ k g s F => ⟨_, F.fo.frm.bg, F.fo.frm.st, it_list r.h (ev_name rfl)⟩) (fun j d hd => ?_) (fun g₀ s₀ k g s F => by rw [hz] at F; exact F)
  · unfold natsD at hd
    rw [List.getElem?_map] at hd
    cases hk : (movL w0 w1 lot cc i mv)[j]? with
    | none => rw [hk] at hd; cases hd
    | some kk =>
      rw [hk] at hd
      cases hd
      have hk4 := h4 kk (List.mem_of_getElem? hk)
      have hup := mvJ_upd (mv := mv) (c' := nxL w0 w1 lot cc i mv) hn hk
      have hl : (mvJ (movL w0 w1 lot cc i mv) (nxL w0 w1 lot cc i mv) mv j kk).length ≤ 29 := by
        have := hlen kk hk4
        unfold mvJ
        split
        · rw [List.length_append]; simp; lia
        · lia
      refine lb_name (.inl rfl) rfl ?_
      rw [← hup]
      match kk, hk4, hl with
      | 0, _, hl => exact lk_0 W r hl
      | 1, _, hl => exact lk_1 W r hl
      | 2, _, hl => exact lk_2 W r hl
      | 3, _, hl => exact lk_3 W r hl
end
/-- what stood at each turn -/
noncomputable def seenD (w0 w1 lot : Int) (c0 i : Nat) : List PyData := (List.range i).map fun j => .list (natsD (frc (runS w0 w1 lot c0 j).c))
theorem seenD_succ (w0 w1 lot : Int) (c0 i : Nat) : seenD w0 w1 lot c0 (i + 1) = seenD w0 w1 lot c0 i ++ [.list (natsD (frc (runS w0 w1 lot c0 i).c))] := by
  unfold seenD
  rw [List.range_succ, List.map_append]
  rfl
theorem seenD_len (w0 w1 lot : Int) (c0 i : Nat) : (seenD w0 w1 lot c0 i).length = i := by unfold seenD; rw [List.length_map, List.length_range]
theorem seenD_noint (w0 w1 lot : Int) (c0 i : Nat) : NoInt (seenD w0 w1 lot c0 i) := by
  intro k r z
  have : PyData.int k ∈ seenD w0 w1 lot c0 i := by rw [z]; exact .head _
  unfold seenD at this
  obtain ⟨j, _, e⟩ := List.mem_map.mp this
  cases e
theorem turn_ok {c : Cx} {A : Around} {L fa : Addr} {q : Str} {a : As7} {kind lot w0 w1 : Int} {c0 t0 a0 i : Nat} {rt : PyData → Prop} {nx : As} (W : Lw c) (Y : Wy w0 w1) (r : Rm 6 A) (hA : A.frames = some [envL L fa q]) (hc : c0 < 256) (Al : Alone w0 w1 lot c0 t0 a0) (hi : i ≤ t0 + 4)
    (hnx : ∀ g₀ s₀ k g s, LA c L fa q a [] (seenD w0 w1 lot c0 (t0 + 5)) (seenD w0 w1 lot c0 (t0 + 5)) (runS w0 w1 lot c0 (t0 + 4)).mv g₀ s₀ k g s → nx g₀ s₀ k g s) :
    XA c A (envL L fa q) (LA c L fa q a (R0 kind lot w0 w1 (runS w0 w1 lot c0 i).c i (alD t0 a0 i)) (seenD w0 w1 lot c0 i) (seenD w0 w1 lot c0 i) (runS w0 w1 lot c0 i).mv) loopB ⟨fun g₀ s₀ k g s => i + 1 ≤ t0 + 4 ∧ LA c L fa q a (rhoL kind lot w0 w1 (runS w0 w1 lot c0 (i + 1)).c (alD t0 a0 (i + 1))) (seenD w0 w1 lot c0 (i + 1)) (seenD w0 w1 lot c0 (i + 1)) (runS w0 w1 lot c0 (i + 1)).mv g₀ s₀ k g s, rt, nx⟩ := by
  have I := inv_run (lot := lot) Y hc i
  have M := mov_ok (lot := lot) Y i I.c
  have P := stp_run (lot := lot) Y hc i
  have h13 := Al.t
  have hlen : ∀ k < 4, ((runS w0 w1 lot c0 i).mv k).length ≤ 28 := fun k hk => by have := I.len k hk; lia
  have hlen64 : ∀ k < 4, ((runS w0 w1 lot c0 i).mv k).length ≤ 64 := fun k hk => by have := I.len k hk; lia
  have hfr : t0 ≤ i → frc (runS w0 w1 lot c0 i).c = [(a0 + (i - t0)) % 4] := fun h => by
    have := Al.after (i - t0)
    rw [show t0 + (i - t0) = i by lia] at this
    exact this
  have h1 : i = t0 → frc (runS w0 w1 lot c0 i).c = [a0] := fun h => by
    rw [hfr (by lia), h, Nat.sub_self, Nat.add_zero, Nat.mod_eq_of_lt Al.a4]
  have hfew : i = t0 → ((runS w0 w1 lot c0 i).mv 0).length ≤ 3 := fun h => by rw [h]; exact Al.few
  have hO : ordO (LL w0 w1 (nM (runS w0 w1 lot c0 i).mv)) (frc (runS w0 w1 lot c0 i).c) ≠ [] := fun z => by
    have hp := M.perm
    have z' : ordO (LL w0 w1 (nS (runS w0 w1 lot c0 i))) (frc (runS w0 w1 lot c0 i).c) = [] := z
    rw [z', List.take_nil] at hp
    exact M.ne (List.perm_nil.mp hp)
  have h4 : ∀ k ∈ movL w0 w1 lot (runS w0 w1 lot c0 i).c i (runS w0 w1 lot c0 i).mv, k < 4 := fun k hk => by
    have := M.sub k hk
    exact List.mem_range.mp (List.mem_filter.mp this).1
  have hnd : (movL w0 w1 lot (runS w0 w1 lot c0 i).c i (runS w0 w1 lot c0 i).mv).Nodup := by
    obtain ⟨p, hp⟩ := M.q
    have hp' : movL w0 w1 lot (runS w0 w1 lot c0 i).c i (runS w0 w1 lot c0 i).mv = (List.range 4).filter p := hp
    rw [hp']
    exact List.Pairwise.filter _ List.nodup_range
  have n1 := seenD_noint w0 w1 lot c0 (i + 1)
  have l1 := seenD_len w0 w1 lot c0 i
  have es := seenD_succ w0 w1 lot c0 i
  rw [loopB_eq]
  refine xa_cons _ (lp0 W r) (xa_cons _ (lp1 W r) (xa_cons _ (lp2 W r) (xa_cons _ (lp3 W r hA) (xa_cons _ (lp4 r I.c) (xa_cons _ (lp5 (by lia)) (xa_cons _ (lp6 W r (by lia)) ?_))))))
  rw [← es]
  refine xa_cons _ (lp7 W r (fun h => Al.before i h) h1 hfew) (xa_cons _ (lp8 r h13) (xa_cons _ (lp9 r hfr) ?_))
  rcases Nat.lt_or_ge i (t0 + 4) with hlt | hge
  · refine xa_cons _ (lp10 r hlt) (xa_cons _ (lp11 W r I.c (by lia)) (xa_cons _ (lp12 W r I.c (by lia)) (xa_cons _ (lp13 W r hlen64 M.ne n1 n1) (xa_cons _ (lp14 W Y r I.c hlen64 hO n1 n1) (xa_cons _ (lp15 W r I.c M.perm M.pw) (xa_cons _ lp16 (xa_cons _ lp17 (xa_cons _ (lp18 W r P) (xa_cons _ (lp19 W r P) (xa_cons _ (lp20 W r) (xa_cons _ (xa_sub (lp21 W r hnd h4 hlen) fun _ _ _ _ _ F => F.weak (subs ⟨rfl, rfl, rfl, rfl, rfl, rfl, rfl, rfl, trivial⟩)) (xa_nil fun _ _ _ _ _ F => ⟨by lia, ?_⟩))))))))))))
    have em : mvJ (movL w0 w1 lot (runS w0 w1 lot c0 i).c i (runS w0 w1 lot c0 i).mv) (nxL w0 w1 lot (runS w0 w1 lot c0 i).c i (runS w0 w1 lot c0 i).mv) (runS w0 w1 lot c0 i).mv (movL w0 w1 lot (runS w0 w1 lot c0 i).c i (runS w0 w1 lot c0 i).mv).length = (runS w0 w1 lot c0 (i + 1)).mv := by
      funext n
      unfold mvJ
      rw [List.take_length]
      rfl
    rw [em] at F
    exact F.weak (subs ⟨rfl, rfl, rfl, rfl, rfl, rfl, rfl, trivial⟩)
  · have hi4 : i = t0 + 4 := by lia
    refine xa_cons _ (lp10b r hi4 fun g₀ s₀ k g s F => ?_) (fun _ _ _ _ _ _ _ z => z.elim)
    subst hi4
    exact hnx _ _ _ _ _ (F.weak (subs trivial))
end Mine
end
/-! ## E34 -/
section
open PySem PySem.W PySem.Calls PyProof.Rows
set_option maxHeartbeats 1000000
set_option maxRecDepth 100000
namespace Mine
theorem range_get {n i : Nat} {d : PyData} (h : (rangeD 0 1 n)[i]? = some d) : i < n ∧ d = .int (i : Int) := by
  unfold rangeD at h
  rw [List.getElem?_map] at h
  cases q : (List.range n)[i]? with
  | none => rw [q] at h; cases h
  | some k =>
    rw [q] at h
    cases h
    rw [List.getElem?_eq_some_iff] at q
    obtain ⟨h1, h2⟩ := q
    rw [List.length_range] at h1
    rw [List.getElem_range] at h2
    subst h2
    refine ⟨h1, ?_⟩
    show PyData.int (0 + (_ : Int) * 1) = _
    rw [Int.zero_add, Int.mul_one]
section
variable {c : Cx} {A : Around} {env : Env} {σ : Sd} {ν : List (Str × Value)} {ρ ρp : List (Str × PyData)} {ω : List (Addr × PyData)}
/-- the own lists are let go -/
theorem LB.release {g₀ : Heap} {s₀ : Shared} {k g : Heap} {s : Shared} (F : LB c env σ ν ρ ω g₀ s₀ k g s) (hp : Lends c env σ ν ρ ω ρp) : LB c env σ [] ρp [] g₀ s₀ k (lent g s.heap ω) s := by
  have gg := lent_has (ω := ω) F.fo.frm.gs
  have none' : ∀ {a}, g.get? a = none → (∀ p ∈ ω, p.1 ≠ a) → (lent g s.heap ω).get? a = none := fun {a} e h => by
    cases q : (lent g s.heap ω).get? a with
    | none => rfl
    | some o =>
      rcases (only_get.mp q).1 with ⟨o', z⟩ | z
      · rw [e] at z; cases z
      · obtain ⟨p, hp, e'⟩ := List.mem_map.mp z
        exact absurd e' (h p hp)
  obtain ⟨m, cm, I, q1, q2⟩ := id F.fo.frm.fre
  refine ⟨⟨⟨F.fo.frm.fn, F.fo.frm.gl, F.fo.frm.bl, F.fo.frm.base, stays_trans F.fo.frm.gg gg, lent_stays _ _ _, fun a o e => ?_, none' F.fo.frm.noL (fun p hp => Ne.symm (F.fo.own p hp).Ln), F.fo.frm.ks, F.fo.frm.kL, F.fo.frm.kC, fun n a e => none' (F.fo.frm.noC n a e) (fun p hp => Ne.symm ((F.fo.own p hp).Cn n a e)), fun a => ?_, F.fo.frm.tk, m, cm, I, (fun _ _ e => nomatch e), fun x d e => ?_⟩, fun _ h => (nomatch h), List.nodup_nil⟩, F.z, F.kT, none' F.gT F.w, fun _ h => (nomatch h), F.l, F.c, ?_⟩
  · rcases (only_get.mp e).1 with ⟨o', z⟩ | z
    · have := F.fo.frm.gs _ _ z
      rw [(only_get.mp e).2] at this
      cases this
      exact F.fo.frm.fr a _ z
    · obtain ⟨p, hp, rfl⟩ := List.mem_map.mp z
      exact .inr (F.fo.own p hp).zn
  · by_cases h : ∀ p ∈ ω, p.1 ≠ a
    · exact (F.fo.frm.gk a).imp (fun e => none' e h) id
    · refine .inr ?_
      have : ∃ p ∈ ω, p.1 = a := Classical.byContradiction fun z => h fun p hp e => z ⟨p, hp, e⟩
      obtain ⟨p, hp, rfl⟩ := this
      exact (F.fo.own p hp).kn
  · rcases hp F x d e with h | ⟨v, h, r⟩
    · obtain ⟨v, r, z⟩ := q2 x d h
      exact ⟨v, r.mono gg, z⟩
    · exact ⟨v, r, q1 x v h⟩
  · obtain ⟨o, e, p⟩ := F.at_
    exact ⟨o, e, σ.mono gg p⟩
end
section
variable {c : Cx} {A : Around} {L fa : Addr} {q : Str} {a : As7} {kind lot w0 w1 : Int} {c0 t0 a0 : Nat} {rt : PyData → Prop} {bk : As} {S : List PyData} {mv : Nat → List (Int × Bool)}
theorem law12 (W : Lw c) (Y : Wy w0 w1) (r : Rm 6 A) (hA : A.frames = some [envL L fa q]) (hc : c0 < 256) (Al : Alone w0 w1 lot c0 t0 a0) :
    XA1 c A (envL L fa q) (LA c L fa q a (rhoL kind lot w0 w1 c0 (.list [])) [] [] (fun _ => [])) (lawSt 12) ⟨LA c L fa q a [] (seenD w0 w1 lot c0 (t0 + 5)) (seenD w0 w1 lot c0 (t0 + 5)) (runS w0 w1 lot c0 (t0 + 4)).mv, rt, bk⟩ := by
  have h13 := Al.t
  have key : XA1 c A (envL L fa q) (fun g₀ s₀ k g s => 0 ≤ t0 + 4 ∧ LA c L fa q a (rhoL kind lot w0 w1 (runS w0 w1 lot c0 0).c (alD t0 a0 0)) (seenD w0 w1 lot c0 0) (seenD w0 w1 lot c0 0) (runS w0 w1 lot c0 0).mv g₀ s₀ k g s) (lawSt 12) ⟨LA c L fa q a [] (seenD w0 w1 lot c0 (t0 + 5)) (seenD w0 w1 lot c0 (t0 + 5)) (runS w0 w1 lot c0 (t0 + 4)).mv, rt, bk⟩ := by
    show XA1 _ _ _ _ (Stmt.For _ _ _ _ _) _
    refine xa_for (ds := rangeD 0 1 (23 : Int).toNat) (fun i g₀ s₀ k g s => i ≤ t0 + 4 ∧ LA c L fa q a (rhoL kind lot w0 w1 (runS w0 w1 lot c0 i).c (alD t0 a0 i)) (seenD w0 w1 lot c0 i) (seenD w0 w1 lot c0 i) (runS w0 w1 lot c0 i).mv g₀ s₀ k g s) (fun i => ad_and lb_ad) lb_ad
      (fun g₀ s₀ k g s F => ⟨_, F.2.fo.frm.bg, F.2.fo.frm.st, it_range1 (N := 23) r.h W.N.range rfl ev_int (by decide) (by decide)⟩) (fun i d hd => ?_) (fun g₀ s₀ k g s F => ?_)
    · obtain ⟨h1, rfl⟩ := range_get hd
      refine xa_and fun hi => lb_name (.inl rfl) rfl ?_
      exact turn_ok W Y r hA hc Al hi fun _ _ _ _ _ F => F
    · have : (rangeD 0 1 (23 : Int).toNat).length = 23 := by unfold rangeD; rw [List.length_map, List.length_range]; rfl
      rw [this] at F
      exact absurd F.1 (by lia)
  have e : alD t0 a0 0 = .list [] := by unfold alD; rw [if_pos (Nat.zero_le _)]
  rw [e] at key
  exact xa_sub key fun _ _ _ _ _ F => ⟨Nat.zero_le _, F⟩
/-- what is told at the end -/
noncomputable def rhoE (S : List PyData) (mv : Nat → List (Int × Bool)) : List (Str × PyData) := [(Str.ofString "book", bookD fun k => bkL (mv k)), (Str.ofString "moves", movesL mv), (Str.ofString "seen", .list S), (Str.ofString "due", .list S)]
theorem lendsE : Lends c (envL L fa q) (sdL q a) (nuL a) [] (omL a S S mv) (rhoE S mv) := fun {g₀ s₀ k g s} F x d h => by
  refine .inr ?_
  unfold rhoE at h
  rw [List.lookup_cons] at h
  by_cases h1 : x = Str.ofString "book"
  · subst h1
    simp at h
    subst h
    exact ⟨.ref a.ab, rfl, book_rd F⟩
  · rw [beq_eq_false_iff_ne.mpr h1] at h
    simp only at h
    rw [List.lookup_cons] at h
    by_cases h2 : x = Str.ofString "moves"
    · subst h2
      simp at h
      subst h
      exact ⟨.ref a.am, rfl, moves_rd F⟩
    · rw [beq_eq_false_iff_ne.mpr h2] at h
      simp only at h
      rw [List.lookup_cons] at h
      by_cases h3 : x = Str.ofString "seen"
      · subst h3
        simp at h
        subst h
        exact ⟨.ref a.sn, rfl, F.fo.lent_rd (by simp [omL])⟩
      · rw [beq_eq_false_iff_ne.mpr h3] at h
        simp only at h
        rw [List.lookup_cons] at h
        by_cases h4 : x = Str.ofString "due"
        · subst h4
          simp at h
          subst h
          exact ⟨.ref a.ad, rfl, F.fo.lent_rd (by simp [omL])⟩
        · rw [beq_eq_false_iff_ne.mpr h4] at h
          cases h
theorem seenD_lay (w0 w1 lot : Int) (c0 i : Nat) : PyData.canLayAll0 (seenD w0 w1 lot c0 i) = true ∧ flats (seenD w0 w1 lot c0 i) = true ∧ PyData.depthAll (seenD w0 w1 lot c0 i) ≤ 1 := by
  unfold seenD
  induction List.range i with
  | nil => exact ⟨rfl, rfl, by simp [PyData.depthAll]⟩
  | cons j l ih =>
    obtain ⟨h1, h2, h3⟩ := ih
    rw [List.map_cons]
    refine ⟨?_, ?_, ?_⟩
    · simp only [PyData.canLayAll0, PyData.canLay0, Bool.and_eq_true]
      exact ⟨nats_lay _, h1⟩
    · unfold flats
      rw [h2, Bool.and_true]
      exact nats_flat _
    · simp only [PyData.depthAll, PyData.depth, nats_depth]
      lia
theorem law13 (r : Rm 6 A) (hl : PyData.canLayAll0 S = true) (hf : flats S = true) (hd : PyData.depthAll S ≤ 1) : XA1 c A (envL L fa q) (LB c (envL L fa q) (sdL q a) [] (rhoE S mv) []) (lawSt 13) ⟨LB c (envL L fa q) (sdL q a) [] (rhoE S mv) [], rt, bk⟩ := by
  have hlay : (PyData.list S).canLay0 = true := hl
  have h := op_ne (c := c) (A := A) hlay hlay (r.line _ (by simp only [PyData.depth]; lia)) hf hf
  rw [SeqAt.eqv_refl _ hlay] at h
  show XA1 _ _ _ _ (Stmt.If _ _ _ _) _
  exact lb_pure (x_if (b := false) (o := .next _) (tr_cmp (ev_name rfl) (ev_name rfl) h) (fun h => nomatch h) (fun _ => x_nil))
end
end Mine
end
/-! ## E35 -/
section
open PySem PySem.W PySem.Calls PyProof.Rows
set_option maxHeartbeats 1000000
set_option maxRecDepth 100000
namespace Mine
noncomputable def loopE : List Stmt := match lawSt 14 with
  | .For _ _ b _ _ => b
  | _ => []
noncomputable def le (k : Nat) : Stmt := (loopE[k]?).getD (.Pass default)
theorem loopE_eq : loopE = [le 0, le 1, le 2, le 3] := rfl
theorem book_get (mv : Nat → List (Int × Bool)) {k : Nat} (h : k < 4) : [(bkL (mv 0)).data, (bkL (mv 1)).data, (bkL (mv 2)).data, (bkL (mv 3)).data][k]? = some (bkL (mv k)).data := by
  match k, h with
  | 0, _ => rfl
  | 1, _ => rfl
  | 2, _ => rfl
  | 3, _ => rfl
theorem back_ix {k : Nat} (h : k < 4) : seqIndex? ((k : Int) - 1) 4 = some ((k + 3) % 4) := by
  match k, h with
  | 0, _ => rfl
  | 1, _ => rfl
  | 2, _ => rfl
  | 3, _ => rfl
theorem pairs_lay (js : List (Int × Int)) : PyData.canLayAll0 (js.map fun p => PyData.tuple [.int p.1, .int p.2]) = true ∧ flats (js.map fun p => PyData.tuple [.int p.1, .int p.2]) = true ∧ PyData.depthAll (js.map fun p => PyData.tuple [.int p.1, .int p.2]) ≤ 1 := by
  induction js with
  | nil => exact ⟨rfl, rfl, by simp [PyData.depthAll]⟩
  | cons p js ih =>
    obtain ⟨h1, h2, h3⟩ := ih
    rw [List.map_cons]
    refine ⟨?_, ?_, ?_⟩
    · simp only [PyData.canLayAll0, PyData.canLay0, Bool.and_eq_true]
      exact ⟨⟨trivial, trivial, trivial⟩, h1⟩
    · unfold flats
      rw [h2, Bool.and_true]
      rfl
    · simp only [PyData.depthAll, PyData.depth]
      lia
/-- a[:n] of a tuple that is no name -/
theorem ev_upto_tupleT {c : Cx} {A : Around} {env : Env} {ρ : List (Str × PyData)} {value : Expr} {up : Expr} {p pos : Pos} {ds : List PyData} {n : Nat} (h₁ : Ev c A env ρ value (.tuple ds)) (h₂ : Ev c A env ρ up (.int n)) (hl : ds.length ≤ sizeLine) (hn : n < ds.length)
    (hs : ∀ o i, subscripted (.Slice none (some up) none p) false o i = operate [i, o] (getItem o i) := by intro _ _; with_unfolding_all rfl) :
    Ev c A env ρ (.Subscript value (.Slice none (some up) none p) pos) (.tuple (ds.take n)) := by
  intro g s Q E hg S hQ
  refine Subscript_ (h₁.tk g s _ _ hg S fun v₁ g₁ s₁ G₁ r₁ t₁ => wpAny_Slice ?_)
  rw [evalPart_none]
  refine wpAny_pure ?_
  rw [evalPart_some]
  refine h₂.tk g₁ s₁ _ _ (stays_trans hg G₁.gg) (S.grow G₁ t₁) fun v₂ g₂ s₂ G₂ r₂ t₂ => ?_
  obtain ⟨u, rfl⟩ := rdI r₂
  refine wpAny_pure ?_
  have zq := r₁; clear r₁; refine rdT zq fun a o vs m ev e hc hd r => ?_
  subst ev
  have hz := r.length
  rw [Array.length_toList] at hz
  have e2 := G₂.gs _ _ (G₂.gg _ _ e)
  have ht' : IsTup (s₂.heap.push { cls := .type "slice", data := .fields #[.none, .int (n : Int) u, .none] }) a vs := ⟨o, Heap.get?_push_of_some _ e2, hc, m, hd⟩
  refine tail_any ht'.typeIs slot_tuple_getitem.lookup (getItem_tuple_upto ht' (Heap.IsSliceOf.new ..) (by lia) ?_ (by lia)) (hs _ _)
  obtain ⟨g₃, G₃, hget⟩ := grow2 G₂.gs { cls := .type "slice", data := .fields #[Value.none, .int (n : Int) u, .none] } { cls := .type "tuple", data := .seq (vs.toList.take n).toArray } rfl s₂.toks
  rw [Heap.size_push]
  refine hQ _ g₃ _ ((G₁.trans G₂).trans G₃) (.tuple hget rfl rfl ?_)
  exact (r.take n).mono (stays_trans G₂.gg G₃.gg)
noncomputable def itemsV (l : List (Int × Bool)) : List PyData := (bkL l).js.map fun p => .tuple [.int p.1, .int p.2]
theorem entry_eq (l : List (Int × Bool)) : [PyData.int (bkL l).a, .int (bkL l).b, .int (bkL l).d, .int (bkL l).e] ++ [.list (itemsV l)] = entryV l := bk_entry l
section
variable {c : Cx} {A : Around} {L fa : Addr} {q : Str} {a : As7} {rt : PyData → Prop} {bk : As} {S : List PyData} {mv : Nat → List (Int × Bool)} {k : Nat}
noncomputable abbrev E0 (S : List PyData) (mv : Nat → List (Int × Bool)) (k : Nat) : List (Str × PyData) := setρ (rhoE S mv) (Str.ofString "k") (.int (k : Int))
noncomputable def gapV (mv : Nat → List (Int × Bool)) (k : Nat) : Int := ((mv k).length : Nat) - ((mv ((k + 3) % 4)).length : Nat)
noncomputable abbrev E1 (S : List PyData) (mv : Nat → List (Int × Bool)) (k : Nat) : List (Str × PyData) := setρ (E0 S mv k) (Str.ofString "gap") (.int (gapV mv k))
theorem bk_item {ρ : List (Str × PyData)} (hk : k < 4) (hb : ρ.lookup (Str.ofString "book") = some (bookD fun k => bkL (mv k))) (hkk : ρ.lookup (Str.ofString "k") = some (.int (k : Int))) {p1 p2 p3 : Pos} {env : Env} (hs : ∀ o i, subscripted (.Name (Str.ofString "k") p2) false o i = operate [o, i] (getItem o i) := by intro _ _; with_unfolding_all rfl) :
    Ev c A env ρ (.Subscript (.Name (Str.ofString "book") p1) (.Name (Str.ofString "k") p2) p3) (bkL (mv k)).data :=
  ev_item (T := "list") (d₁ := bookD fun k => bkL (mv k)) (ev_name hb) (ev_name hkk) (op_item_list (j := k) (seq_ok (by lia) (show (k : Int) < ((4 : Nat) : Int) by lia)) (book_get mv hk) (by lia) (by lia)) rfl hs
theorem le0 (W : Lw c) (r : Rm 6 A) (hk : k < 4) (hl : (mv k).length ≤ 29) (hd : ∀ p ∈ mv k, 1 ≤ p.1 ∧ p.1 ≤ 4) : XA1 c A (envL L fa q) (LB c (envL L fa q) (sdL q a) [] (E0 S mv k) []) (le 0) ⟨LB c (envL L fa q) (sdL q a) [] (E0 S mv k) [], rt, bk⟩ := by
  obtain ⟨_, De, _⟩ := W.entry
  obtain ⟨p1, p2, p3⟩ := pairs_lay (bkL (mv k)).js
  have hjs := bk_len (mv k)
  have hlay : (PyData.tuple (entryV (mv k))).canLay0 = true := by
    rw [← entry_eq]
    show PyData.canLayAll0 _ = true
    simp only [List.cons_append, List.nil_append, PyData.canLayAll0, PyData.canLay0, Bool.and_eq_true]
    exact ⟨trivial, trivial, trivial, trivial, p1, trivial⟩
  have hfl : flat (PyData.tuple (entryV (mv k))) = true := by
    rw [← entry_eq]
    show flats _ = true
    simp only [List.cons_append, List.nil_append, flats, flat, Bool.and_eq_true]
    exact ⟨trivial, trivial, trivial, trivial, p2, trivial⟩
  have hdp : (PyData.tuple (entryV (mv k))).depth ≤ 5 := by
    rw [← entry_eq]
    simp only [List.cons_append, List.nil_append, PyData.depth, PyData.depthAll]
    unfold itemsV
    lia
  have h := op_ne (c := c) (A := A) hlay hlay (r.line _ (by lia)) hfl hfl
  rw [SeqAt.eqv_refl _ hlay] at h
  show XA1 _ _ _ _ (Stmt.If _ _ _ _) _
  refine lb_pure (x_if (b := false) (o := .next _) (tr_cmp (d₁ := .tuple (entryV (mv k))) (d₂ := .tuple (entryV (mv k))) ?_ (ev_call De rfl (evs_cons (ev_item (T := "list") (d₁ := movesL mv) (ev_name rfl) (ev_name rfl) (op_item_list (j := k) (seq_ok (by lia) (show (k : Int) < ((4 : Nat) : Int) by lia)) (moves_get mv hk) (by lia) (by lia)) rfl) evs_nil) (f_entry (by lia) hd W.N W.entry) (r.less (by decide))) h) (fun h => nomatch h) (fun _ => x_nil))
  rw [← entry_eq]
  exact ev_bin (ev_upto_tupleT (ds := [.int (bkL (mv k)).a, .int (bkL (mv k)).b, .int (bkL (mv k)).d, .int (bkL (mv k)).e, dictD (bkL (mv k)).js]) (n := 4) (bk_item hk rfl rfl) ev_int (show 5 ≤ sizeLine by decide) (show 4 < 5 by decide)) (ev_tuple (evs_cons (ev_itemsL W.N.list rfl r.h (ev_item (T := "tuple") (d := dictD (bkL (mv k)).js) (d₁ := (bkL (mv k)).data) (bk_item hk rfl rfl) ev_int (op_item_tuple (j := 4) rfl rfl (by decide) (by decide)) rfl) (by lia)) evs_nil) (show 1 ≤ sizeLine by decide)) (op_add_tuple (show 5 ≤ sizeLine by decide) (by simp) (by simp))
theorem le1 (W : Lw c) (r : Rm 6 A) (hk : k < 4) : XA1 c A (envL L fa q) (LB c (envL L fa q) (sdL q a) [] (E0 S mv k) []) (le 1) ⟨LB c (envL L fa q) (sdL q a) [] (E1 S mv k) [], rt, bk⟩ := by
  obtain ⟨_, Ds, _⟩ := W.sub
  obtain ⟨_, Dc, _⟩ := W.calls
  have hj : (k + 3) % 4 < 4 := Nat.mod_lt _ (by decide)
  have e : gapV mv k = callsV (bkL (mv k)).js - callsV (bkL (mv ((k + 3) % 4))).js := by rw [bk_calls, bk_calls]; rfl
  show XA1 _ _ _ _ (Stmt.Assign _ _ _) _
  unfold E1
  rw [e]
  exact lb_pure (x_assign (ev_call Ds rfl (evs_cons (ev_call Dc rfl (evs_cons (ev_item (T := "tuple") (d := dictD (bkL (mv k)).js) (d₁ := (bkL (mv k)).data) (bk_item hk rfl rfl) ev_int (op_item_tuple (j := 4) rfl rfl (by decide) (by decide)) rfl) evs_nil) (f_calls W.calls) (r.less (by decide))) (evs_cons (ev_call Dc rfl (evs_cons (ev_item (T := "tuple") (d := dictD (bkL (mv ((k + 3) % 4))).js) (d₁ := (bkL (mv ((k + 3) % 4))).data) (ev_item (T := "list") (d₁ := bookD fun k => bkL (mv k)) (ev_name rfl) (ev_bin (ev_name rfl) ev_int op_sub) (op_item_list (j := (k + 3) % 4) (back_ix hk) (book_get mv hj) (by lia) (by lia)) rfl) ev_int (op_item_tuple (j := 4) rfl rfl (by decide) (by decide)) rfl) evs_nil) (f_calls W.calls) (r.less (by decide))) evs_nil)) (f_sub W.sub) (r.less (by decide))) (.inl rfl))
theorem le2 (W : Lw c) (r : Rm 6 A) (hk : k < 4) : XA1 c A (envL L fa q) (LB c (envL L fa q) (sdL q a) [] (E1 S mv k) []) (le 2) ⟨LB c (envL L fa q) (sdL q a) [] (E1 S mv k) [], rt, bk⟩ := by
  have h := op_ne (c := c) (A := A) (d₁ := .list []) (d₂ := .list []) rfl rfl (r.line _ (by simp [PyData.depth, PyData.depthAll])) rfl rfl
  rw [SeqAt.eqv_refl _ rfl] at h
  show XA1 _ _ _ _ (Stmt.If _ _ _ _) _
  refine lb_pure (x_if (b := false) (o := .next _) (tr_cmp (d₁ := .list []) (ev_comp [] (it_tuple (ds := [.int (bkL (mv k)).a, .int (bkL (mv k)).b, .int (bkL (mv k)).d, .int (bkL (mv k)).e, .int (gapV mv k)]) r.h (ev_bin (ev_upto_tupleT (ds := [.int (bkL (mv k)).a, .int (bkL (mv k)).b, .int (bkL (mv k)).d, .int (bkL (mv k)).e, dictD (bkL (mv k)).js]) (n := 4) (bk_item hk rfl rfl) ev_int (show 5 ≤ sizeLine by decide) (show 4 < 5 by decide)) (ev_tuple (evs_cons (ev_name rfl) evs_nil) (show 1 ≤ sizeLine by decide)) (op_add_tuple (show 5 ≤ sizeLine by decide) (by simp) (by simp)))) rfl rfl (by decide) (by decide) (fun x d h => nomatch h) ?_ (show 5 ≤ sizeLine by decide)) (ev_list evs_nil (by decide)) h) (fun h => nomatch h) (fun _ => x_nil))
  refine Cp.cast (rs' := (List.filter (fun _ => false) [PyData.int (bkL (mv k)).a, .int (bkL (mv k)).b, .int (bkL (mv k)).d, .int (bkL (mv k)).e, .int (gapV mv k)]).map id) rfl (cp_filter id (fun _ => false) (fun C => rfl) (fun C => rfl) (fun d hd C => ?_) (fun d hd h => nomatch h))
  obtain ⟨n, rfl⟩ : ∃ n, d = .int n := by
    simp only [List.mem_cons, List.not_mem_nil, or_false] at hd
    rcases hd with rfl | rfl | rfl | rfl | rfl <;> exact ⟨_, rfl⟩
  exact Tr.cast (show (!true) = false from rfl) (tr_not (tr_val (b := true) (d := .bool true) (ev_isinst (n := n) W.N.isinstance rfl W.N.int rfl (ev_name rfl) (fun s u Q E h => IsiPair.int_int (h s.toks))) rfl (fun _ h => nomatch h)))
theorem le3 (W : Lw c) (r : Rm 6 A) (hk : k < 4) (hl : ∀ k < 4, (mv k).length ≤ 29) (hg : (mv k).length ≤ (mv ((k + 3) % 4)).length + 1) : XA1 c A (envL L fa q) (LB c (envL L fa q) (sdL q a) [] (E1 S mv k) []) (le 3) ⟨LB c (envL L fa q) (sdL q a) [] (E1 S mv k) [], rt, bk⟩ := by
  obtain ⟨_, Dl, _⟩ := W.le
  have hj : (k + 3) % 4 < 4 := Nat.mod_lt _ (by decide)
  have l1 := hl k hk
  have l2 := hl _ hj
  have e1 : decide (gapV mv k ≤ 1) = true := decide_eq_true (by unfold gapV; lia)
  have e2 : decide (gapV mv k ≤ 0) = decide ((((mv k).length : Nat) : Int) ≤ (((mv ((k + 3) % 4)).length : Nat) : Int)) := by
    rw [Bool.eq_iff_iff, decide_eq_true_eq, decide_eq_true_eq]
    unfold gapV
    lia
  show XA1 _ _ _ _ (Stmt.If _ _ _ _) _
  refine lb_pure (x_if (b := false) (o := .next _) (Tr.cast (show ((!(decide (gapV mv k ≤ 1) == true)) || ((!(decide (gapV mv k ≤ 0) == decide ((((mv k).length : Nat) : Int) ≤ (((mv ((k + 3) % 4)).length : Nat) : Int)))) || false)) = false by rw [e1, e2]; simp) (tr_bool (al_or (tr_cmp (ev_call Dl rfl (evs_cons (ev_name rfl) (evs_cons ev_int evs_nil)) (f_le W.le) (r.less (by decide))) ev_bool op_isNot_bool) (fun _ => al_or (tr_cmp (ev_call Dl rfl (evs_cons (ev_name rfl) (evs_cons ev_int evs_nil)) (f_le W.le) (r.less (by decide))) (ev_cmp (ev_len (n := ((mv k).length : Nat)) W.N.len rfl (ev_item (T := "list") (d := movesD (mv k)) (d₁ := movesL mv) (ev_name rfl) (ev_name rfl) (op_item_list (j := k) (seq_ok (by lia) (show (k : Int) < ((4 : Nat) : Int) by lia)) (moves_get mv hk) (by lia) (by lia)) rfl) (by rw [List.length_map]; lia) (by rw [List.length_map])) (ev_len (n := ((mv ((k + 3) % 4)).length : Nat)) W.N.len rfl (ev_item (T := "list") (d := movesD (mv ((k + 3) % 4))) (d₁ := movesL mv) (ev_name rfl) (ev_bin (ev_name rfl) ev_int op_sub) (op_item_list (j := (k + 3) % 4) (back_ix hk) (moves_get mv hj) (by lia) (by lia)) rfl) (by rw [List.length_map]; lia) (by rw [List.length_map])) op_le) op_isNot_bool) (fun _ => al_or_nil))))) (fun h => nomatch h) (fun _ => x_nil))
theorem law14 (W : Lw c) (r : Rm 6 A) (hl : ∀ k < 4, (mv k).length ≤ 29) (hd : ∀ k < 4, ∀ p ∈ mv k, 1 ≤ p.1 ∧ p.1 ≤ 4) (hg : ∀ k < 4, (mv k).length ≤ (mv ((k + 3) % 4)).length + 1) : XA1 c A (envL L fa q) (LB c (envL L fa q) (sdL q a) [] (rhoE S mv) []) (lawSt 14) ⟨LB c (envL L fa q) (sdL q a) [] (rhoE S mv) [], rt, bk⟩ := by
  show XA1 _ _ _ _ (Stmt.For _ _ _ _ _) _
  refine xa_for (ds := rangeD 0 1 (4 : Int).toNat) (fun j => LB c (envL L fa q) (sdL q a) [] (rhoE S mv) []) (fun j => lb_ad) lb_ad
    (fun g₀ s₀ k g s F => ⟨_, F.fo.frm.bg, F.fo.frm.st, it_range1 (N := 4) r.h W.N.range rfl ev_int (by decide) (by decide)⟩) (fun j d hj => ?_) (fun g₀ s₀ k g s F => F)
  obtain ⟨hk, rfl⟩ := range_get hj
  refine lb_name (.inl rfl) rfl ?_
  show XA c A _ _ loopE _
  rw [loopE_eq]
  exact xa_cons _ (le0 W r hk (hl j hk) (hd j hk)) (xa_cons _ (le1 W r hk) (xa_cons _ (le2 W r hk) (xa_cons _ (le3 W r hk hl (hg j hk)) (xa_nil fun _ _ _ _ _ F => F.weak (subs ⟨rfl, rfl, rfl, rfl, trivial⟩)))))
end
end Mine
end
/-! ## E36 -/
section
open PySem PySem.W PySem.Calls PyProof.Rows
set_option maxHeartbeats 1000000
set_option maxRecDepth 100000
namespace Mine
theorem law_eq : bodyAt 34 = [lawSt 0, lawSt 1, lawSt 2, lawSt 3, lawSt 4, lawSt 5, lawSt 6, lawSt 7, lawSt 8, lawSt 9, lawSt 10, lawSt 11, lawSt 12, lawSt 13, lawSt 14, lawSt 15] := rfl
noncomputable def way0 (i : Int) : Int := if i = 0 then 1 else if i = 1 then -1 else if i = 2 then 2 else -3
noncomputable def way1 (i : Int) : Int := if i = 0 then 1 else -2
theorem way0_item {i : Int} (h0 : 0 ≤ i) (h1 : i < 4) : [PyData.int 1, .int (-1), .int 2, .int (-3)][i.toNat]? = some (.int (way0 i)) := by
  have : i = 0 ∨ i = 1 ∨ i = 2 ∨ i = 3 := by lia
  rcases this with rfl | rfl | rfl | rfl <;> rfl
theorem way1_item {i : Int} (h0 : 0 ≤ i) (h1 : i < 2) : [PyData.int 1, .int (-2)][i.toNat]? = some (.int (way1 i)) := by
  have : i = 0 ∨ i = 1 := by lia
  rcases this with rfl | rfl <;> rfl
theorem wy_ok (i j : Int) : Wy (way0 i) (way1 j) := by
  refine ⟨?_, ?_⟩
  · unfold way0
    split
    · exact .inl rfl
    · split
      · exact .inr (.inl rfl)
      · split
        · exact .inr (.inr (.inl rfl))
        · exact .inr (.inr (.inr rfl))
  · unfold way1
    split
    · exact .inl rfl
    · exact .inr rfl
noncomputable def dr (drawn : Int) (k : Nat) : Int := 1 + (drawn.fdiv (4 ^ k)).fmod 4
noncomputable def rr (drawn : Int) (k : Nat) : Int := (dr drawn k - 1 - (k : Int)).fmod 4
noncomputable def cd0 (drawn : Int) : Nat := (rr drawn 0).toNat + 4 * (rr drawn 1).toNat + 16 * (rr drawn 2).toNat + 64 * (rr drawn 3).toNat
theorem rr_mem (drawn : Int) (k : Nat) : 0 ≤ rr drawn k ∧ rr drawn k < 4 := fmod_mem _ (by decide)
theorem cd_key : ∀ a b e d : Fin 4, a.1 + 4 * b.1 + 16 * e.1 + 64 * d.1 < 256 ∧ (a.1 + 4 * b.1 + 16 * e.1 + 64 * d.1) / 1 % 4 = a.1 ∧ (a.1 + 4 * b.1 + 16 * e.1 + 64 * d.1) / 4 % 4 = b.1 ∧ (a.1 + 4 * b.1 + 16 * e.1 + 64 * d.1) / 16 % 4 = e.1 ∧ (a.1 + 4 * b.1 + 16 * e.1 + 64 * d.1) / 64 % 4 = d.1 := by decide +kernel
theorem rr_tn (drawn : Int) (k : Nat) : (rr drawn k).toNat < 4 := by
  have := rr_mem drawn k
  omega
theorem rr_back (drawn : Int) (k : Nat) : (((rr drawn k).toNat : Nat) : Int) = rr drawn k := Int.toNat_of_nonneg (rr_mem drawn k).1
theorem cd0_lt (drawn : Int) : cd0 drawn < 256 := (cd_key ⟨_, rr_tn drawn 0⟩ ⟨_, rr_tn drawn 1⟩ ⟨_, rr_tn drawn 2⟩ ⟨_, rr_tn drawn 3⟩).1
theorem rg_cd0 (drawn : Int) : ∀ k < 4, rgI (cd0 drawn) k = rr drawn k := by
  obtain ⟨_, h0, h1, h2, h3⟩ := cd_key ⟨_, rr_tn drawn 0⟩ ⟨_, rr_tn drawn 1⟩ ⟨_, rr_tn drawn 2⟩ ⟨_, rr_tn drawn 3⟩
  intro k hk
  unfold rgI rg
  match k, hk with
  | 0, _ => exact (congrArg Nat.cast h0).trans (rr_back drawn 0)
  | 1, _ => exact (congrArg Nat.cast h1).trans (rr_back drawn 1)
  | 2, _ => exact (congrArg Nat.cast h2).trans (rr_back drawn 2)
  | 3, _ => exact (congrArg Nat.cast h3).trans (rr_back drawn 3)
theorem dt_cd0 (drawn : Int) {k : Nat} (hk : k < 4) : dt (cd0 drawn) k = dr drawn k := by
  rw [dt_of, rg_cd0 drawn k hk]
  have h := fmod_mem (drawn.fdiv (4 ^ k)) (n := 4) (by decide)
  unfold rr dr
  generalize (drawn.fdiv (4 ^ k)).fmod 4 = x at *
  rw [Int.fmod_eq_emod_of_nonneg (1 + x - 1 - (k : Int)) (by decide), Int.fmod_eq_emod_of_nonneg _ (by decide)]
  lia
theorem dots_cd0 (drawn : Int) : PyData.list [.int (dr drawn 0), .int (dr drawn 1), .int (dr drawn 2), .int (dr drawn 3)] = dotsD (dt (cd0 drawn)) := by
  unfold dotsD
  rw [dt_cd0 _ (show 0 < 4 by decide), dt_cd0 _ (show 1 < 4 by decide), dt_cd0 _ (show 2 < 4 by decide), dt_cd0 _ (show 3 < 4 by decide)]
theorem ring_cd0 (drawn : Int) : PyData.list [.int (rr drawn 0), .int (rr drawn 1), .int (rr drawn 2), .int (rr drawn 3)] = dotsD (rgI (cd0 drawn)) := by
  unfold dotsD
  rw [rg_cd0 _ 0 (by decide), rg_cd0 _ 1 (by decide), rg_cd0 _ 2 (by decide), rg_cd0 _ 3 (by decide)]
noncomputable def sd0 (q : Str) : Sd := sdT 189 33 (q ++ ".<locals>." ++ "<lambda>") (fun _ => True) (fun _ h => h)
section
variable {c : Cx} {A : Around} {L fa : Addr} {q : Str} {rt : PyData → Prop} {bk : As} {ns : List Int} {drawn kind lot w0 w1 : Int} {cc : Nat} {ρ : List (Str × PyData)} {ν : List (Str × Value)} {ω : List (Addr × PyData)} {σ : Sd}
noncomputable def P0 (ns : List Int) : List (Str × PyData) := [(Str.ofString "script", bareD (ns.map .int))]
noncomputable def P1 (ns : List Int) : List (Str × PyData) := setρ (P0 ns) (Str.ofString "drawn") (.int (cellV ns 0 1))
noncomputable def P2 (ns : List Int) : List (Str × PyData) := setρ (P1 ns) (Str.ofString "kind") (.int (cellV ns 1 4))
noncomputable def P3 (ns : List Int) : List (Str × PyData) := setρ (P2 ns) (Str.ofString "lot") (.int (cellV ns 2 9165243))
noncomputable def P4 (ns : List Int) : List (Str × PyData) := setρ (P3 ns) (Str.ofString "dots") (dotsD (dt (cd0 (cellV ns 0 1))))
noncomputable def P5 (ns : List Int) : List (Str × PyData) := setρ (P4 ns) (Str.ofString "ring") (dotsD (rgI (cd0 (cellV ns 0 1))))
noncomputable def w0N (ns : List Int) : Int := way0 ((cellV ns 1 4).fmod 4)
noncomputable def w1N (ns : List Int) : Int := way1 (((cellV ns 1 4).fdiv 4).fmod 2)
noncomputable def P6 (ns : List Int) : List (Str × PyData) := setρ (P5 ns) (Str.ofString "ways") (.tuple [.int (w0N ns), .int (w1N ns)])
noncomputable def P7 (ns : List Int) : List (Str × PyData) := setρ (P6 ns) (Str.ofString "judge") (instD (selD (w0N ns) (w1N ns)))
theorem law0 (W : Lw c) (r : Rm 6 A) (hl : ns.length ≤ 64) : XA1 c A (envL L fa q) (LB c (envL L fa q) σ [] (P0 ns) ω) (lawSt 0) ⟨LB c (envL L fa q) σ [] (P1 ns) ω, rt, bk⟩ := by
  obtain ⟨_, D, _⟩ := W.cell
  show XA1 _ _ _ _ (Stmt.Assign _ _ _) _
  exact lb_pure (x_assign (ev_call D rfl (evs_cons (ev_name rfl) (evs_cons ev_int (evs_cons ev_int evs_nil))) (f_cell (place := 0) W.N W.cell hl (by decide)) (r.less (by decide))) (.inr ⟨rfl, _, rfl⟩))
theorem law1 (W : Lw c) (r : Rm 6 A) (hl : ns.length ≤ 64) : XA1 c A (envL L fa q) (LB c (envL L fa q) σ [] (P1 ns) ω) (lawSt 1) ⟨LB c (envL L fa q) σ [] (P2 ns) ω, rt, bk⟩ := by
  obtain ⟨_, D, _⟩ := W.cell
  show XA1 _ _ _ _ (Stmt.Assign _ _ _) _
  exact lb_pure (x_assign (ev_call D rfl (evs_cons (ev_name rfl) (evs_cons ev_int (evs_cons ev_int evs_nil))) (f_cell (place := 1) W.N W.cell hl (by decide)) (r.less (by decide))) (.inl rfl))
theorem law2 (W : Lw c) (r : Rm 6 A) (hl : ns.length ≤ 64) : XA1 c A (envL L fa q) (LB c (envL L fa q) σ [] (P2 ns) ω) (lawSt 2) ⟨LB c (envL L fa q) σ [] (P3 ns) ω, rt, bk⟩ := by
  obtain ⟨_, D, _⟩ := W.cell
  show XA1 _ _ _ _ (Stmt.Assign _ _ _) _
  exact lb_pure (x_assign (ev_call D rfl (evs_cons (ev_name rfl) (evs_cons ev_int (evs_cons ev_int evs_nil))) (f_cell (place := 2) W.N W.cell hl (by decide)) (r.less (by decide))) (.inl rfl))
theorem pow4 {k : Nat} (hk : k < 4) : (4 : Int) ^ k ≠ 0 ∧ ((4 : Int) ^ k).natAbs.log2 < 9000 := by
  match k, hk with
  | 0, _ => decide +kernel
  | 1, _ => decide +kernel
  | 2, _ => decide +kernel
  | 3, _ => decide +kernel
theorem law3 (W : Lw c) (r : Rm 6 A) : XA1 c A (envL L fa q) (LB c (envL L fa q) σ [] (P3 ns) ω) (lawSt 3) ⟨LB c (envL L fa q) σ [] (P4 ns) ω, rt, bk⟩ := by
  show XA1 _ _ _ _ (Stmt.Assign _ _ _) _
  unfold P4
  rw [← dots_cd0]
  refine lb_pure (x_assign (ev_comp [(Str.ofString "drawn", .int (cellV ns 0 1))] (it_range1 (N := 4) r.h W.N.range rfl ev_int (by decide) (by decide)) rfl rfl (by decide) (by decide) (caps ⟨⟨rfl, rfl, rfl, rfl⟩, trivial⟩) (ds := rangeD 0 1 (4 : Int).toNat) (cp_four (dr (cellV ns 0 1)) (fun C => rfl) (fun C => rfl) fun k hk C => ?_) (by decide)) (.inr ⟨rfl, _, rfl⟩))
  obtain ⟨h1, h2⟩ := pow4 hk
  exact ev_bin ev_int (ev_bin (ev_bin (ev_name rfl) (ev_bin (d := .int (4 ^ k)) ev_int (ev_name rfl) (op_pow (a := 4) (n := (k : Int)) (by lia) (by rw [show (Builtin.Int.intBits 4) = 3 by decide]; lia))) (op_div r.h h1 h2)) ev_int (op_mod (by decide))) op_add
theorem law4 (W : Lw c) (r : Rm 6 A) : XA1 c A (envL L fa q) (LB c (envL L fa q) σ [] (P4 ns) ω) (lawSt 4) ⟨LB c (envL L fa q) σ [] (P5 ns) ω, rt, bk⟩ := by
  show XA1 _ _ _ _ (Stmt.Assign _ _ _) _
  unfold P5
  rw [← ring_cd0]
  refine lb_pure (x_assign (ev_comp [(Str.ofString "dots", dotsD (dt (cd0 (cellV ns 0 1))))] (it_range1 (N := 4) r.h W.N.range rfl ev_int (by decide) (by decide)) rfl rfl (by decide) (by decide) (caps ⟨⟨rfl, rfl, rfl, rfl⟩, trivial⟩) (ds := rangeD 0 1 (4 : Int).toNat) (cp_four (rr (cellV ns 0 1)) (fun C => rfl) (fun C => rfl) fun k hk C => ?_) (by decide)) (.inr ⟨rfl, _, rfl⟩))
  unfold rr
  rw [← dt_cd0 _ hk]
  exact ev_bin (ev_bin (ev_bin (dots_at (dt (cd0 (cellV ns 0 1))) (seq_ok (by lia) (show (k : Int) < ((4 : Nat) : Int) by lia)) hk rfl (ev_name rfl) (by lia) (by lia) (by decide)) ev_int op_sub) (ev_name rfl) op_sub) ev_int (op_mod (by decide))
theorem law5 (r : Rm 6 A) : XA1 c A (envL L fa q) (LB c (envL L fa q) σ [] (P5 ns) ω) (lawSt 5) ⟨LB c (envL L fa q) σ [] (P6 ns) ω, rt, bk⟩ := by
  have t4 := fmod_mem (cellV ns 1 4) (n := 4) (by decide)
  have t2 := fmod_mem ((cellV ns 1 4).fdiv 4) (n := 2) (by decide)
  show XA1 _ _ _ _ (Stmt.Assign _ _ _) _
  exact lb_pure (x_assign (ev_tuple (evs_cons (ev_item (T := "tuple") (d₁ := .tuple [.int 1, .int (-1), .int 2, .int (-3)]) (ev_tuple (evs_cons ev_int (evs_cons (ev_un ev_int op_neg) (evs_cons ev_int (evs_cons (ev_un ev_int op_neg) evs_nil)))) (show 4 ≤ sizeLine by decide)) (ev_bin (ev_name rfl) ev_int (op_mod (by decide))) (op_item_tuple (seq_ok t4.1 t4.2) (way0_item t4.1 t4.2) (by omega) (by omega)) rfl) (evs_cons (ev_item (T := "tuple") (d₁ := .tuple [.int 1, .int (-2)]) (ev_tuple (evs_cons ev_int (evs_cons (ev_un ev_int op_neg) evs_nil)) (show 2 ≤ sizeLine by decide)) (ev_bin (ev_bin (ev_name rfl) ev_int (op_div r.h (by decide) (by decide))) ev_int (op_mod (by decide))) (op_item_tuple (seq_ok t2.1 t2.2) (way1_item t2.1 t2.2) (by omega) (by omega)) rfl) evs_nil)) (show 2 ≤ sizeLine by decide)) (.inr ⟨rfl, _, rfl⟩))
theorem law6 (W : Lw c) (r : Rm 6 A) : XA1 c A (envL L fa q) (LB c (envL L fa q) σ [] (P6 ns) ω) (lawSt 6) ⟨LB c (envL L fa q) σ [] (P7 ns) ω, rt, bk⟩ := by
  show XA1 _ _ _ _ (Stmt.Assign _ _ _) _
  exact lb_pure (x_assign (ev_make W.K.p W.K.X W.k191 W.n191 rfl (r.less (by decide)) (ev_list (evs_cons (ev_tuple (evs_cons ev_int (evs_cons (ev_item (T := "tuple") (d₁ := .tuple [.int (w0N ns), .int (w1N ns)]) (ev_name rfl) ev_int (op_item_tuple (j := 0) rfl rfl (by decide) (by decide)) rfl) evs_nil)) (show 2 ≤ sizeLine by decide)) (evs_cons (ev_tuple (evs_cons ev_int (evs_cons (ev_item (T := "tuple") (d₁ := .tuple [.int (w0N ns), .int (w1N ns)]) (ev_name rfl) ev_int (op_item_tuple (j := 1) rfl rfl (by decide) (by decide)) rfl) evs_nil)) (show 2 ≤ sizeLine by decide)) evs_nil)) (show 2 ≤ sizeLine by decide))) (.inl rfl))
theorem law7 (W : Lw c) : XA1 c A (envL L fa q) (LB c (envL L fa q) σ [] (P7 ns) []) (lawSt 7) ⟨fun g₀ s₀ k g s => ∃ a, LB c (envL L fa q) σ [(Str.ofString "book", .ref a)] (P7 ns) [(a, .list (List.replicate (4 : Int).toNat (statsD 0 0 0 0 [])))] g₀ s₀ k g s, rt, bk⟩ := by
  show XA1 _ _ _ _ (Stmt.Assign _ _ _) _
  exact lb_repeat (.inl rfl) rfl rfl (ev_tuple (evs_cons ev_int (evs_cons ev_int (evs_cons ev_int (evs_cons ev_int (evs_cons (ev_dict0 W.B) evs_nil))))) (show 5 ≤ sizeLine by decide)) (by decide) (by decide)
/-- moves = [[] for k in range(4)] -/
theorem law8 (W : Lw c) (r : Rm 6 A) {ab : Addr} {d : PyData} : XA1 c A (envL L fa q) (LB c (envL L fa q) (sd0 q) [(Str.ofString "book", .ref ab)] (P7 ns) [(ab, d)]) (lawSt 8) ⟨fun g₀ s₀ k g s => ∃ a : As7, a.ab = ab ∧ LB c (envL L fa q) (sdL q a) [(Str.ofString "moves", .ref a.am), (Str.ofString "book", .ref ab)] (P7 ns) [(a.m 0, .list []), (a.m 1, .list []), (a.m 2, .list []), (a.m 3, .list []), (ab, d)] g₀ s₀ k g s, rt, bk⟩ := by
  show XA1 _ _ _ _ (Stmt.Assign _ _ _) _
  intro g₀ s₀ k g s Q E F hQ
  refine wpAny_Assign_Name (wp_lists (ρx := fun i => [(Str.ofString "k", ((rangeD 0 1 (4 : Int).toNat)[i]?).getD .none)]) F (it_range1 (N := 4) r.h W.N.range rfl ev_int (by decide) (by decide)) rfl rfl (by decide) (by decide) (fun C i d h => ?_) (by decide) (by intro _; rfl) fun ls am g' s' z hlen F' hg => ?_) rfl
  · rw [h]
    exact bdc_name rfl rfl
  · obtain ⟨m0, m1, m2, m3, rfl⟩ : ∃ m0 m1 m2 m3, ls = [m0, m1, m2, m3] := by
      match ls, hlen with
      | [m0, m1, m2, m3], _ => exact ⟨_, _, _, _, rfl⟩
    refine wp_storeOν F'.grab (.inr ⟨rfl, _, rfl⟩) rfl rfl fun s'' F'' => hQ.1 g' s'' ?_
    have F₃ := F'.ungrab F''
    obtain ⟨oT, eT, hT, _⟩ := F₃.at_
    exact ⟨⟨am, ab, 0, 0, fun k => ([m0, m1, m2, m3] : List Addr).getD k 0, z⟩, rfl, F₃.fo, F₃.z, F₃.kT, F₃.gT, F₃.w, F₃.l, F₃.c, oT, eT, hT, hg⟩
theorem law9 {am ab : Addr} : XA1 c A (envL L fa q) (LB c (envL L fa q) σ [(Str.ofString "moves", .ref am), (Str.ofString "book", .ref ab)] (P7 ns) ω) (lawSt 9) ⟨LB c (envL L fa q) σ [(Str.ofString "moves", .ref am), (Str.ofString "book", .ref ab)] (rhoL (cellV ns 1 4) (cellV ns 2 9165243) (w0N ns) (w1N ns) (cd0 (cellV ns 0 1)) (.list [])) ω, rt, bk⟩ := by
  show XA1 _ _ _ _ (Stmt.Assign _ _ _) _
  have h : XA1 c A (envL L fa q) (LB c (envL L fa q) σ [(Str.ofString "moves", .ref am), (Str.ofString "book", .ref ab)] (P7 ns) ω) (lawSt 9) ⟨LB c (envL L fa q) σ [(Str.ofString "moves", .ref am), (Str.ofString "book", .ref ab)] (setρ (P7 ns) (Str.ofString "alone") (.list [])) ω, rt, bk⟩ := by
    show XA1 _ _ _ _ (Stmt.Assign _ _ _) _
    exact lb_pure (x_assign (ev_list evs_nil (by decide)) (.inl rfl))
  exact fun g₀ s₀ k g s Q E F hQ => h g₀ s₀ k g s Q E F ⟨fun g' s' F' => hQ.1 g' s' (F'.weak (subs ⟨rfl, rfl, rfl, rfl, rfl, rfl, rfl, trivial⟩)), hQ.2⟩
theorem law10 {a : As7} : XA1 c A (envL L fa q) (LB c (envL L fa q) (sdL q a) [(Str.ofString "moves", .ref a.am), (Str.ofString "book", .ref a.ab)] (rhoL kind lot w0 w1 cc (.list [])) ω) (lawSt 10) ⟨fun g₀ s₀ k g s => ∃ sn, LB c (envL L fa q) (sdL q a) [(Str.ofString "seen", .ref sn), (Str.ofString "moves", .ref a.am), (Str.ofString "book", .ref a.ab)] (rhoL kind lot w0 w1 cc (.list [])) ((sn, .list []) :: ω) g₀ s₀ k g s, rt, bk⟩ := by
  show XA1 _ _ _ _ (Stmt.Assign _ _ _) _
  exact lb_newlist (.inl rfl) rfl rfl
theorem law11 {a : As7} {sn : Addr} : XA1 c A (envL L fa q) (LB c (envL L fa q) (sdL q a) [(Str.ofString "seen", .ref sn), (Str.ofString "moves", .ref a.am), (Str.ofString "book", .ref a.ab)] (rhoL kind lot w0 w1 cc (.list [])) ω) (lawSt 11) ⟨fun g₀ s₀ k g s => ∃ ad, LB c (envL L fa q) (sdL q a) [(Str.ofString "due", .ref ad), (Str.ofString "seen", .ref sn), (Str.ofString "moves", .ref a.am), (Str.ofString "book", .ref a.ab)] (rhoL kind lot w0 w1 cc (.list [])) ((ad, .list []) :: ω) g₀ s₀ k g s, rt, bk⟩ := by
  show XA1 _ _ _ _ (Stmt.Assign _ _ _) _
  exact lb_newlist (.inl rfl) rfl rfl
end
theorem xr_subg {c : Cx} {A : Around} {env : Env} {P P' : As} {sts : List Stmt} {R : Value → As} (h : XR c A env P sts R) (hp : ∀ g₀ s₀ k g s, P' g₀ s₀ k g s → ∃ g', P g₀ s₀ k g' s) : XR c A env P' sts R := fun g₀ s₀ k g s Q E p hQ =>
  let ⟨g', p'⟩ := hp _ _ _ _ _ p
  h g₀ s₀ k g' s Q E p' hQ
theorem law15R {c : Cx} {A : Around} {L fa : Addr} {q : Str} {a : As7} {ρ : List (Str × PyData)} : XR c A (envL L fa q) (LB c (envL L fa q) (sdL q a) [] ρ []) [lawSt 15] (fun v g₀ s₀ k g s => v = .bool true ∧ ∃ a ρ, LB c (envL L fa q) (sdL q a) [] ρ [] g₀ s₀ k g s) := fun g₀ s₀ k g s Q E F hQ => by
  refine wpAny_execs_cons ?_
  show wpAny _ A (exec (Stmt.Return _ _) _) _ _ _
  refine wpAny_Return_some (ev_bool.tk g s _ _ F.fo.frm.bg F.fo.frm.st fun v g' s' G r t => ?_)
  first | (obtain ⟨_, rfl⟩ := rdI r) | (obtain ⟨_, rfl⟩ := rdS r) | (obtain rfl := rdN r) | cases r
  exact hQ _ g' s' ⟨rfl, a, ρ, F.step G t⟩
theorem law_body {c : Cx} {A : Around} {L fa : Addr} {q : Str} {ns : List Int} (W : Lw c) (r : Rm 6 A) (hA : A.frames = some [envL L fa q]) (hl : ns.length ≤ 64) :
    XR c A (envL L fa q) (LB c (envL L fa q) (sd0 q) [] (P0 ns) []) (bodyAt 34) (fun v g₀ s₀ k g s => v = .bool true ∧ ∃ a ρ, LB c (envL L fa q) (sdL q a) [] ρ [] g₀ s₀ k g s) := by
  have Y := wy_ok ((cellV ns 1 4).fmod 4) (((cellV ns 1 4).fdiv 4).fmod 2)
  have hc := cd0_lt (cellV ns 0 1)
  obtain ⟨t0, a0, Al⟩ := alone_ok (lot := cellV ns 2 9165243) Y hc
  have I := inv_run (lot := cellV ns 2 9165243) Y hc (t0 + 4)
  have h13 := Al.t
  have hlen : ∀ k < 4, ((runS (w0N ns) (w1N ns) (cellV ns 2 9165243) (cd0 (cellV ns 0 1)) (t0 + 4)).mv k).length ≤ 29 := fun k hk => Nat.le_trans (I.len k hk) (by lia)
  have hgap : ∀ k < 4, ((runS (w0N ns) (w1N ns) (cellV ns 2 9165243) (cd0 (cellV ns 0 1)) (t0 + 4)).mv k).length ≤ ((runS (w0N ns) (w1N ns) (cellV ns 2 9165243) (cd0 (cellV ns 0 1)) (t0 + 4)).mv ((k + 3) % 4)).length + 1 := fun k hk => by
    have g := I.gap k hk
    have : eg (runS (way0 ((cellV ns 1 4).fmod 4)) (way1 (((cellV ns 1 4).fdiv 4).fmod 2)) (cellV ns 2 9165243) (cd0 (cellV ns 0 1)) (t0 + 4)).c k ≤ 1 := by unfold eg; split <;> lia
    exact Nat.le_trans g (Nat.add_le_add_left this _)
  obtain ⟨s1, s2, s3⟩ := seenD_lay (w0N ns) (w1N ns) (cellV ns 2 9165243) (cd0 (cellV ns 0 1)) (t0 + 5)
  rw [law_eq]
  refine xr_cons _ (law0 W r hl) (xr_cons _ (law1 W r hl) (xr_cons _ (law2 W r hl) (xr_cons _ (law3 W r) (xr_cons _ (law4 W r) (xr_cons _ (law5 r) (xr_cons _ (law6 W r) (xr_cons _ (law7 W) (xr_case fun ab => xr_cons _ (law8 W r) (xr_case fun a => xr_phi fun hab => ?_)))))))))
  subst hab
  refine xr_cons _ law9 (xr_cons _ law10 (xr_case fun sn => xr_cons _ law11 (xr_case fun ad => ?_)))
  refine xr_cons _ (law12 (a := ⟨a.am, a.ab, ad, sn, a.m, a.z⟩) W Y r hA hc Al) ?_
  refine xr_subg (P := LB c (envL L fa q) (sdL q ⟨a.am, a.ab, ad, sn, a.m, a.z⟩) [] (rhoE (seenD (w0N ns) (w1N ns) (cellV ns 2 9165243) (cd0 (cellV ns 0 1)) (t0 + 5)) (runS (w0N ns) (w1N ns) (cellV ns 2 9165243) (cd0 (cellV ns 0 1)) (t0 + 4)).mv) []) ?_ fun g₀ s₀ k g s F => ⟨_, F.release lendsE⟩
  exact xr_cons _ (law13 r s1 s2 s3) (xr_cons _ (law14 W r hlen I.dot hgap) law15R)
end Mine
end
/-! ## E37 -/
section
open PySem PySem.W PySem.Calls PyProof.Rows
set_option maxHeartbeats 1000000
set_option maxRecDepth 100000
namespace Mine
section
variable {M : Model} {A : Around} {E : Value → Shared → Prop} {s : Shared}
/-- a frame of cells, one local name bound: a token is spent -/
theorem newEnv1 {scope : Scope} {globals : Addr} {x : Str} {v : Value} {qual : Str} {func : Option Addr} {code : Value} {builtins : Addr} {Q : Env → Shared → Prop}
    (hk : scope.kind = .function) (hl : scope.names.lookup x = some .local)
    (hQ : ∀ env, env = newEnv scope s.heap.objs.size globals (cellsFrom (s.heap.objs.size + 1) scope.names []) qual func code none builtins →
      ∀ s', 1 ≤ s'.toks → InCallC s env.locals (bindL env.kindOf [(x, v)] fun _ => none) env.cells (bindC env.kindOf [(x, v)] fun _ => none) s' → Q env s') :
    wpAny M A (newFunctionEnv scope globals [] [(x, v)] qual func code none builtins) Q E s := by
  simp only [newFunctionEnv, Option.isSome_none, Bool.false_eq_true, if_false]
  refine wpAny_bind (wpAny_alloc ?_)
  refine wpAny_bind (wpAny_layCells _ (fun name kind cells => by cases hkc : kind == NameKind.cell <;> simp [hkc]) _ _ _ _ ?_)
  have ok := cellsFrom_ok scope.names (s.heap.push { cls := .type "frame", data := .dict #[] }) (s.heap.objs.size + 1) [] ⟨fun _ _ hm => (nomatch hm), List.Pairwise.nil⟩ (by rw [Heap.size_push]; exact Nat.le_refl _)
  rw [Heap.size_push] at ok
  rw [show ({ s with heap := s.heap.push { cls := .type "frame", data := .dict #[] } } : Shared).heap.objs.size = s.heap.objs.size + 1 from Heap.size_push ..]
  have I : InCallC s s.heap.objs.size (fun _ => none) (cellsFrom (s.heap.objs.size + 1) scope.names []) (fun _ => none) { s with heap := pushCells (s.heap.push { cls := .type "frame", data := .dict #[] }) scope.names } :=
    ⟨⟨⟨_, _, rfl⟩, (Heap.Ns.new s.heap (.type "frame")).keeps (pushCells_keeps _ _), fun b o e => pushCells_keeps _ _ b o (Heap.get?_push_of_some _ e), Nat.le_refl _⟩,
      fun n c hc => (ok.empty n c (mem_of_lookup hc)).1, ok.apart, fun n c hm => (ok.empty n c hm).2⟩
  rw [List.forIn_cons]
  refine wpAny_bind (wpAny_bind ?_)
  show wpAny M A (storeName (newEnv scope s.heap.objs.size globals (cellsFrom (s.heap.objs.size + 1) scope.names []) qual func code none builtins) x v >>= fun _ => pure (ForInStep.yield PUnit.unit)) _ _ _
  refine wpAny_bind (wpAny_storeName_local (env := newEnv scope s.heap.objs.size globals (cellsFrom (s.heap.objs.size + 1) scope.names []) qual func code none builtins) hl I.toInCall.ns (fun h' hn' hs' => wpAny_pure ?_) (by
    show (scope.kind == .class || (scope.kind == .module && _)) = false
    rw [hk]; rfl))
  show wpAny M A (forIn [] PUnit.unit _) _ _ _
  rw [List.forIn_nil]
  refine wpAny_pure (wpAny_pure (hQ _ rfl _ (Nat.succ_le_succ (Nat.zero_le _)) ?_))
  have e1 : (newEnv scope s.heap.objs.size globals (cellsFrom (s.heap.objs.size + 1) scope.names []) qual func code none builtins).kindOf x = some .local := hl
  unfold bindL bindC
  rw [if_pos e1, if_pos e1]
  refine ⟨⟨⟨_, _, rfl⟩, hn', fun b o e => hs'.extBut b o (Nat.ne_of_lt (Heap.lt_size e)) (I.toInCall.keep b o e), Nat.le_refl _⟩, fun k c' hc => ?_, I.apart, I.above⟩
  exact (I.cell k c' hc).sameBut hs' (Nat.ne_of_gt (I.above k c' (PySem.mem_of_lookup hc)))
end
theorem law_bind : ∀ fd : FuncData, fd.params = argsAt 34 → fd.defaults = .none → ∀ vs : List Value, vs.length = [Str.ofString "script"].length → bindArgs fd ⟨vs, []⟩ = pure ([Str.ofString "script"].zip vs) := by
  exact bind_via fun fd => vs1 fun _ => rfl
/-- law is called: its frame, its code told -/
theorem law_frm {c : Cx} {fa : Addr} {fd : FuncData} {o : Obj} {ds : List PyData} {A : Around} {g : Heap} {s : Shared} {vs : List Value} {Q E : Value → Shared → Prop} {n : Nat} (ho : c.g0.get? fa = some o) (hdat : o.data = .func fd) (hco : c.g0.CodeRec fd.code fd.qualname) (lim : c.g0.NoLimit) (hclo : fd.closure = []) (hgl : fd.globals = mainGlobals) (hbi : fd.builtins = builtinsNs)
    (h1 : fd.body = .stmts (bodyAt 34)) (h2 : fd.scope = scopeAt 34) (h3 : fd.params = argsAt 34) (h4 : fd.defaults = .none) (h5 : fd.code = .ref 271) (hlen : ds.length = 1)
    (hr : Rm (n + 1) A) (hg : c.g0.StaysIn g) (k : g.StaysIn s.heap) (r : RdA g vs ds)
    (h : ∀ s₁, Frm c g s ({} : Heap) (envL s.heap.objs.size fa fd.qualname) [] ([Str.ofString "script"].zip ds) g s₁ → Rm n (A.deeper (envL s.heap.objs.size fa fd.qualname)) →
      wpAny (model c.prog c.w) (A.deeper (envL s.heap.objs.size fa fd.qualname)) (execs (bodyAt 34) (envL s.heap.objs.size fa fd.qualname)) (fun f s' => Q (match f with | .ret v => v | _ => .none) s')
        (fun e s' => wpAny (model c.prog c.w) (A.deeper (envL s.heap.objs.size fa fd.qualname)) (leaving (envL s.heap.objs.size fa fd.qualname) e) (fun _ s'' => E e s'') (fun e' s'' => E e' s'') s') s₁) : wpAny (model c.prog c.w) A (call (.ref fa) vs) Q E s := by
  have st := stays_trans hg k
  have hvl : vs.length = [Str.ofString "script"].length := by rw [r.length, hlen]; rfl
  have hkind := kinds_of (i := 34) (ns := [Str.ofString "script"]) (by rfl)
  have e : callEnvC fd s.heap.objs.size fa = envL s.heap.objs.size fa fd.qualname := by unfold callEnvC envL envAt; rw [h2, hgl, hbi, h5]
  obtain ⟨v₀, rfl⟩ : ∃ v₀, vs = [v₀] := by
    match vs, hvl with
    | [v₀], _ => exact ⟨v₀, rfl⟩
  refine wpAny_call (codeAny_call_function hr.room (st _ _ ho) hdat (by rw [h2]; rfl) (by rw [h2]; rfl) h1 (hco.keeps st) ?_)
  rw [law_bind fd h3 h4 _ hvl, hclo]
  refine wpAny_pure (newEnv1 (by rw [h2]; rfl) (by rw [h2]; rfl) fun env he s₁ tk₁ I => ?_)
  subst he
  refine ⟨(lim.keeps st).keeps I.toInCall.keep, codeAny_func ?_⟩
  have I : InCallC s (callEnvC fd s.heap.objs.size fa).locals (bindL (callEnvC fd s.heap.objs.size fa).kindOf ([Str.ofString "script"].zip [v₀]) fun _ => none) (callEnvC fd s.heap.objs.size fa).cells (bindC (callEnvC fd s.heap.objs.size fa).kindOf ([Str.ofString "script"].zip [v₀]) fun _ => none) s₁ := I
  have e' : newEnv fd.scope s.heap.objs.size fd.globals (cellsFrom (s.heap.objs.size + 1) fd.scope.names []) (fd.qualname ++ ".<locals>.") (some fa) fd.code none fd.builtins = envL s.heap.objs.size fa fd.qualname := e
  rw [e']
  · rw [e] at I
    have names := zip_names [Str.ofString "script"] [v₀] hvl
    have F : Frm c g s ({} : Heap) (envL s.heap.objs.size fa fd.qualname) [] ([Str.ofString "script"].zip ds) g s₁ := by
      refine ⟨rfl, rfl, rfl, hg, stays_refl _, stays_trans k I.toInCall.keep, fun a o e => .inl e, ?_, (fun _ _ e => (nomatch e)), rfl, (fun _ _ _ => rfl), (fun y a e => ?_), (fun _ => .inr rfl), tk₁, _, _, I, (fun _ _ e => nomatch e), fun y e he => ?_⟩
      · cases q : g.get? (envL s.heap.objs.size fa fd.qualname).locals with
        | none => rfl
        | some o => exact absurd (Heap.lt_size (k _ _ q)) (Nat.not_lt.mpr I.toInCall.fresh)
      · cases q : g.get? a with
        | none => rfl
        | some o => exact absurd (Heap.lt_size (k _ _ q)) (Nat.not_lt.mpr (Nat.le_trans I.toInCall.fresh (Nat.le_of_lt (I.above y a (PySem.mem_of_lookup e)))))
      · obtain ⟨v, hv, rv⟩ := zip_lookup r he
        refine ⟨v, rv, ?_⟩
        have hy : y ∈ [Str.ofString "script"] := (List.of_mem_zip (PySem.mem_of_lookup he)).1
        rcases hkind y hy with h | ⟨h, h'⟩
        · exact .inl ⟨h, (bindL_at h _ _ (by rw [names]; decide)).1 hv⟩
        · refine .inr ⟨h, Option.isSome_iff_exists.mp (h' _), (bindC_at ?_ _ _ (by rw [names]; decide)).1 hv⟩
          rw [show (envL s.heap.objs.size fa fd.qualname).kindOf y = some .cell from h]
          decide
    exact h s₁ F hr.deeper
theorem w_law {c : Cx} (W : Lw c) {fa : Addr} {fd : FuncData} {o : Obj} {ns : List Int} {A : Around} {s : Shared} {v : Value} {Q E : Value → Shared → Prop} (ho : c.g0.get? fa = some o) (hdat : o.data = .func fd) (hco : c.g0.CodeRec fd.code fd.qualname) (hclo : fd.closure = []) (hgl : fd.globals = mainGlobals) (hbi : fd.builtins = builtinsNs)
    (h1 : fd.body = .stmts (bodyAt 34)) (h2 : fd.scope = scopeAt 34) (h3 : fd.params = argsAt 34) (h4 : fd.defaults = .none) (h5 : fd.code = .ref 271)
    (hr : Rm 7 A) (hA : A.frames = some []) (hg0 : c.g0 = only s.heap fun a => a ≠ 269) (h269 : s.heap.get? 269 = some (tabObj #[])) (r : Rd c.g0 v (bareD (ns.map .int))) (hl : ns.length ≤ 64)
    (hQ : ∀ h' tk', (∀ a o, s.heap.get? a = some o → a ≠ 269 → h'.get? a = some o) → (h'.get? 269 = some (tabObj #[]) ∨ ∃ ps, h'.get? 269 = some (tabObj ps)) → Q (.bool true) { s with heap := h', toks := tk' }) : wpAny (model c.prog c.w) A (call (.ref fa) [v]) Q E s := by
  have k0 : c.g0.StaysIn s.heap := fun a o e => by rw [hg0] at e; exact (only_get.mp e).2
  refine law_frm (n := 6) (ds := [bareD (ns.map .int)]) ho hdat hco W.lim hclo hgl hbi h1 h2 h3 h4 h5 rfl hr (stays_refl _) k0 (.cons r .nil) fun s₁ F r6 => ?_
  obtain ⟨o1, o2, o3⟩ := frm_old F h269
  have Fg := F.ghost (p := fun b => b ≠ 269)
  have z0 : ({ s with heap := only s.heap fun b => b ≠ 269 } : Shared).heap.get? 269 = none := by
    cases q : (only s.heap fun b => b ≠ 269).get? 269 with
    | none => rfl
    | some o => exact absurd rfl (only_get.mp q).1
  have g269 : c.g0.get? 269 = none := by rw [hg0]; exact z0
  have F0 : LB c (envL s.heap.objs.size fa fd.qualname) (sd0 fd.qualname) [] (P0 ns) [] c.g0 { s with heap := only s.heap fun b => b ≠ 269 } {} c.g0 s₁ :=
    ⟨⟨Fg, fun _ h => (nomatch h), List.nodup_nil⟩, z0, rfl, g269, fun _ h => (nomatch h), o1, o2, _, o3, .inl rfl, trivial⟩
  refine law_body W r6 (Around.frames_deeper hA) hl _ _ _ _ s₁ _ _ F0 fun v g' s' ⟨hv, a, ρ, F'⟩ => ?_
  subst hv
  have hGr := F'.fo.frm.gr
  obtain ⟨h', tk', hs⟩ := hGr.rest
  have hh : s' = { s with heap := h', toks := tk' } := hs
  obtain ⟨oT, eT, hT, _⟩ := F'.at_
  have eT : s'.heap.get? 269 = some oT := eT
  have hk : ∀ a o, s.heap.get? a = some o → a ≠ 269 → s'.heap.get? a = some o := fun a o e hne => hGr.ss a o ((only_get (h := s.heap) (p := fun b => b ≠ 269)).mpr ⟨hne, e⟩)
  subst hh
  refine hQ h' tk' hk ?_
  rcases hT with rfl | ⟨c', rfl, _⟩
  · exact .inl eT
  · exact .inr ⟨_, eT⟩
end Mine
end
/-! ## E38 -/
section
open PySem PySem.W PySem.Calls PyProof.Rows
set_option maxHeartbeats 2000000
set_option maxRecDepth 100000
namespace Mine
theorem k_nm {c : Cx} (hR : PySem.Challenge.rw_jc0014_01 = PySem.Challenge.rw_jc0014_01) (B : Bs c) (X : (Kh c.w.params).In c.g0) : Nm c :=
  ⟨b_range hR B X, b_len hR B X, b_sum hR B X, b_sorted hR B X, b_isinstance hR B X, b_list hR B X, b_tuple hR B X, b_int hR B X⟩
theorem k_big {c : Cx} (B : Bs c) : Big c := by
  obtain ⟨mg, o, es, ep, ho, _⟩ := B.ns
  exact ⟨mainGlobals, o, by decide, ho⟩
theorem k_misc {c : Cx} (hR : PySem.Challenge.rw_jc0014_01 = PySem.Challenge.rw_jc0014_01) (B : Bs c) (X : (Kh c.w.params).In c.g0) : keepIn (Kh c.w.params) (.ref 191) = true ∧ GN c (Str.ofString "TupleComp") (.ref 191) ∧ codeHdIn (Kh c.w.params) 271 269 = true := by
  revert hR X; k_fill; intro hR X
  exact ⟨by k_is, gn_of B (by k_is), by kernel_rfl⟩
theorem ns_none_of {K : Frag} {h : Heap} {mg : Str → Option Value} {n : Str} {a : Addr} (X : K.In h) (G : h.Ns a mg) (e : nsIn K a n = some none) : mg n = none := by
  obtain ⟨o, es, ep, ho, hd, _, hf⟩ := G
  unfold nsIn at e
  split at e
  · rename_i c d es' n' sl q
    have := X _ _ q
    rw [ho] at this
    cases this
    cases hd
    split at e
    · cases e
    · rename_i he
      rw [← hf]
      unfold nsFind findBy
      rw [← Array.find?_toList, he]
      rfl
  · cases e
theorem k_booked {c : Cx} (hR : PySem.Challenge.rw_jc0014_01 = PySem.Challenge.rw_jc0014_01) (X : (Kh c.w.params).In c.g0) (hcs : ∃ mc, c.g0.Ns cStatics mc) : NoneBooked c.g0 := by
  obtain ⟨mc, hm⟩ := hcs
  refine ⟨mc, hm, ?_⟩
  revert hR X; k_fill; intro hR X
  exact ns_none_of X hm (by k_is)
theorem k_law {c : Cx} (hR : PySem.Challenge.rw_jc0014_01 = PySem.Challenge.rw_jc0014_01) (X : (Kh c.w.params).In c.g0) : ∃ o fd, c.g0.get? 272 = some o ∧ o.data = .func fd ∧ c.g0.CodeRec fd.code fd.qualname ∧ fd.closure = [] ∧ fd.globals = mainGlobals ∧ fd.builtins = builtinsNs ∧ fd.body = .stmts (bodyAt 34) ∧ fd.scope = scopeAt 34 ∧ fd.params = argsAt 34 ∧ fd.defaults = .none ∧ fd.code = .ref 271 := by
  revert hR X; k_fill; intro hR X
  exact ⟨_, _, X _ _ (by k_is), rfl, codeRec_of X (by k_is), rfl, rfl, rfl, rfl, rfl, rfl, rfl, rfl⟩
theorem k_name {K : Frag} {h : Heap} {mg : Str → Option Value} (hR : PySem.Challenge.rw_jc0014_01 = PySem.Challenge.rw_jc0014_01) (w : World) (X : (Kh w.params).In h) (hm : h.Ns mainGlobals mg) : mg (Str.ofString "law") = some (.ref 272) := by
  revert hR X; k_fill; intro hR X
  exact mg_of X hm (by k_is)
theorem k_no269 (hR : PySem.Challenge.rw_jc0014_01 = PySem.Challenge.rw_jc0014_01) (w : World) : (Kh w.params).lookup 269 = none := by
  revert hR; k_fill; intro hR
  kernel_rfl
theorem lw_of {c : Cx} (hR : PySem.Challenge.rw_jc0014_01 = PySem.Challenge.rw_jc0014_01) (B : Bs c) (X : (Kh c.w.params).In c.g0) (hcs : ∃ mc, c.g0.Ns cStatics mc) (top : ∃ mg, c.g0.Ns mainGlobals mg ∧ c.g0.BuiltinsAt mg 269) : Lw c := by
  obtain ⟨m1, m2, m3⟩ := k_misc hR B X
  obtain ⟨T, M⟩ := m_cmp hR B X
  exact ⟨k_nm hR B X, k_exc hR B X, k_quote hR B X, k_big B, k_booked hR X hcs, ⟨top, codeHd_of_K X m3⟩, B.lim, T, M, m1, m2, d_lt hR B X, d_le hR B X, d_eq hR B X, d_ne hR B X, d_sub hR B X, d_countOf hR B X, d_ifloordiv hR B X, d_imod hR B X, d_func_std_string hR B X, d_add_func_stats hR B X, d_add_callers hR B X, d_count_calls hR B X, d__law_cell hR B X, d__law_mail hR B X, d__law_due hR B X, d__law_asked hR B X, d__law_free hR B X, d__law_told hR B X, d__law_movers hR B X, d__law_entry hR B X, d_quotedata hR B X⟩
end Mine
end
/-! ## E39 -/
section
open PySem PySem.W PySem.Calls PyProof.Rows
set_option maxHeartbeats 2000000
set_option maxRecDepth 100000
namespace Mine
theorem ints_rda {g : Heap} : ∀ {vs : List Value} {ns : List Int}, IntsAre vs ns → RdA g vs (ns.map PyData.int)
  | _, _, .nil => .nil
  | _, _, .cons n t h => .cons (.int n t) (ints_rda h)
theorem ns_only {h : Heap} {a : Addr} {m : Str → Option Value} (n : h.Ns a m) (ha : a ≠ 269) : (only h fun a => a ≠ 269).Ns a m := by
  obtain ⟨o, es, ep, ho, r⟩ := n
  exact ⟨o, es, ep, only_get.mpr ⟨ha, ho⟩, r⟩
theorem fin_law (hR : PySem.Challenge.rw_jc0014_01 = PySem.Challenge.rw_jc0014_01) {w : World} {s₀ s₁ : Shared} {mg mb : Str → Option Value} {p : Program} {loose : List Str} {mean : ExcName → Option Value} {fa l : Addr} {vs : List Value} {ns : List Int} (KX : (Kh w.params).In s₁.heap) (h269 : s₁.heap.get? 269 = some (tabObj #[])) (T : Top p loose mean mg mb s₁.heap)
    (hmg : mg (Str.ofString "law") = some (.ref fa)) (hg : s₁.gens = #[]) (hL : s₁.heap.IsList l vs.toArray) (hI : IntsAre vs ns) (hl : ¬ (63 : Int) < ns.length) :
    wpAny (model PySem.Challenge.rw_jc0014_01.row.prog w) callerA (call (.ref fa) [.ref l])
      (fun v s' => GoodWG PySem.Challenge.rw_jc0014_01.row.claim (classAt s₀.heap) (ExcName.means s₀.heap) [ofPy (PyData.list (ns.map PyData.int))] s₁ (.ok (.ret v)) s')
      (fun e s' => GoodWG PySem.Challenge.rw_jc0014_01.row.claim (classAt s₀.heap) (ExcName.means s₀.heap) [ofPy (PyData.list (ns.map PyData.int))] s₁ (.error e) s') s₁ := by
  have h272 := k_name (K := Kh w.params) hR w KX T.g
  rw [hmg] at h272
  cases h272
  obtain ⟨c, hc⟩ : ∃ c : Cx, c = ⟨PySem.Challenge.rw_jc0014_01.row.prog, w, only s₁.heap fun a => a ≠ 269⟩ := ⟨_, rfl⟩
  have hc0 : c.g0 = only s₁.heap fun a => a ≠ 269 := by rw [hc]
  have hcp : c.prog = PySem.Challenge.rw_jc0014_01.row.prog := by rw [hc]
  have hcw : c.w = w := by rw [hc]
  have X : (Kh c.w.params).In c.g0 := by
    rw [hcw, hc0]
    exact fun a o e => only_get.mpr ⟨(fun z => by subst z; rw [k_no269 hR w] at e; cases e), KX a o e⟩
  have B : Bs c := by
    refine ⟨hcp, X, ⟨mg, by rw [hc0]; exact ns_only T.g (by decide)⟩, ⟨mb, by rw [hc0]; exact ns_only T.b (by decide), T.builtins⟩, ?_⟩
    obtain ⟨mc, n, e⟩ := T.nolimit
    exact ⟨mc, by rw [hc0]; exact ns_only n (by decide), e⟩
  have hcs : ∃ mc, c.g0.Ns cStatics mc := by
    obtain ⟨mc, n, e⟩ := T.nolimit
    exact ⟨mc, by rw [hc0]; exact ns_only n (by decide)⟩
  have top : ∃ mg, c.g0.Ns mainGlobals mg ∧ c.g0.BuiltinsAt mg 269 := by
    obtain ⟨bm, ob, b1, b2, b3, b4, b5, b6⟩ := T.bmain
    have n1 : bm ≠ mainGlobals := fun q => by
      obtain ⟨o, es, ep, e, hd, _⟩ := T.g
      rw [q, e] at b3; cases b3; rw [hd] at b6; cases b6
    have n2 : bm ≠ 269 := fun q => by
      rw [q, h269] at b3; cases b3; cases b4
    exact ⟨mg, by rw [hc0]; exact ns_only T.g (by decide), bm, ob, b1, b2, n1, n2, by rw [hc0]; exact only_get.mpr ⟨n2, b3⟩, b4, b5, b6⟩
  have W := lw_of hR B X hcs top
  obtain ⟨o, fd, f1, f2, f3, f4, f5, f6, f7, f8, f9, f10, f11⟩ := k_law hR X
  have rd : Rd c.g0 (.ref l) (bareD (ns.map .int)) := by
    obtain ⟨ol, e1, e2, n, e3⟩ := hL
    have hne : l ≠ 269 := fun z => by rw [z, h269] at e1; cases e1; cases e2
    exact .bare (by rw [hc0]; exact only_get.mpr ⟨hne, e1⟩) e2 e3 (by simpa using ints_rda hI)
  have hcd : CodeHd s₁.heap 271 269 := (W.L.cd).keeps (by rw [hc0]; exact fun a o e => (only_get.mp e).2)
  have r7 : Rm 7 callerA := ⟨rfl, by show (1 + claimMargin) + 7 < 900; decide +kernel, by decide +kernel⟩
  rw [← hcp, ← hcw]
  refine w_law W f1 f2 f3 f4 f5 f6 f7 f8 f9 f10 f11 r7 rfl hc0 h269 rd (by lia) fun h' tk' hk ht => ?_
  have hold : OldK s₁.heap h' := by
    have tt : isCodeTable s₁.heap 269 := by
      obtain ⟨oc, vs', _, _, _, _, _, _, _, e1, e2, e3, e4, _⟩ := hcd
      exact ⟨271, oc, vs', e1, e2, e3, e4⟩
    refine ⟨fun b ob e => ?_, fun b ob e => ?_⟩
    · by_cases hb : b = 269
      · subst hb
        rw [h269] at e
        cases e
        rcases ht with h | ⟨ps, h⟩
        · exact .inl h
        · exact .inr (.inl ⟨tt, rfl, #[], ps, rfl, by simpa using h⟩)
      · exact .inl (hk b ob e hb)
    · by_cases hb : b = 269
      · subst hb
        rcases ht with h | ⟨ps, h⟩
        · exact ⟨_, h⟩
        · exact ⟨_, h⟩
      · exact ⟨ob, hk b ob e hb⟩
  refine ⟨.inl ⟨.bool true, .bool true, [], rfl, fun _ => ?_, .bool true, ?_, fun _ => ⟨List.nodup_nil, fun _ h => nomatch h⟩⟩, hold, rfl, .of_eq hg⟩
  · rfl
  · exact postW_of rfl (by first | rfl | kernel_rfl | exact v_eq v_res v_lit | simp) rfl
end Mine
end
set_option maxHeartbeats 2000000
set_option maxRecDepth 100000
theorem PySem.Challenge.cw_jc0014_01_holds : PySem.Challenge.rw_jc0014_01.Holds := by
  refine holds_law (by kernel_rfl) fun said => ?_
  refine holds_open (q := Mine.Vw) (loose := Mine.Ls) (Xt := fun s => xlAt Mine.Vw [] s && recOk [] s) (XP := XL Mine.Vw []) (Yf := Mine.Hk.obs) (Ya := Mine.Hk.val) (YP := Mine.Hk.says) (N := 2151) Mine.hd0 Mine.Hk.of Mine.Hk.keeps (fun s e => xl_of s (Bool.and_eq_true_iff.mp e).1) XL.keeps (by rfl) (by rfl) (by rfl) (fun s e => recFacts_of (Bool.and_eq_true_iff.mp e).2) (by rfl) (by first | assumption | decide +kernel) (by decide +kernel) ⟨rfl, rfl, rfl, rfl, rfl, by decide +kernel⟩ ?hw ?hc
  case hw => w_witness2
  case hc =>
    intro w s₀ s₁ mg mb G Y fa o pm cd doc dV kV ho hd' hcd hD hmg hg args vals as hpre hlay hrd hwl hlo
    have KX : (Mine.Kh w.params).In s₁.heap := km_in_of Y
    have h269 := km_tabs_of Y
    refine Ground.open G ?_
    intro T B D TE TW
    wrow_args hpre hlay hrd hwl hlo
    exact Mine.fin_law rfl KX (h269 269 (.head _)) T hmg hg (by assumption) (by assumption) (by assumption)
