import PyProof.Rows.All
import OpenK.KLine
import KE.KNestM
import KE.KRevSl
import KE.KSortAsk
import KE.KSortKey
import OpenK.KOwn
import KE.KRevIter
import Lean
import PySem.Challenge.RW_sw0078_02
open PySem PySem.W PyProof.Rows PySem.Calls
set_option Elab.async false
set_option linter.unusedVariables false
set_option linter.unusedSimpArgs false
namespace Mine
section
set_option maxRecDepth 100000
set_option maxHeartbeats 8000000
noncomputable abbrev PW : Program := PySem.Challenge.pw_sw0078_02
noncomputable def bodyAt (i : Nat) : List Stmt := match PW.main.body[i]? with
  | some (.FunctionDef _ _ b _ _ _ _ _ _ _) => b
  | _ => []
noncomputable def scopeAt (i : Nat) : Scope := match PW.main.body[i]? with
  | some (.FunctionDef _ _ _ _ _ _ s _ _ _) => s
  | _ => default
noncomputable def paramsAt (i : Nat) : Arguments := match PW.main.body[i]? with
  | some (.FunctionDef _ a _ _ _ _ _ _ _ _) => a
  | _ => default
noncomputable def clsBody : List Stmt := match PW.main.body[(20 : Nat)]? with
  | some (.ClassDef _ _ _ b _ _ _ _ _ _ _) => b
  | _ => []
noncomputable def mBody (j : Nat) : List Stmt := match clsBody[j]? with
  | some (.FunctionDef _ _ b _ _ _ _ _ _ _) => b
  | _ => []
noncomputable def mScope (j : Nat) : Scope := match clsBody[j]? with
  | some (.FunctionDef _ _ _ _ _ _ s _ _ _) => s
  | _ => default
noncomputable def mParams (j : Nat) : Arguments := match clsBody[j]? with
  | some (.FunctionDef _ a _ _ _ _ _ _ _ _) => a
  | _ => default
noncomputable def oDict (name : Str) (o : Obj) : Option (Option Value) := match o.data with
  | .dict _ _ => lookIn name o
  | _ => none
/-- the heap's written part, as the law finds it -/
noncomputable def heapK (P : Params) : Frag := [
(3, { cls := Value.type "dict", data := Data.dict #[{ hash := PyData.keyHash P (Str.ofString "__name__"), key := Value.str (Str.ofString "__name__") 165, val := Value.str (Str.ofString "law_sw0078_02") 586 }, { hash := PyData.keyHash P (Str.ofString "__doc__"), key := Value.str (Str.ofString "__doc__") 166, val := Value.none }, { hash := PyData.keyHash P (Str.ofString "__package__"), key := Value.str (Str.ofString "__package__") 167, val := Value.none }, { hash := PyData.keyHash P (Str.ofString "__loader__"), key := Value.str (Str.ofString "__loader__") 168, val := Value.builtin "__main__.__loader__#opaque" }, { hash := PyData.keyHash P (Str.ofString "__spec__"), key := Value.str (Str.ofString "__spec__") 169, val := Value.none }, { hash := PyData.keyHash P (Str.ofString "__annotations__"), key := Value.str (Str.ofString "__annotations__") 170, val := Value.ref 6 }, { hash := PyData.keyHash P (Str.ofString "__builtins__"), key := Value.str (Str.ofString "__builtins__") 171, val := Value.ref 4 }, { hash := PyData.keyHash P (Str.ofString "__file__"), key := Value.str (Str.ofString "__file__") 173, val := Value.str (Str.ofString "/claim/cut.py") 172 }, { hash := PyData.keyHash P (Str.ofString "__cached__"), key := Value.str (Str.ofString "__cached__") 174, val := Value.none }, { hash := PyData.keyHash P (Str.ofString "_sre"), key := Value.str (Str.ofString "_sre") 275, val := Value.ref 12 }, { hash := PyData.keyHash P (Str.ofString "_wall"), key := Value.str (Str.ofString "_wall") 288, val := Value.ref 38 }, { hash := PyData.keyHash P (Str.ofString "_DIV_LIMIT"), key := Value.str (Str.ofString "_DIV_LIMIT") 292, val := Value.int 4000 291 }, { hash := PyData.keyHash P (Str.ofString "_div2n1n"), key := Value.str (Str.ofString "_div2n1n") 309, val := Value.ref 45 }, { hash := PyData.keyHash P (Str.ofString "_div3n2n"), key := Value.str (Str.ofString "_div3n2n") 323, val := Value.ref 52 }, { hash := PyData.keyHash P (Str.ofString "_int2digits"), key := Value.str (Str.ofString "_int2digits") 334, val := Value.ref 59 }, { hash := PyData.keyHash P (Str.ofString "_digits2int"), key := Value.str (Str.ofString "_digits2int") 345, val := Value.ref 66 }, { hash := PyData.keyHash P (Str.ofString "_divmod_pos"), key := Value.str (Str.ofString "_divmod_pos") 360, val := Value.ref 73 }, { hash := PyData.keyHash P (Str.ofString "int_divmod"), key := Value.str (Str.ofString "int_divmod") 370, val := Value.ref 80 }, { hash := PyData.keyHash P (Str.ofString "insort_right"), key := Value.str (Str.ofString "insort_right") 385, val := Value.ref 89 }, { hash := PyData.keyHash P (Str.ofString "bisect_right"), key := Value.str (Str.ofString "bisect_right") 399, val := Value.ref 98 }, { hash := PyData.keyHash P (Str.ofString "bisect_left"), key := Value.str (Str.ofString "bisect_left") 413, val := Value.ref 107 }, { hash := PyData.keyHash P (Str.ofString "_twin_re_1"), key := Value.str (Str.ofString "_twin_re_1") 431, val := Value.ref 112 }, { hash := PyData.keyHash P (Str.ofString "_twin_re_2"), key := Value.str (Str.ofString "_twin_re_2") 473, val := Value.ref 117 }, { hash := PyData.keyHash P (Str.ofString "CRLF"), key := Value.str (Str.ofString "CRLF") 475, val := Value.str (Str.ofString "\x0d\n") 474 }, { hash := PyData.keyHash P (Str.ofString "quotedata"), key := Value.str (Str.ofString "quotedata") 482, val := Value.ref 124 }, { hash := PyData.keyHash P (Str.ofString "Whitespace"), key := Value.str (Str.ofString "Whitespace") 585, val := Value.ref 186 }, { hash := PyData.keyHash P (Str.ofString "_law_words"), key := Value.str (Str.ofString "_law_words") 593, val := Value.ref 195 }, { hash := PyData.keyHash P (Str.ofString "_law_rings"), key := Value.str (Str.ofString "_law_rings") 605, val := Value.ref 202 }, { hash := PyData.keyHash P (Str.ofString "_law_divided"), key := Value.str (Str.ofString "_law_divided") 616, val := Value.ref 209 }, { hash := PyData.keyHash P (Str.ofString "_law_product"), key := Value.str (Str.ofString "_law_product") 626, val := Value.ref 216 }, { hash := PyData.keyHash P (Str.ofString "law"), key := Value.str (Str.ofString "law") 632, val := Value.ref 221 }] 31 }),
(32, { cls := Value.type "tuple", data := Data.seq #[] }),
(34, { cls := Value.type "tuple", data := Data.seq #[Value.str (Str.ofString "k") 285] }),
(35, { cls := Value.type "tuple", data := Data.seq #[] }),
(37, { cls := Value.type "code", data := Data.fields #[Value.str (Str.ofString "_wall") 282, Value.str (Str.ofString "_wall") 283, Value.str (Str.ofString "/claim/cut.py") 284, Value.int 2 0, Value.int 1 0, Value.int 0 0, Value.int 0 0, Value.int 3 0, Value.ref 32, Value.bool true, Value.int 276 0, Value.ref 33, Value.none, Value.ref 34, Value.ref 35, Value.ref 36, Value.int 286 0, Value.int 2 0, Value.str (Str.ofString "/claim/cut.py") 287] }),
(38, { cls := Value.type "function", data := Data.func { name := Str.ofString "_wall", qualname := Str.ofString "_wall", params := paramsAt 1, body := FuncBody.stmts (bodyAt 1), scope := scopeAt 1, globals := 3, closure := [], defaults := Value.none, kwdefaults := Value.none, pyModule := Value.str (Str.ofString "__main__") 164, code := Value.ref 37 } }),
(39, { cls := Value.type "tuple", data := Data.seq #[] }),
(41, { cls := Value.type "tuple", data := Data.seq #[Value.str (Str.ofString "a") 296, Value.str (Str.ofString "b") 297, Value.str (Str.ofString "n") 298, Value.str (Str.ofString "pad") 299, Value.str (Str.ofString "half_n") 300, Value.str (Str.ofString "mask") 301, Value.str (Str.ofString "b1") 302, Value.str (Str.ofString "b2") 303, Value.str (Str.ofString "q1") 304, Value.str (Str.ofString "r") 305, Value.str (Str.ofString "q2") 306] }),
(42, { cls := Value.type "tuple", data := Data.seq #[] }),
(44, { cls := Value.type "code", data := Data.fields #[Value.str (Str.ofString "_div2n1n") 293, Value.str (Str.ofString "_div2n1n") 294, Value.str (Str.ofString "/claim/cut.py") 295, Value.int 7 0, Value.int 3 0, Value.int 0 0, Value.int 0 0, Value.int 3 0, Value.ref 39, Value.bool true, Value.int 276 0, Value.ref 40, Value.none, Value.ref 41, Value.ref 42, Value.ref 43, Value.int 307 0, Value.int 7 0, Value.str (Str.ofString "/claim/cut.py") 308] }),
(45, { cls := Value.type "function", data := Data.func { name := Str.ofString "_div2n1n", qualname := Str.ofString "_div2n1n", params := paramsAt 4, body := FuncBody.stmts (bodyAt 4), scope := scopeAt 4, globals := 3, closure := [], defaults := Value.none, kwdefaults := Value.none, pyModule := Value.str (Str.ofString "cpy313._pylong") 289, code := Value.ref 44 } }),
(46, { cls := Value.type "tuple", data := Data.seq #[] }),
(48, { cls := Value.type "tuple", data := Data.seq #[Value.str (Str.ofString "a12") 313, Value.str (Str.ofString "a3") 314, Value.str (Str.ofString "b") 315, Value.str (Str.ofString "b1") 316, Value.str (Str.ofString "b2") 317, Value.str (Str.ofString "n") 318, Value.str (Str.ofString "q") 319, Value.str (Str.ofString "r") 320] }),
(49, { cls := Value.type "tuple", data := Data.seq #[] }),
(51, { cls := Value.type "code", data := Data.fields #[Value.str (Str.ofString "_div3n2n") 310, Value.str (Str.ofString "_div3n2n") 311, Value.str (Str.ofString "/claim/cut.py") 312, Value.int 23 0, Value.int 6 0, Value.int 0 0, Value.int 0 0, Value.int 3 0, Value.ref 46, Value.bool true, Value.int 276 0, Value.ref 47, Value.none, Value.ref 48, Value.ref 49, Value.ref 50, Value.int 321 0, Value.int 23 0, Value.str (Str.ofString "/claim/cut.py") 322] }),
(52, { cls := Value.type "function", data := Data.func { name := Str.ofString "_div3n2n", qualname := Str.ofString "_div3n2n", params := paramsAt 5, body := FuncBody.stmts (bodyAt 5), scope := scopeAt 5, globals := 3, closure := [], defaults := Value.none, kwdefaults := Value.none, pyModule := Value.str (Str.ofString "cpy313._pylong") 289, code := Value.ref 51 } }),
(53, { cls := Value.type "tuple", data := Data.seq #[] }),
(55, { cls := Value.type "tuple", data := Data.seq #[Value.str (Str.ofString "a") 327, Value.str (Str.ofString "n") 328] }),
(56, { cls := Value.type "tuple", data := Data.seq #[Value.str (Str.ofString "n") 329, Value.str (Str.ofString "a_digits") 330, Value.str (Str.ofString "inner") 331] }),
(58, { cls := Value.type "code", data := Data.fields #[Value.str (Str.ofString "_int2digits") 324, Value.str (Str.ofString "_int2digits") 325, Value.str (Str.ofString "/claim/cut.py") 326, Value.int 33 0, Value.int 2 0, Value.int 0 0, Value.int 0 0, Value.int 3 0, Value.ref 53, Value.bool true, Value.int 276 0, Value.ref 54, Value.none, Value.ref 55, Value.ref 56, Value.ref 57, Value.int 332 0, Value.int 33 0, Value.str (Str.ofString "/claim/cut.py") 333] }),
(59, { cls := Value.type "function", data := Data.func { name := Str.ofString "_int2digits", qualname := Str.ofString "_int2digits", params := paramsAt 6, body := FuncBody.stmts (bodyAt 6), scope := scopeAt 6, globals := 3, closure := [], defaults := Value.none, kwdefaults := Value.none, pyModule := Value.str (Str.ofString "cpy313._pylong") 289, code := Value.ref 58 } }),
(60, { cls := Value.type "tuple", data := Data.seq #[] }),
(62, { cls := Value.type "tuple", data := Data.seq #[Value.str (Str.ofString "digits") 338, Value.str (Str.ofString "n") 339] }),
(63, { cls := Value.type "tuple", data := Data.seq #[Value.str (Str.ofString "digits") 340, Value.str (Str.ofString "n") 341, Value.str (Str.ofString "inner") 342] }),
(65, { cls := Value.type "code", data := Data.fields #[Value.str (Str.ofString "_digits2int") 335, Value.str (Str.ofString "_digits2int") 336, Value.str (Str.ofString "/claim/cut.py") 337, Value.int 49 0, Value.int 2 0, Value.int 0 0, Value.int 0 0, Value.int 3 0, Value.ref 60, Value.bool true, Value.int 276 0, Value.ref 61, Value.none, Value.ref 62, Value.ref 63, Value.ref 64, Value.int 343 0, Value.int 49 0, Value.str (Str.ofString "/claim/cut.py") 344] }),
(66, { cls := Value.type "function", data := Data.func { name := Str.ofString "_digits2int", qualname := Str.ofString "_digits2int", params := paramsAt 7, body := FuncBody.stmts (bodyAt 7), scope := scopeAt 7, globals := 3, closure := [], defaults := Value.none, kwdefaults := Value.none, pyModule := Value.str (Str.ofString "cpy313._pylong") 289, code := Value.ref 65 } }),
(67, { cls := Value.type "tuple", data := Data.seq #[] }),
(69, { cls := Value.type "tuple", data := Data.seq #[Value.str (Str.ofString "a") 349, Value.str (Str.ofString "b") 350, Value.str (Str.ofString "n") 351, Value.str (Str.ofString "a_digits") 352, Value.str (Str.ofString "r") 353, Value.str (Str.ofString "q_digits") 354, Value.str (Str.ofString "a_digit") 355, Value.str (Str.ofString "q_digit") 356, Value.str (Str.ofString "q") 357] }),
(70, { cls := Value.type "tuple", data := Data.seq #[] }),
(72, { cls := Value.type "code", data := Data.fields #[Value.str (Str.ofString "_divmod_pos") 346, Value.str (Str.ofString "_divmod_pos") 347, Value.str (Str.ofString "/claim/cut.py") 348, Value.int 58 0, Value.int 2 0, Value.int 0 0, Value.int 0 0, Value.int 3 0, Value.ref 67, Value.bool true, Value.int 276 0, Value.ref 68, Value.none, Value.ref 69, Value.ref 70, Value.ref 71, Value.int 358 0, Value.int 58 0, Value.str (Str.ofString "/claim/cut.py") 359] }),
(73, { cls := Value.type "function", data := Data.func { name := Str.ofString "_divmod_pos", qualname := Str.ofString "_divmod_pos", params := paramsAt 8, body := FuncBody.stmts (bodyAt 8), scope := scopeAt 8, globals := 3, closure := [], defaults := Value.none, kwdefaults := Value.none, pyModule := Value.str (Str.ofString "cpy313._pylong") 289, code := Value.ref 72 } }),
(74, { cls := Value.type "tuple", data := Data.seq #[] }),
(76, { cls := Value.type "tuple", data := Data.seq #[Value.str (Str.ofString "a") 364, Value.str (Str.ofString "b") 365, Value.str (Str.ofString "q") 366, Value.str (Str.ofString "r") 367] }),
(77, { cls := Value.type "tuple", data := Data.seq #[] }),
(79, { cls := Value.type "code", data := Data.fields #[Value.str (Str.ofString "int_divmod") 361, Value.str (Str.ofString "int_divmod") 362, Value.str (Str.ofString "/claim/cut.py") 363, Value.int 69 0, Value.int 2 0, Value.int 0 0, Value.int 0 0, Value.int 3 0, Value.ref 74, Value.bool true, Value.int 276 0, Value.ref 75, Value.none, Value.ref 76, Value.ref 77, Value.ref 78, Value.int 368 0, Value.int 69 0, Value.str (Str.ofString "/claim/cut.py") 369] }),
(80, { cls := Value.type "function", data := Data.func { name := Str.ofString "int_divmod", qualname := Str.ofString "int_divmod", params := paramsAt 9, body := FuncBody.stmts (bodyAt 9), scope := scopeAt 9, globals := 3, closure := [], defaults := Value.none, kwdefaults := Value.none, pyModule := Value.str (Str.ofString "cpy313._pylong") 289, code := Value.ref 79 } }),
(81, { cls := Value.type "tuple", data := Data.seq #[Value.int 0 373, Value.none] }),
(82, { cls := Value.type "dict", data := Data.dict #[{ hash := PyData.keyHash P (Str.ofString "key"), key := Value.str (Str.ofString "key") 374, val := Value.none }] 1 }),
(83, { cls := Value.type "tuple", data := Data.seq #[] }),
(85, { cls := Value.type "tuple", data := Data.seq #[Value.str (Str.ofString "a") 378, Value.str (Str.ofString "x") 379, Value.str (Str.ofString "lo") 380, Value.str (Str.ofString "hi") 381, Value.str (Str.ofString "key") 382] }),
(86, { cls := Value.type "tuple", data := Data.seq #[] }),
(88, { cls := Value.type "code", data := Data.fields #[Value.str (Str.ofString "insort_right") 375, Value.str (Str.ofString "insort_right") 376, Value.str (Str.ofString "/claim/cut.py") 377, Value.int 81 0, Value.int 4 0, Value.int 0 0, Value.int 1 0, Value.int 3 0, Value.ref 83, Value.bool true, Value.int 276 0, Value.ref 84, Value.none, Value.ref 85, Value.ref 86, Value.ref 87, Value.int 383 0, Value.int 81 0, Value.str (Str.ofString "/claim/cut.py") 384] }),
(89, { cls := Value.type "function", data := Data.func { name := Str.ofString "insort_right", qualname := Str.ofString "insort_right", params := paramsAt 11, body := FuncBody.stmts (bodyAt 11), scope := scopeAt 11, globals := 3, closure := [], defaults := Value.ref 81, kwdefaults := Value.ref 82, pyModule := Value.str (Str.ofString "cpy313.bisect") 371, code := Value.ref 88 } }),
(90, { cls := Value.type "tuple", data := Data.seq #[Value.int 0 386, Value.none] }),
(91, { cls := Value.type "dict", data := Data.dict #[{ hash := PyData.keyHash P (Str.ofString "key"), key := Value.str (Str.ofString "key") 387, val := Value.none }] 1 }),
(92, { cls := Value.type "tuple", data := Data.seq #[] }),
(94, { cls := Value.type "tuple", data := Data.seq #[Value.str (Str.ofString "a") 391, Value.str (Str.ofString "x") 392, Value.str (Str.ofString "lo") 393, Value.str (Str.ofString "hi") 394, Value.str (Str.ofString "key") 395, Value.str (Str.ofString "mid") 396] }),
(95, { cls := Value.type "tuple", data := Data.seq #[] }),
(97, { cls := Value.type "code", data := Data.fields #[Value.str (Str.ofString "bisect_right") 388, Value.str (Str.ofString "bisect_right") 389, Value.str (Str.ofString "/claim/cut.py") 390, Value.int 87 0, Value.int 4 0, Value.int 0 0, Value.int 1 0, Value.int 3 0, Value.ref 92, Value.bool true, Value.int 276 0, Value.ref 93, Value.none, Value.ref 94, Value.ref 95, Value.ref 96, Value.int 397 0, Value.int 87 0, Value.str (Str.ofString "/claim/cut.py") 398] }),
(98, { cls := Value.type "function", data := Data.func { name := Str.ofString "bisect_right", qualname := Str.ofString "bisect_right", params := paramsAt 12, body := FuncBody.stmts (bodyAt 12), scope := scopeAt 12, globals := 3, closure := [], defaults := Value.ref 90, kwdefaults := Value.ref 91, pyModule := Value.str (Str.ofString "cpy313.bisect") 371, code := Value.ref 97 } }),
(99, { cls := Value.type "tuple", data := Data.seq #[Value.int 0 400, Value.none] }),
(100, { cls := Value.type "dict", data := Data.dict #[{ hash := PyData.keyHash P (Str.ofString "key"), key := Value.str (Str.ofString "key") 401, val := Value.none }] 1 }),
(101, { cls := Value.type "tuple", data := Data.seq #[] }),
(103, { cls := Value.type "tuple", data := Data.seq #[Value.str (Str.ofString "a") 405, Value.str (Str.ofString "x") 406, Value.str (Str.ofString "lo") 407, Value.str (Str.ofString "hi") 408, Value.str (Str.ofString "key") 409, Value.str (Str.ofString "mid") 410] }),
(104, { cls := Value.type "tuple", data := Data.seq #[] }),
(106, { cls := Value.type "code", data := Data.fields #[Value.str (Str.ofString "bisect_left") 402, Value.str (Str.ofString "bisect_left") 403, Value.str (Str.ofString "/claim/cut.py") 404, Value.int 107 0, Value.int 4 0, Value.int 0 0, Value.int 1 0, Value.int 3 0, Value.ref 101, Value.bool true, Value.int 276 0, Value.ref 102, Value.none, Value.ref 103, Value.ref 104, Value.ref 105, Value.int 411 0, Value.int 107 0, Value.str (Str.ofString "/claim/cut.py") 412] }),
(107, { cls := Value.type "function", data := Data.func { name := Str.ofString "bisect_left", qualname := Str.ofString "bisect_left", params := paramsAt 13, body := FuncBody.stmts (bodyAt 13), scope := scopeAt 13, globals := 3, closure := [], defaults := Value.ref 99, kwdefaults := Value.ref 100, pyModule := Value.str (Str.ofString "cpy313.bisect") 371, code := Value.ref 106 } }),
(111, { cls := Value.type "tuple", data := Data.seq #[Value.int 14 0, Value.int 4 0, Value.int 0 0, Value.int 1 0, Value.int 1 0, Value.int 6 0, Value.int 1 0, Value.int 16 0, Value.int 46 0, Value.int 1 0] }),
(112, { cls := Value.type "re.Pattern", data := Data.fields #[Value.str (Str.ofString "(?m)^\\.") 417, Value.int 40 430, Value.int 0 0, Value.none, Value.none, Value.ref 111, Value.int 0 0] }),
(116, { cls := Value.type "tuple", data := Data.seq #[Value.int 14 0, Value.int 9 0, Value.int 4 0, Value.int 1 0, Value.int 2 0, Value.int 16 0, Value.int 10 0, Value.int 16 0, Value.int 13 0, Value.int 0 0, Value.int 7 0, Value.int 7 0, Value.int 16 0, Value.int 13 0, Value.int 16 0, Value.int 10 0, Value.int 15 0, Value.int 18 0, Value.int 5 0, Value.int 16 0, Value.int 10 0, Value.int 15 0, Value.int 13 0, Value.int 11 0, Value.int 16 0, Value.int 13 0, Value.int 5 0, Value.int 5 0, Value.int 0 0, Value.int 16 0, Value.int 10 0, Value.int 1 0, Value.int 15 0, Value.int 2 0, Value.int 0 0, Value.int 1 0] }),
(117, { cls := Value.type "re.Pattern", data := Data.fields #[Value.str (Str.ofString "(?:\\r\\n|\\n|\\r(?!\\n))") 433, Value.int 32 472, Value.int 0 0, Value.none, Value.none, Value.ref 116, Value.int 0 0] }),
(118, { cls := Value.type "tuple", data := Data.seq #[] }),
(120, { cls := Value.type "tuple", data := Data.seq #[Value.str (Str.ofString "data") 479] }),
(121, { cls := Value.type "tuple", data := Data.seq #[] }),
(123, { cls := Value.type "code", data := Data.fields #[Value.str (Str.ofString "quotedata") 476, Value.str (Str.ofString "quotedata") 477, Value.str (Str.ofString "/claim/cut.py") 478, Value.int 131 0, Value.int 1 0, Value.int 0 0, Value.int 0 0, Value.int 3 0, Value.ref 118, Value.bool true, Value.int 276 0, Value.ref 119, Value.none, Value.ref 120, Value.ref 121, Value.ref 122, Value.int 480 0, Value.int 131 0, Value.str (Str.ofString "/claim/cut.py") 481] }),
(124, { cls := Value.type "function", data := Data.func { name := Str.ofString "quotedata", qualname := Str.ofString "quotedata", params := paramsAt 18, body := FuncBody.stmts (bodyAt 18), scope := scopeAt 18, globals := 3, closure := [], defaults := Value.none, kwdefaults := Value.none, pyModule := Value.str (Str.ofString "cpy313.smtplib") 414, code := Value.ref 123 } }),
(135, { cls := Value.type "tuple", data := Data.seq #[] }),
(137, { cls := Value.type "tuple", data := Data.seq #[Value.str (Str.ofString "self") 505, Value.str (Str.ofString "ws") 506, Value.str (Str.ofString "S") 507, Value.str (Str.ofString "T") 508, Value.str (Str.ofString "count") 509, Value.str (Str.ofString "b") 510, Value.str (Str.ofString "n") 511, Value.str (Str.ofString "nt") 512, Value.str (Str.ofString "ch") 513] }),
(138, { cls := Value.type "tuple", data := Data.seq #[] }),
(140, { cls := Value.type "code", data := Data.fields #[Value.str (Str.ofString "__init__") 502, Value.str (Str.ofString "Whitespace.__init__") 503, Value.str (Str.ofString "/claim/cut.py") 504, Value.int 137 0, Value.int 2 0, Value.int 0 0, Value.int 0 0, Value.int 3 0, Value.ref 135, Value.bool true, Value.int 276 0, Value.ref 136, Value.none, Value.ref 137, Value.ref 138, Value.ref 139, Value.int 514 0, Value.int 137 0, Value.str (Str.ofString "/claim/cut.py") 515] }),
(141, { cls := Value.type "function", data := Data.func { name := Str.ofString "__init__", qualname := Str.ofString "Whitespace.__init__", params := mParams 1, body := FuncBody.stmts (mBody 1), scope := mScope 1, globals := 3, closure := [], defaults := Value.none, kwdefaults := Value.none, pyModule := Value.str (Str.ofString "cpy313.tabnanny") 483, code := Value.ref 140 } }),
(142, { cls := Value.type "tuple", data := Data.seq #[] }),
(144, { cls := Value.type "tuple", data := Data.seq #[Value.str (Str.ofString "self") 520, Value.str (Str.ofString "count") 521, Value.str (Str.ofString "trailing") 522] }),
(145, { cls := Value.type "tuple", data := Data.seq #[] }),
(147, { cls := Value.type "code", data := Data.fields #[Value.str (Str.ofString "longest_run_of_spaces") 517, Value.str (Str.ofString "Whitespace.longest_run_of_spaces") 518, Value.str (Str.ofString "/claim/cut.py") 519, Value.int 160 0, Value.int 1 0, Value.int 0 0, Value.int 0 0, Value.int 3 0, Value.ref 142, Value.bool true, Value.int 276 0, Value.ref 143, Value.none, Value.ref 144, Value.ref 145, Value.ref 146, Value.int 523 0, Value.int 160 0, Value.str (Str.ofString "/claim/cut.py") 524] }),
(148, { cls := Value.type "function", data := Data.func { name := Str.ofString "longest_run_of_spaces", qualname := Str.ofString "Whitespace.longest_run_of_spaces", params := mParams 2, body := FuncBody.stmts (mBody 2), scope := mScope 2, globals := 3, closure := [], defaults := Value.none, kwdefaults := Value.none, pyModule := Value.str (Str.ofString "cpy313.tabnanny") 483, code := Value.ref 147 } }),
(149, { cls := Value.type "tuple", data := Data.seq #[] }),
(151, { cls := Value.type "tuple", data := Data.seq #[Value.str (Str.ofString "self") 529, Value.str (Str.ofString "tabsize") 530, Value.str (Str.ofString "count") 531, Value.str (Str.ofString "trailing") 532, Value.str (Str.ofString "il") 533, Value.str (Str.ofString "i") 534] }),
(152, { cls := Value.type "tuple", data := Data.seq #[] }),
(154, { cls := Value.type "code", data := Data.fields #[Value.str (Str.ofString "indent_level") 526, Value.str (Str.ofString "Whitespace.indent_level") 527, Value.str (Str.ofString "/claim/cut.py") 528, Value.int 164 0, Value.int 2 0, Value.int 0 0, Value.int 0 0, Value.int 3 0, Value.ref 149, Value.bool true, Value.int 276 0, Value.ref 150, Value.none, Value.ref 151, Value.ref 152, Value.ref 153, Value.int 535 0, Value.int 164 0, Value.str (Str.ofString "/claim/cut.py") 536] }),
(155, { cls := Value.type "function", data := Data.func { name := Str.ofString "indent_level", qualname := Str.ofString "Whitespace.indent_level", params := mParams 3, body := FuncBody.stmts (mBody 3), scope := mScope 3, globals := 3, closure := [], defaults := Value.none, kwdefaults := Value.none, pyModule := Value.str (Str.ofString "cpy313.tabnanny") 483, code := Value.ref 154 } }),
(156, { cls := Value.type "tuple", data := Data.seq #[] }),
(158, { cls := Value.type "tuple", data := Data.seq #[Value.str (Str.ofString "self") 541, Value.str (Str.ofString "other") 542] }),
(159, { cls := Value.type "tuple", data := Data.seq #[] }),
(161, { cls := Value.type "code", data := Data.fields #[Value.str (Str.ofString "equal") 538, Value.str (Str.ofString "Whitespace.equal") 539, Value.str (Str.ofString "/claim/cut.py") 540, Value.int 171 0, Value.int 2 0, Value.int 0 0, Value.int 0 0, Value.int 3 0, Value.ref 156, Value.bool true, Value.int 276 0, Value.ref 157, Value.none, Value.ref 158, Value.ref 159, Value.ref 160, Value.int 543 0, Value.int 171 0, Value.str (Str.ofString "/claim/cut.py") 544] }),
(162, { cls := Value.type "function", data := Data.func { name := Str.ofString "equal", qualname := Str.ofString "Whitespace.equal", params := mParams 4, body := FuncBody.stmts (mBody 4), scope := mScope 4, globals := 3, closure := [], defaults := Value.none, kwdefaults := Value.none, pyModule := Value.str (Str.ofString "cpy313.tabnanny") 483, code := Value.ref 161 } }),
(163, { cls := Value.type "tuple", data := Data.seq #[] }),
(165, { cls := Value.type "tuple", data := Data.seq #[Value.str (Str.ofString "self") 549, Value.str (Str.ofString "other") 550, Value.str (Str.ofString "n") 551, Value.str (Str.ofString "a") 552, Value.str (Str.ofString "ts") 553] }),
(166, { cls := Value.type "tuple", data := Data.seq #[] }),
(168, { cls := Value.type "code", data := Data.fields #[Value.str (Str.ofString "not_equal_witness") 546, Value.str (Str.ofString "Whitespace.not_equal_witness") 547, Value.str (Str.ofString "/claim/cut.py") 548, Value.int 174 0, Value.int 2 0, Value.int 0 0, Value.int 0 0, Value.int 3 0, Value.ref 163, Value.bool true, Value.int 276 0, Value.ref 164, Value.none, Value.ref 165, Value.ref 166, Value.ref 167, Value.int 554 0, Value.int 174 0, Value.str (Str.ofString "/claim/cut.py") 555] }),
(169, { cls := Value.type "function", data := Data.func { name := Str.ofString "not_equal_witness", qualname := Str.ofString "Whitespace.not_equal_witness", params := mParams 5, body := FuncBody.stmts (mBody 5), scope := mScope 5, globals := 3, closure := [], defaults := Value.none, kwdefaults := Value.none, pyModule := Value.str (Str.ofString "cpy313.tabnanny") 483, code := Value.ref 168 } }),
(170, { cls := Value.type "tuple", data := Data.seq #[] }),
(172, { cls := Value.type "tuple", data := Data.seq #[Value.str (Str.ofString "self") 560, Value.str (Str.ofString "other") 561] }),
(173, { cls := Value.type "tuple", data := Data.seq #[] }),
(175, { cls := Value.type "code", data := Data.fields #[Value.str (Str.ofString "less") 557, Value.str (Str.ofString "Whitespace.less") 558, Value.str (Str.ofString "/claim/cut.py") 559, Value.int 182 0, Value.int 2 0, Value.int 0 0, Value.int 0 0, Value.int 3 0, Value.ref 170, Value.bool true, Value.int 276 0, Value.ref 171, Value.none, Value.ref 172, Value.ref 173, Value.ref 174, Value.int 562 0, Value.int 182 0, Value.str (Str.ofString "/claim/cut.py") 563] }),
(176, { cls := Value.type "function", data := Data.func { name := Str.ofString "less", qualname := Str.ofString "Whitespace.less", params := mParams 6, body := FuncBody.stmts (mBody 6), scope := mScope 6, globals := 3, closure := [], defaults := Value.none, kwdefaults := Value.none, pyModule := Value.str (Str.ofString "cpy313.tabnanny") 483, code := Value.ref 175 } }),
(177, { cls := Value.type "tuple", data := Data.seq #[] }),
(179, { cls := Value.type "tuple", data := Data.seq #[Value.str (Str.ofString "self") 568, Value.str (Str.ofString "other") 569] }),
(180, { cls := Value.type "tuple", data := Data.seq #[] }),
(182, { cls := Value.type "code", data := Data.fields #[Value.str (Str.ofString "not_less_witness") 565, Value.str (Str.ofString "Whitespace.not_less_witness") 566, Value.str (Str.ofString "/claim/cut.py") 567, Value.int 185 0, Value.int 2 0, Value.int 0 0, Value.int 0 0, Value.int 3 0, Value.ref 177, Value.bool true, Value.int 276 0, Value.ref 178, Value.none, Value.ref 179, Value.ref 180, Value.ref 181, Value.int 570 0, Value.int 185 0, Value.str (Str.ofString "/claim/cut.py") 571] }),
(183, { cls := Value.type "function", data := Data.func { name := Str.ofString "not_less_witness", qualname := Str.ofString "Whitespace.not_less_witness", params := mParams 7, body := FuncBody.stmts (mBody 7), scope := mScope 7, globals := 3, closure := [], defaults := Value.none, kwdefaults := Value.none, pyModule := Value.str (Str.ofString "cpy313.tabnanny") 483, code := Value.ref 182 } }),
(184, { cls := Value.type "tuple", data := Data.seq #[Value.str (Str.ofString "is_simple") 573, Value.str (Str.ofString "n") 574, Value.str (Str.ofString "norm") 575, Value.str (Str.ofString "nt") 576, Value.str (Str.ofString "raw") 577] }),
(185, { cls := Value.type "dict", data := Data.dict #[{ hash := PyData.keyHash P (Str.ofString "__module__"), key := Value.str (Str.ofString "__module__") 492, val := Value.str (Str.ofString "cpy313.tabnanny") 483 }, { hash := PyData.keyHash P (Str.ofString "__firstlineno__"), key := Value.str (Str.ofString "__firstlineno__") 496, val := Value.int 134 495 }, { hash := PyData.keyHash P (Str.ofString "S"), key := Value.str (Str.ofString "S") 500, val := Value.str (Str.ofString " ") 498 }, { hash := PyData.keyHash P (Str.ofString "T"), key := Value.str (Str.ofString "T") 501, val := Value.str (Str.ofString "\t") 499 }, { hash := PyData.keyHash P (Str.ofString "__init__"), key := Value.str (Str.ofString "__init__") 516, val := Value.ref 141 }, { hash := PyData.keyHash P (Str.ofString "longest_run_of_spaces"), key := Value.str (Str.ofString "longest_run_of_spaces") 525, val := Value.ref 148 }, { hash := PyData.keyHash P (Str.ofString "indent_level"), key := Value.str (Str.ofString "indent_level") 537, val := Value.ref 155 }, { hash := PyData.keyHash P (Str.ofString "equal"), key := Value.str (Str.ofString "equal") 545, val := Value.ref 162 }, { hash := PyData.keyHash P (Str.ofString "not_equal_witness"), key := Value.str (Str.ofString "not_equal_witness") 556, val := Value.ref 169 }, { hash := PyData.keyHash P (Str.ofString "less"), key := Value.str (Str.ofString "less") 564, val := Value.ref 176 }, { hash := PyData.keyHash P (Str.ofString "not_less_witness"), key := Value.str (Str.ofString "not_less_witness") 572, val := Value.ref 183 }, { hash := PyData.keyHash P (Str.ofString "__static_attributes__"), key := Value.str (Str.ofString "__static_attributes__") 578, val := Value.ref 184 }, { hash := PyData.keyHash P (Str.ofString "__dict__"), key := Value.str (Str.ofString "__dict__") 580, val := Value.ref 187 }, { hash := PyData.keyHash P (Str.ofString "__weakref__"), key := Value.str (Str.ofString "__weakref__") 582, val := Value.ref 188 }, { hash := PyData.keyHash P (Str.ofString "__doc__"), key := Value.str (Str.ofString "__doc__") 583, val := Value.none }] 4 }),
(186, { cls := Value.type "type", data := Data.cls { name := Str.ofString "Whitespace", bases := [Value.type "object"], mro := [Value.ref 186, Value.type "object"], ns := 185, qualname := Str.ofString "Whitespace" }, slots := #[none, none, some (Value.str (Str.ofString "Whitespace") 485), some (Value.str (Str.ofString "Whitespace") 493), some (Value.builtin "object.__new__"), some (Value.bool true)] }),
(187, { cls := Value.type "getset_descriptor", data := Data.fields #[Value.str (Str.ofString "__dict__") 579, Value.ref 186, Value.builtin "function.__dict__", Value.builtin "function.__dict__#set"] }),
(188, { cls := Value.type "getset_descriptor", data := Data.fields #[Value.str (Str.ofString "__weakref__") 581, Value.ref 186, Value.builtin "ExceptionGroup.__weakref__", Value.none] }),
(191, { cls := Value.type "tuple", data := Data.seq #[] }),
(194, { cls := Value.type "code", data := Data.fields #[Value.str (Str.ofString "_law_words") 588, Value.str (Str.ofString "_law_words") 589, Value.str (Str.ofString "/claim/cut.py") 590, Value.int 188 0, Value.int 1 0, Value.int 0 0, Value.int 0 0, Value.int 3 0, Value.ref 191, Value.bool true, Value.int 276 0, Value.ref 192, Value.none, Value.none, Value.none, Value.ref 193, Value.int 591 0, Value.int 188 0, Value.str (Str.ofString "/claim/cut.py") 592] }),
(195, { cls := Value.type "function", data := Data.func { name := Str.ofString "_law_words", qualname := Str.ofString "_law_words", params := paramsAt 22, body := FuncBody.stmts (bodyAt 22), scope := scopeAt 22, globals := 3, closure := [], defaults := Value.none, kwdefaults := Value.none, pyModule := Value.str (Str.ofString "law_sw0078_02") 586, code := Value.ref 194 } }),
(196, { cls := Value.type "tuple", data := Data.seq #[] }),
(198, { cls := Value.type "tuple", data := Data.seq #[Value.str (Str.ofString "after") 597, Value.str (Str.ofString "lengths") 598, Value.str (Str.ofString "seen") 599, Value.str (Str.ofString "begin") 600, Value.str (Str.ofString "length") 601, Value.str (Str.ofString "at") 602] }),
(199, { cls := Value.type "tuple", data := Data.seq #[] }),
(201, { cls := Value.type "code", data := Data.fields #[Value.str (Str.ofString "_law_rings") 594, Value.str (Str.ofString "_law_rings") 595, Value.str (Str.ofString "/claim/cut.py") 596, Value.int 198 0, Value.int 1 0, Value.int 0 0, Value.int 0 0, Value.int 3 0, Value.ref 196, Value.bool true, Value.int 276 0, Value.ref 197, Value.none, Value.ref 198, Value.ref 199, Value.ref 200, Value.int 603 0, Value.int 198 0, Value.str (Str.ofString "/claim/cut.py") 604] }),
(202, { cls := Value.type "function", data := Data.func { name := Str.ofString "_law_rings", qualname := Str.ofString "_law_rings", params := paramsAt 23, body := FuncBody.stmts (bodyAt 23), scope := scopeAt 23, globals := 3, closure := [], defaults := Value.none, kwdefaults := Value.none, pyModule := Value.str (Str.ofString "law_sw0078_02") 586, code := Value.ref 201 } }),
(203, { cls := Value.type "tuple", data := Data.seq #[] }),
(205, { cls := Value.type "tuple", data := Data.seq #[Value.str (Str.ofString "upper") 609, Value.str (Str.ofString "lower") 610, Value.str (Str.ofString "kind") 611, Value.str (Str.ofString "whole") 612, Value.str (Str.ofString "rest") 613] }),
(206, { cls := Value.type "tuple", data := Data.seq #[] }),
(208, { cls := Value.type "code", data := Data.fields #[Value.str (Str.ofString "_law_divided") 606, Value.str (Str.ofString "_law_divided") 607, Value.str (Str.ofString "/claim/cut.py") 608, Value.int 211 0, Value.int 3 0, Value.int 0 0, Value.int 0 0, Value.int 3 0, Value.ref 203, Value.bool true, Value.int 276 0, Value.ref 204, Value.none, Value.ref 205, Value.ref 206, Value.ref 207, Value.int 614 0, Value.int 211 0, Value.str (Str.ofString "/claim/cut.py") 615] }),
(209, { cls := Value.type "function", data := Data.func { name := Str.ofString "_law_divided", qualname := Str.ofString "_law_divided", params := paramsAt 24, body := FuncBody.stmts (bodyAt 24), scope := scopeAt 24, globals := 3, closure := [], defaults := Value.none, kwdefaults := Value.none, pyModule := Value.str (Str.ofString "law_sw0078_02") 586, code := Value.ref 208 } }),
(210, { cls := Value.type "tuple", data := Data.seq #[] }),
(212, { cls := Value.type "tuple", data := Data.seq #[Value.str (Str.ofString "most") 620, Value.str (Str.ofString "base") 621, Value.str (Str.ofString "value") 622, Value.str (Str.ofString "k") 623] }),
(213, { cls := Value.type "tuple", data := Data.seq #[] }),
(215, { cls := Value.type "code", data := Data.fields #[Value.str (Str.ofString "_law_product") 617, Value.str (Str.ofString "_law_product") 618, Value.str (Str.ofString "/claim/cut.py") 619, Value.int 219 0, Value.int 2 0, Value.int 0 0, Value.int 0 0, Value.int 3 0, Value.ref 210, Value.bool true, Value.int 276 0, Value.ref 211, Value.none, Value.ref 212, Value.ref 213, Value.ref 214, Value.int 624 0, Value.int 219 0, Value.str (Str.ofString "/claim/cut.py") 625] }),
(216, { cls := Value.type "function", data := Data.func { name := Str.ofString "_law_product", qualname := Str.ofString "_law_product", params := paramsAt 25, body := FuncBody.stmts (bodyAt 25), scope := scopeAt 25, globals := 3, closure := [], defaults := Value.none, kwdefaults := Value.none, pyModule := Value.str (Str.ofString "law_sw0078_02") 586, code := Value.ref 215 } }),
(217, { cls := Value.type "tuple", data := Data.seq #[] }),
(220, { cls := Value.type "code", data := Data.fields #[Value.str (Str.ofString "law") 627, Value.str (Str.ofString "law") 628, Value.str (Str.ofString "/claim/cut.py") 629, Value.int 224 0, Value.int 1 0, Value.int 0 0, Value.int 0 0, Value.int 3 0, Value.ref 217, Value.bool true, Value.int 276 0, Value.ref 218, Value.none, Value.none, Value.none, Value.ref 219, Value.int 630 0, Value.int 224 0, Value.str (Str.ofString "/claim/cut.py") 631] }),
(221, { cls := Value.type "function", data := Data.func { name := Str.ofString "law", qualname := Str.ofString "law", params := paramsAt 26, body := FuncBody.stmts (bodyAt 26), scope := scopeAt 26, globals := 3, closure := [], defaults := Value.none, kwdefaults := Value.none, pyModule := Value.str (Str.ofString "law_sw0078_02") 586, code := Value.ref 220 } })]
noncomputable def viewK : Program := view PW [0, 1, 3, 4, 5, 6, 7, 8, 9, 15, 16, 17, 18, 20, 22, 23, 24, 25, 26]
noncomputable def looseK : List Str := ["insort_right", "bisect_right", "bisect_left", "_twin_re_1", "_twin_re_2", "Whitespace"]
noncomputable def kmK : Hook := kmHook heapK [3, 32, 34, 35, 37, 38, 39, 41, 42, 44, 45, 46, 48, 49, 51, 52, 53, 55, 56, 58, 59, 60, 62, 63, 65, 66, 67, 69, 70, 72, 73, 74, 76, 77, 79, 80, 81, 82, 83, 85, 86, 88, 89, 90, 91, 92, 94, 95, 97, 98, 99, 100, 101, 103, 104, 106, 107, 111, 112, 116, 117, 118, 120, 121, 123, 124, 135, 137, 138, 140, 141, 142, 144, 145, 147, 148, 149, 151, 152, 154, 155, 156, 158, 159, 161, 162, 163, 165, 166, 168, 169, 170, 172, 173, 175, 176, 177, 179, 180, 182, 183, 184, 185, 186, 187, 188, 191, 194, 195, 196, 198, 199, 201, 202, 203, 205, 206, 208, 209, 210, 212, 213, 215, 216, 217, 220, 221] (fun _ => by kernel_rfl) [61, 54]
def statK (h : Heap) : Prop := (h.get? cStatics).map (oDict "thirdparty.any") = some (some none)
noncomputable def hookK : Hook where
  α := kmK.α × Option (Option (Option Value))
  obs := fun s => (kmK.obs s, (s.heap.get? cStatics).map (oDict "thirdparty.any"))
  val := fun w => (kmK.val w, some (some none))
  says := fun w h => kmK.says w h ∧ statK h
  of := fun w s x => ⟨kmK.of w s (Prod.mk.inj x).1, (Prod.mk.inj x).2⟩
  keeps := fun w h h' x k => ⟨kmK.keeps w h h' x.1 k, by
    obtain ⟨o, e1, e2⟩ := Option.map_eq_some_iff.mp x.2
    show (h'.get? cStatics).map (oDict "thirdparty.any") = _
    rw [k _ _ e1]
    exact congrArg some e2⟩
noncomputable def xtK (s : Shared) : Bool := xlAt viewK [] s && recOk (RowW.records PySem.Challenge.rw_sw0078_02.row.toRowW) s
theorem leftF : ∀ w : World, (openEnds treeTable PW (w.withFollow "special-get-raises" false) 2608).map (fun s => (openSeen viewK looseK (importedModules PW.main.body) xtK true s, hookK.obs s)) = some (openGood viewK looseK, hookK.val (w.withFollow "special-get-raises" false)) := fun w => by kernel_rfl
theorem leftT : ∀ w : World, (openEnds treeTable PW (w.withFollow "special-get-raises" true) 2608).map (fun s => (openSeen viewK looseK (importedModules PW.main.body) xtK true s, hookK.obs s)) = some (openGood viewK looseK, hookK.val (w.withFollow "special-get-raises" true)) := fun w => by kernel_rfl
/-- the top, run by the kernel, once for each answer of the world's one row -/
theorem leftK : LeftO PW viewK looseK xtK hookK.obs hookK.val 2608 := fun w => by
  have e := World.withFollow_self w "special-get-raises"
  cases hb : w.params.followText "special-get-raises" <;> rw [hb] at e
  · have h := leftF w
    rw [e] at h
    exact h
  · have h := leftT w
    rw [e] at h
    exact h
end
section
set_option maxRecDepth 100000
open PySem.F
theorem plainAttrs_rp : PlainAttrs "re.Pattern" :=
  ⟨⟨"object.__getattribute__", by rw [typeLookup_type, builtinLookup_eq_fast]; kernel_rfl, canon_object_ga⟩, by rw [typeLookup_type, builtinLookup_eq_fast]; kernel_rfl⟩
theorem slot_rp_sub : Slot "re.Pattern" "sub" "re.Pattern.sub" :=
  .of (owner := "re.Pattern") (n := "sub") (by rw [typeLookup_type, builtinLookup_eq_fast]; kernel_rfl) (by decide +kernel) (by decide +kernel) (by decide +kernel)
    (by first | exact .inl (by decide +kernel) | exact .inr (by decide +kernel)) (by rw [isSubtype_type]; kernel_rfl)
theorem type_rp_sub : typeOf (.builtin "re.Pattern.sub") = pure (.type "method_descriptor") := by show builtinType _ = _; rw [builtinType_eq_fast]; kernel_rfl
theorem entry_rp_sub : entryFor table "re.Pattern.sub" = some Builtin.«re.Pattern.sub» := entryFor_of_tree (by kernel_rfl)
theorem entry_rp_loop : entryFor table "re.Pattern.sub.loop" = some Builtin.«re.Pattern.sub.loop» := entryFor_of_tree (by kernel_rfl)
theorem plain_rp_loop : plainId "re.Pattern.sub.loop" = true := by decide +kernel
theorem args_rp_sub_3 (a b c : Value) : argsOk "re.Pattern.sub" ⟨[a, b, c], []⟩ := by
  unfold argsOk; rw [signature?_of (id := "re.Pattern.sub") (n := ['b', 'u', 's']) (o := ['n', 'r', 'e', 't', 't', 'a', 'P', '.', 'e', 'r']) (rows := Manifest.sig_re_Pattern) (by kernel_rfl) (by kernel_rfl)]; kernel_rfl
theorem call_str : typeLookup (.type "str") "__call__" = pure none := by rw [typeLookup_type, builtinLookup_eq_fast]; kernel_rfl
end
section
/-- a function made within a run: its maker's code, that code's table, the place of the def, its name -/
structure Nest where
  c : Addr
  p : Addr
  pos : Pos
  qual : Str
/-- the table is fit, and what it keeps for the place is a code of that name -/
noncomputable def TabGood (h : Heap) (q : Nest) : Prop :=
  ∃ ps, h.get? q.p = some (tabObj ps) ∧ TriplesOk ps.toList ∧ ∀ v, codeAmong q.pos ps.toList = some v → ∃ c', v = .ref c' ∧ h.CodeRec (.ref c') q.qual
/-- what lies at a is no code -/
noncomputable def NotCode (h : Heap) (a : Addr) : Prop := ∀ o vs x t, h.get? a = some o → o.data = .fields vs → vs[1]? ≠ some (.str x t)
theorem TabGood.ext {h h' : Heap} {q : Nest} (g : TabGood h q) (k : ∀ b o, h.get? b = some o → h'.get? b = some o) : TabGood h' q := by
  obtain ⟨ps, e1, e2, e3⟩ := g
  refine ⟨ps, k _ _ e1, e2, fun v hv => ?_⟩
  obtain ⟨c', rfl, c, o, vs, t, h1, h2, h3⟩ := e3 v hv
  exact ⟨c', rfl, c, o, vs, t, h1, k _ _ h2, h3⟩
theorem TabGood.new {h h' : Heap} {q : Nest} {a : Addr} (g : TabGood h q) (ha : q.p ≠ a) (n : NotCode h a) (k : Heap.ExtBut a h h') : TabGood h' q := by
  obtain ⟨ps, e1, e2, e3⟩ := g
  refine ⟨ps, k _ _ ha e1, e2, fun v hv => ?_⟩
  obtain ⟨c', rfl, c, o, vs, t, h1, h2, h3, h4⟩ := e3 v hv
  exact ⟨c', rfl, c, o, vs, t, h1, k _ _ (fun e => n o vs _ t (e ▸ h2) h3 h4) h2, h3, h4⟩
/-- the world the law runs in: the heap that its call finds, the two top namespaces, what else must stay -/
structure U where
  prog : Program
  w : World
  hB : Heap
  mg : Str → Option Value
  mb : Str → Option Value
  tabs : List Nest
  lim : Nat
  low : ∀ b o, hB.get? b = some o → b < lim
  tLow : ∀ q ∈ tabs, q.p < lim
  g : hB.Ns mainGlobals mg
  gc : ∀ o, hB.get? mainGlobals = some o → o.cls ≠ .none
  b : hB.Ns builtinsNs mb
  nl : hB.NoLimit
  last : ∃ n o, lim = n + 1 ∧ hB.get? n = some o
noncomputable abbrev U.M (u : U) : Model := model u.prog u.w
structure Wd (u : U) (h : Heap) : Prop where
  old : OldK u.hB h
  nl : h.NoLimit
  t : ∀ q ∈ u.tabs, TabGood h q
theorem Wd.size {u : U} {h : Heap} (x : Wd u h) : u.lim ≤ h.objs.size := by
  obtain ⟨n, o, e, ho⟩ := u.last
  obtain ⟨o', ho'⟩ := x.old.there n o ho
  rw [e]; exact Heap.lt_size ho'
theorem Wd.ext {u : U} {h h' : Heap} (x : Wd u h) (hk : ∀ b o, h.get? b = some o → h'.get? b = some o) : Wd u h' :=
  ⟨x.old.step_keeps hk, x.nl.keeps hk, fun q hq => (x.t q hq).ext hk⟩
theorem U.lowS {u : U} : cStatics < u.lim := by
  obtain ⟨mc, ⟨o, es, ep, e, _⟩, _⟩ := u.nl
  exact u.low _ _ e
theorem oldK_ext {h₀ h h' : Heap} {a l : Nat} (K : OldK h₀ h) (hl : ∀ b o, h₀.get? b = some o → b < l) (ha : l ≤ a) (hs : Heap.ExtBut a h h') : OldK h₀ h' := by
  have ne : ∀ b o, h₀.get? b = some o → b ≠ a := fun b o e => Nat.ne_of_lt (Nat.lt_of_lt_of_le (hl b o e) ha)
  refine ⟨fun b o e => ?_, fun b o e => let ⟨o', ho'⟩ := K.there b o e; ⟨o', hs b o' (ne b o e) ho'⟩⟩
  have nb := ne b o e
  rcases K.old b o e with x | ⟨t, hc, vs, more, hv, x⟩ | ⟨rfl, hc, ⟨o', es, n, ho', r⟩, z⟩
  · exact .inl (hs _ _ nb x)
  · exact .inr (.inl ⟨t, hc, vs, more, hv, hs _ _ nb x⟩)
  · exact .inr (.inr ⟨rfl, hc, ⟨o', es, n, hs _ _ nb ho', r⟩, fun key => by rw [OldK.staticOf_congr ((hs _ _ nb ho').trans ho'.symm) key]; exact z key⟩)
theorem Wd.updE {u : U} {h h' : Heap} {a : Addr} (x : Wd u h) (ha : u.lim ≤ a) (hc : NotCode h a) (hs : Heap.ExtBut a h h') : Wd u h' :=
  ⟨oldK_ext x.old u.low ha hs, x.nl.extBut hs (Nat.ne_of_lt (Nat.lt_of_lt_of_le U.lowS ha)), fun q hq => (x.t q hq).new (Nat.ne_of_lt (Nat.lt_of_lt_of_le (u.tLow q hq) ha)) hc hs⟩
theorem Wd.upd {u : U} {h h' : Heap} {a : Addr} (x : Wd u h) (ha : u.lim ≤ a) (hc : NotCode h a) (hs : Heap.SameBut a h h') : Wd u h' := x.updE ha hc hs.extBut
theorem Wd.glob {u : U} {h : Heap} (x : Wd u h) : h.Ns mainGlobals u.mg := by
  obtain ⟨o, es, ep, ho, r⟩ := u.g
  exact ⟨o, es, ep, x.old.get_of_cls ho (u.gc o ho), r⟩
theorem Wd.bltn {u : U} {h : Heap} (x : Wd u h) : h.Ns builtinsNs u.mb := by
  obtain ⟨o, es, ep, ho, hd, r⟩ := u.b
  rcases x.old.old _ _ ho with q | ⟨_, _, vs, more, hv, _⟩ | ⟨q, _⟩
  · exact ⟨o, es, ep, q, hd, r⟩
  · rw [hd] at hv; cases hv
  · cases q
noncomputable abbrev Nil : Addr → Prop := fun _ => False
/-- objects that hold values by themselves: no table, no iterator -/
noncomputable def Tr (o : Obj) : Prop := ∀ ps, o.data ≠ .fields ps
/-- nothing of that kind lies at a -/
noncomputable def New (h : Heap) (a : Addr) : Prop := ∀ o, h.get? a = some o → ¬ Tr o
theorem New.none {h : Heap} {a : Addr} (e : h.get? a = .none) : New h a := fun o q => by rw [e] at q; cases q
theorem tr_list {vs : Array Value} {n : Nat} : Tr { cls := .type "list", data := .seq vs n } := nofun
theorem tr_tup {vs : Array Value} {n : Nat} : Tr { cls := .type "tuple", data := .seq vs n } := nofun
/-- no table of code -/
noncomputable def Kp (o : Obj) : Prop := o.cls ≠ .none ∨ ∀ ps, o.data ≠ .fields ps
noncomputable abbrev tupOf (its : Array Value) (n : Nat) : Obj := { cls := .type "tuple", data := .seq its n }
/-- from h to h': all stands but what lies at X; no tuple is changed; nothing dies -/
structure Keeps (u : U) (X : Addr → Prop) (h h' : Heap) : Prop where
  old : ∀ b o, h.get? b = some o → Kp o → ¬ X b → h'.get? b = some o
  alive : ∀ b o, h.get? b = some o → Tr o → ∃ o', h'.get? b = some o' ∧ Tr o'
  tup : ∀ b its n, h.get? b = some (tupOf its n) → h'.get? b = some (tupOf its n)
  wd : Wd u h → Wd u h'
  code : ∀ c q, h.CodeRec c q → h'.CodeRec c q
theorem Keeps.refl {u : U} {X : Addr → Prop} (h : Heap) : Keeps u X h h := ⟨fun _ _ e _ _ => e, fun _ o e t => ⟨o, e, t⟩, fun _ _ _ e => e, id, fun _ _ x => x⟩
theorem Keeps.trans {u : U} {X : Addr → Prop} {h h' h'' : Heap} (x : Keeps u X h h') (y : Keeps u X h' h'') : Keeps u X h h'' :=
  ⟨fun b o e c n => y.old b o (x.old b o e c n) c n, fun b o e t => let ⟨o', e', t'⟩ := x.alive b o e t; y.alive b o' e' t', fun b i n e => y.tup b i n (x.tup b i n e), fun z => y.wd (x.wd z), fun c q z => y.code c q (x.code c q z)⟩
theorem Keeps.mono {u : U} {X Y : Addr → Prop} {h h' : Heap} (x : Keeps u X h h') (s : ∀ a, X a → Y a) : Keeps u Y h h' :=
  ⟨fun b o e c n => x.old b o e c fun q => n (s b q), x.alive, x.tup, x.wd, x.code⟩
/-- what the second step may change is new to the first heap, or in X -/
theorem Keeps.then {u : U} {X Y : Addr → Prop} {h h' h'' : Heap} (x : Keeps u X h h') (y : Keeps u Y h' h'') (s : ∀ a o, Kp o → h.get? a = some o → h'.get? a = some o → Y a → X a) : Keeps u X h h'' :=
  ⟨fun b o e c n => y.old b o (x.old b o e c n) c fun q => n (s b o c e (x.old b o e c n) q), fun b o e t => let ⟨o', e', t'⟩ := x.alive b o e t; y.alive b o' e' t', fun b i n e => y.tup b i n (x.tup b i n e), fun z => y.wd (x.wd z), fun c q z => y.code c q (x.code c q z)⟩
theorem Keeps.ext {u : U} {X : Addr → Prop} {h h' : Heap} (hk : ∀ b o, h.get? b = some o → h'.get? b = some o) : Keeps u X h h' :=
  ⟨fun b o e _ _ => hk b o e, fun b o e t => ⟨o, hk b o e, t⟩, fun b _ _ e => hk b _ e, fun z => z.ext hk, fun c q ⟨c', o, vs, t, h1, h2, r⟩ => ⟨c', o, vs, t, h1, hk _ _ h2, r⟩⟩
theorem Keeps.push {u : U} {X : Addr → Prop} (h : Heap) (o : Obj) : Keeps u X h (h.push o) := .ext fun _ _ e => Heap.get?_push_of_some _ e
theorem Keeps.upd {u : U} {X : Addr → Prop} {h h' : Heap} {a : Addr} (ha : u.lim ≤ a) (hs : Heap.SameBut a h h') (hX : X a) (hl : ∃ o, h'.get? a = some o ∧ Tr o)
    (ht : ∀ its n, h.get? a ≠ some (tupOf its n)) (hc : NotCode h a) : Keeps u X h h' := by
  refine ⟨fun b o e _ n => ?_, fun b o e t => ?_, fun b its n e => ?_, fun z => z.upd ha hc hs, fun c q ⟨c', o, vs, t, h1, h2, h3, h4⟩ => ⟨c', o, vs, t, h1, (hs.2 _ fun e => hc o vs _ t (e ▸ h2) h3 h4).trans h2, h3, h4⟩⟩
  · exact (hs.2 b fun q => n (q ▸ hX)).trans e
  · by_cases q : b = a
    · exact q ▸ hl
    · exact ⟨o, (hs.2 b q).trans e, t⟩
  · exact (hs.2 b fun q => ht its n (q ▸ e)).trans e
/-- nothing that stays lies at a -/
noncomputable def NewK (h : Heap) (a : Addr) : Prop := ∀ o, h.get? a = some o → ¬ Kp o
theorem NewK.new {h : Heap} {a : Addr} (n : NewK h a) : New h a := fun o e t => n o e (.inr t)
theorem NewK.none {h : Heap} {a : Addr} (e : h.get? a = .none) : NewK h a := fun o q => by rw [e] at q; cases q
theorem goneK {u : U} {h h' : Heap} {a : Addr} (k : Keeps u Nil h h') (n : NewK h' a) : NewK h a := fun o e kp => n o (k.old a o e kp id) kp
/-- an iterator at a goes on, or ends -/
theorem Keeps.iter {u : U} {X : Addr → Prop} {h h' : Heap} {a : Addr} (ha : u.lim ≤ a) (hs : Heap.ExtBut a h h') (hX : X a) (hn : New h a) (hc : NotCode h a) : Keeps u X h h' := by
  refine ⟨fun b o e _ n => hs b o (fun q => n (q ▸ hX)) e, fun b o e t => ⟨o, hs b o (fun q => hn o (q ▸ e) t) e, t⟩, fun b its n e => hs b _ (fun q => hn _ (q ▸ e) tr_tup) e, fun z => z.updE ha hc hs, fun c q ⟨c', o, vs, t, h1, h2, h3, h4⟩ => ⟨c', o, vs, t, h1, hs _ _ (fun e => hc o vs _ t (e ▸ h2) h3 h4) h2, h3, h4⟩⟩
/-! data in a heap: plain lists and tuples -/
mutual
inductive Rd (h : Heap) : Value → PyData → List Addr → Prop
  | none : Rd h .none .none []
  | bool (b) : Rd h (.bool b) (.bool b) []
  | int (i t) : Rd h (.int i t) (.int i) []
  | str (x t) : Rd h (.str x t) (.str x) []
  | list {a vs n xs as} : h.get? a = some (listOf vs n) → RdAll h vs.toList xs as → Rd h (.ref a) (.list xs) (a :: as)
  | tuple {a vs n xs as} : h.get? a = some (tupOf vs n) → RdAll h vs.toList xs as → Rd h (.ref a) (.tuple xs) as
inductive RdAll (h : Heap) : List Value → List PyData → List Addr → Prop
  | nil : RdAll h [] [] []
  | cons {v vs d ds as bs} : Rd h v d as → RdAll h vs ds bs → RdAll h (v :: vs) (d :: ds) (as ++ bs)
end
/-- what holds of data part by part -/
theorem rd_both {h : Heap} {P : Value → PyData → List Addr → Prop} {Q : List Value → List PyData → List Addr → Prop} (p0 : P .none .none []) (p1 : ∀ b, P (.bool b) (.bool b) []) (p2 : ∀ i t, P (.int i t) (.int i) []) (p3 : ∀ x t, P (.str x t) (.str x) [])
    (p4 : ∀ {a vs n xs as}, h.get? a = some (listOf vs n) → Q vs.toList xs as → P (.ref a) (.list xs) (a :: as)) (p5 : ∀ {a vs n xs as}, h.get? a = some (tupOf vs n) → Q vs.toList xs as → P (.ref a) (.tuple xs) as)
    (q0 : Q [] [] []) (q1 : ∀ {v vs d ds as bs}, P v d as → Q vs ds bs → Q (v :: vs) (d :: ds) (as ++ bs)) : (∀ {v d as}, Rd h v d as → P v d as) ∧ ∀ {vs ds as}, RdAll h vs ds as → Q vs ds as :=
  ⟨fun r => Rd.rec (motive_1 := fun v d as _ => P v d as) (motive_2 := fun vs ds as _ => Q vs ds as) p0 p1 p2 p3 (fun e _ i => p4 e i) (fun e _ i => p5 e i) q0 (fun _ _ i j => q1 i j) r,
    fun r => RdAll.rec (motive_1 := fun v d as _ => P v d as) (motive_2 := fun vs ds as _ => Q vs ds as) p0 p1 p2 p3 (fun e _ i => p4 e i) (fun e _ i => p5 e i) q0 (fun _ _ i j => q1 i j) r⟩
theorem rd_reads2 {h : Heap} : (∀ {v d as}, Rd h v d as → Reads h v d as) ∧ ∀ {vs ds as}, RdAll h vs ds as → ReadsAll h vs ds as :=
  rd_both .none .bool .int .str (fun e q => .list e rfl rfl q) (fun e q => .tuple e rfl rfl q) .nil fun p q => .cons p q
theorem Rd.reads {h : Heap} {v : Value} {d : PyData} {as : List Addr} (r : Rd h v d as) : Reads h v d as := rd_reads2.1 r
theorem RdAll.reads {h : Heap} {vs : List Value} {ds : List PyData} {as : List Addr} (r : RdAll h vs ds as) : ReadsAll h vs ds as := rd_reads2.2 r
theorem rd_alive2 {h : Heap} : (∀ {v d as}, Rd h v d as → ∀ a ∈ as, ∃ o, h.get? a = some o ∧ Tr o) ∧ ∀ {vs ds as}, RdAll h vs ds as → ∀ a ∈ as, ∃ o, h.get? a = some o ∧ Tr o :=
  rd_both (P := fun _ _ as => ∀ a ∈ as, ∃ o, h.get? a = some o ∧ Tr o) (Q := fun _ _ as => ∀ a ∈ as, ∃ o, h.get? a = some o ∧ Tr o) nofun (fun _ => nofun) (fun _ _ => nofun) (fun _ _ => nofun) (fun e q a hm => by
    rcases List.mem_cons.mp hm with rfl | hm
    · exact ⟨_, e, tr_list⟩
    · exact q a hm) (fun _ q => q) nofun fun p q a hm => (List.mem_append.mp hm).elim (p a) (q a)
theorem reads_alive {h : Heap} {v : Value} {d : PyData} {as : List Addr} (r : Rd h v d as) : ∀ a ∈ as, ∃ o, h.get? a = some o ∧ Tr o := rd_alive2.1 r
theorem readsAll_alive {h : Heap} {vs : List Value} {ds : List PyData} {as : List Addr} (r : RdAll h vs ds as) : ∀ a ∈ as, ∃ o, h.get? a = some o ∧ Tr o := rd_alive2.2 r
theorem cls_list : (Value.type "list") ≠ .none := nofun
theorem cls_dict : (Value.type "dict") ≠ .none := nofun
theorem kp_list {vs : Array Value} {n : Nat} : Kp (listOf vs n) := .inl nofun
theorem rd_step2 {u : U} {X : Addr → Prop} {h h' : Heap} (k : Keeps u X h h') : (∀ {v d as}, Rd h v d as → (∀ a ∈ as, ¬ X a) → Rd h' v d as) ∧ ∀ {vs ds as}, RdAll h vs ds as → (∀ a ∈ as, ¬ X a) → RdAll h' vs ds as :=
  rd_both (P := fun v d as => (∀ a ∈ as, ¬ X a) → Rd h' v d as) (Q := fun vs ds as => (∀ a ∈ as, ¬ X a) → RdAll h' vs ds as) (fun _ => .none) (fun b _ => .bool b) (fun i t _ => .int i t) (fun x t _ => .str x t)
    (fun e q n => .list (k.old _ _ e kp_list (n _ (.head _))) (q fun a ha => n a (.tail _ ha))) (fun e q n => .tuple (k.tup _ _ _ e) (q n)) (fun _ => .nil)
    fun p q n => .cons (p fun a ha => n a (List.mem_append_left _ ha)) (q fun a ha => n a (List.mem_append_right _ ha))
theorem reads_step {u : U} {X : Addr → Prop} {h h' : Heap} (k : Keeps u X h h') {v : Value} {d : PyData} {as : List Addr} (r : Rd h v d as) (n : ∀ a ∈ as, ¬ X a) : Rd h' v d as := (rd_step2 k).1 r n
theorem readsAll_step {u : U} {X : Addr → Prop} {h h' : Heap} (k : Keeps u X h h') {vs : List Value} {ds : List PyData} {as : List Addr} (r : RdAll h vs ds as) (n : ∀ a ∈ as, ¬ X a) : RdAll h' vs ds as := (rd_step2 k).2 r n
/-- v is data d; no list of it lies in N -/
noncomputable def RepP (N : Addr → Prop) (h : Heap) (v : Value) (d : PyData) : Prop := ∃ as, Rd h v d as ∧ ∀ a ∈ as, ¬ N a
noncomputable def RepPs (N : Addr → Prop) (h : Heap) (vs : List Value) (ds : List PyData) : Prop := ∃ as, RdAll h vs ds as ∧ ∀ a ∈ as, ¬ N a
section
variable {u : U} {N N' X : Addr → Prop} {h h' : Heap} {v : Value} {d : PyData} {vs : List Value} {ds : List PyData}
theorem RepP.step (r : RepP N h v d) (k : Keeps u X h h') (s : ∀ a, X a → N a) : RepP N h' v d := let ⟨as, r, n⟩ := r; ⟨as, reads_step k r fun a ha q => n a ha (s a q), n⟩
theorem RepPs.step (r : RepPs N h vs ds) (k : Keeps u X h h') (s : ∀ a, X a → N a) : RepPs N h' vs ds := let ⟨as, r, n⟩ := r; ⟨as, readsAll_step k r fun a ha q => n a ha (s a q), n⟩
theorem RepP.anti (r : RepP N h v d) (s : ∀ a, N' a → N a) : RepP N' h v d := let ⟨as, r, n⟩ := r; ⟨as, r, fun a ha q => n a ha (s a q)⟩
theorem RepPs.anti (r : RepPs N h vs ds) (s : ∀ a, N' a → N a) : RepPs N' h vs ds := let ⟨as, r, n⟩ := r; ⟨as, r, fun a ha q => n a ha (s a q)⟩
/-- an address that is new may be added to N -/
theorem RepP.fresh (r : RepP N h v d) (s : ∀ a, N' a → N a ∨ New h a) : RepP N' h v d := let ⟨as, r, n⟩ := r
  ⟨as, r, fun a ha q => (s a q).elim (n a ha) fun e => by obtain ⟨o, ho, t⟩ := reads_alive r a ha; exact e o ho t⟩
theorem RepPs.fresh (r : RepPs N h vs ds) (s : ∀ a, N' a → N a ∨ New h a) : RepPs N' h vs ds := let ⟨as, r, n⟩ := r
  ⟨as, r, fun a ha q => (s a q).elim (n a ha) fun e => by obtain ⟨o, ho, t⟩ := readsAll_alive r a ha; exact e o ho t⟩
theorem RepPs.nil : RepPs N h [] [] := ⟨[], .nil, fun _ h => nomatch h⟩
theorem RepPs.cons (a : RepP N h v d) (b : RepPs N h vs ds) : RepPs N h (v :: vs) (d :: ds) := by
  obtain ⟨as, r, n⟩ := a
  obtain ⟨bs, t, m⟩ := b
  exact ⟨as ++ bs, .cons r t, fun a ha => (List.mem_append.mp ha).elim (n a) (m a)⟩
theorem RepPs.inv (r : RepPs N h vs (d :: ds)) : ∃ v vs', vs = v :: vs' ∧ RepP N h v d ∧ RepPs N h vs' ds := by
  obtain ⟨as, r, n⟩ := r
  cases r with
  | cons h1 h2 => exact ⟨_, _, rfl, ⟨_, h1, fun a ha => n a (List.mem_append_left _ ha)⟩, ⟨_, h2, fun a ha => n a (List.mem_append_right _ ha)⟩⟩
theorem RepPs.inv_nil (r : RepPs N h vs []) : vs = [] := by obtain ⟨as, r, n⟩ := r; cases r; rfl
theorem RepPs.length (r : RepPs N h vs ds) : vs.length = ds.length := by
  induction ds generalizing vs with
  | nil => rw [r.inv_nil]; rfl
  | cons d' ds ih =>
    obtain ⟨v', vs', rfl, h1, h2⟩ := r.inv
    simp [ih h2]
theorem RepPs.append {ws : List Value} {es : List PyData} (a : RepPs N h vs ds) (b : RepPs N h ws es) : RepPs N h (vs ++ ws) (ds ++ es) := by
  induction ds generalizing vs with
  | nil => rw [a.inv_nil]; exact b
  | cons d ds ih =>
    obtain ⟨v, vs', rfl, h1, h2⟩ := a.inv
    exact .cons h1 (ih h2)
theorem RepPs.get (r : RepPs N h vs ds) {i : Nat} {d : PyData} (e : ds[i]? = some d) : ∃ v, vs[i]? = some v ∧ RepP N h v d := by
  induction ds generalizing vs i with
  | nil => simp at e
  | cons d' ds ih =>
    obtain ⟨v, vs', rfl, h1, h2⟩ := r.inv
    cases i with
    | zero => simp at e; subst e; exact ⟨v, rfl, h1⟩
    | succ i => simpa using ih h2 (by simpa using e)
theorem RepPs.set (r : RepPs N h vs ds) (a : RepP N h v d) (i : Nat) : RepPs N h (vs.set i v) (ds.set i d) := by
  induction ds generalizing vs i with
  | nil => rw [r.inv_nil]; simpa using RepPs.nil
  | cons d' ds ih =>
    obtain ⟨v', vs', rfl, h1, h2⟩ := r.inv
    cases i with
    | zero => exact .cons a h2
    | succ i => exact .cons h1 (ih h2 i)
theorem RepPs.take (r : RepPs N h vs ds) (i : Nat) : RepPs N h (vs.take i) (ds.take i) := by
  induction ds generalizing vs i with
  | nil => rw [r.inv_nil]; simpa using RepPs.nil
  | cons d' ds ih =>
    obtain ⟨v', vs', rfl, h1, h2⟩ := r.inv
    cases i with
    | zero => exact .nil
    | succ i => exact .cons h1 (ih h2 i)
theorem RepPs.drop (r : RepPs N h vs ds) (i : Nat) : RepPs N h (vs.drop i) (ds.drop i) := by
  induction ds generalizing vs i with
  | nil => rw [r.inv_nil]; simpa using RepPs.nil
  | cons d' ds ih =>
    obtain ⟨v', vs', rfl, h1, h2⟩ := r.inv
    cases i with
    | zero => exact .cons h1 h2
    | succ i => exact ih h2 i
theorem RepPs.reverse (r : RepPs N h vs ds) : RepPs N h vs.reverse ds.reverse := by
  induction ds generalizing vs with
  | nil => rw [r.inv_nil]; exact .nil
  | cons d' ds ih =>
    obtain ⟨v', vs', rfl, h1, h2⟩ := r.inv
    simp only [List.reverse_cons]
    exact (ih h2).append (.cons h1 .nil)
/-- a list, taken apart -/
theorem RepP.list_inv (r : RepP N h v (.list ds)) : ∃ a vs n, v = .ref a ∧ h.get? a = some (listOf vs n) ∧ ¬ N a ∧ RepPs N h vs.toList ds := by
  obtain ⟨as, r, n⟩ := r
  cases r with
  | list h1 h4 => exact ⟨_, _, _, rfl, h1, n _ (.head _), ⟨_, h4, fun a ha => n a (.tail _ ha)⟩⟩
theorem RepP.tuple_inv (r : RepP N h v (.tuple ds)) : ∃ a vs n, v = .ref a ∧ h.get? a = some (tupOf vs n) ∧ RepPs N h vs.toList ds := by
  obtain ⟨as, r, n⟩ := r
  cases r with
  | tuple h1 h4 => exact ⟨_, _, _, rfl, h1, ⟨_, h4, n⟩⟩
theorem RepP.list_mk {a : Addr} {vs : Array Value} {n : Nat} (h1 : h.get? a = some (listOf vs n)) (ha : ¬ N a) (r : RepPs N h vs.toList ds) : RepP N h (.ref a) (.list ds) := by
  obtain ⟨as, r, m⟩ := r
  exact ⟨a :: as, .list h1 r, fun b hb => (List.mem_cons.mp hb).elim (fun e => e ▸ ha) (m b)⟩
theorem RepP.tuple_mk {a : Addr} {vs : Array Value} {n : Nat} (h1 : h.get? a = some (tupOf vs n)) (r : RepPs N h vs.toList ds) : RepP N h (.ref a) (.tuple ds) := by
  obtain ⟨as, r, m⟩ := r
  exact ⟨as, .tuple h1 r, m⟩
theorem RepP.reads (r : RepP N h v d) : ∃ as, Reads h v d as := let ⟨as, r, _⟩ := r; ⟨as, r.reads⟩
theorem RepP.int (i : Int) (t : Tok) : RepP N h (.int i t) (.int i) := ⟨[], .int i t, fun _ h => nomatch h⟩
theorem RepP.bool (b : Bool) : RepP N h (.bool b) (.bool b) := ⟨[], .bool b, fun _ h => nomatch h⟩
theorem RepP.str (x : Str) (t : Tok) : RepP N h (.str x t) (.str x) := ⟨[], .str x t, fun _ h => nomatch h⟩
theorem RepP.none : RepP N h .none .none := ⟨[], .none, fun _ h => nomatch h⟩
theorem RepP.int_inv {i : Int} (r : RepP N h v (.int i)) : ∃ t, v = .int i t := by obtain ⟨as, r, n⟩ := r; cases r; exact ⟨_, rfl⟩
theorem RepP.str_inv {x : Str} (r : RepP N h v (.str x)) : ∃ t, v = .str x t := by obtain ⟨as, r, n⟩ := r; cases r; exact ⟨_, rfl⟩
theorem RepP.bool_inv {b : Bool} (r : RepP N h v (.bool b)) : v = .bool b := by obtain ⟨as, r, n⟩ := r; cases r; rfl
theorem RepP.none_inv (r : RepP N h v .none) : v = .none := by obtain ⟨as, r, n⟩ := r; cases r; rfl
end
/-- the methods that are asked for -/
noncomputable abbrev wsMeths : List Str := ["equal", "not_equal_witness", "longest_run_of_spaces", "indent_level"]
/-- what a name may hold -/
inductive Vd where
  | py (d : PyData)
  | fn (f : Str)
  | ws (l : Option Addr) (es : List (Str × PyData))
  | lat (l : Addr) (xs : List PyData)
  | big (xs : List PyData)
  | clo (f : Addr) (fd : FuncData) (cs : List (Addr × Value)) (hs : List (Value × PyData))
noncomputable def Rep (u : U) (N : Addr → Prop) (h : Heap) (v : Value) : Vd → Prop
  | .py d => RepP N h v d
  | .fn f => ∃ a, v = .ref a ∧ u.mg f = some (.ref a)
  | .lat l xs => v = .ref l ∧ RepP N h v (.list xs)
  | .big xs => ∃ a o vs n, v = .ref a ∧ h.get? a = some o ∧ o.cls = .type "list" ∧ o.data = .seq vs n ∧ ¬ N a ∧ RepPs N h vs.toList xs
  | .clo f fd cs hs => v = .ref f ∧ (∃ o, h.get? f = some o ∧ o.data = .func fd) ∧ ¬ N f ∧ h.CodeRec fd.code fd.qualname ∧ (∀ p ∈ cs, h.IsCell p.1 (some p.2) ∧ ¬ N p.1) ∧ ∀ p ∈ hs, RepP N h p.1 p.2
  | .ws l es => ∃ x C dx od, (v = .ref x ∧ ∀ a, l = some a → a = x) ∧ u.mg "Whitespace" = some (.ref C) ∧ h.get? x = some (instObj C dx) ∧ h.get? dx = some od ∧ (od.cls = .type "dict" ∧ ∀ n ∈ wsMeths, lookIn n od = some none) ∧ Tr od ∧
      (∀ p ∈ es, ∃ w, lookIn p.1 od = some (some w) ∧ RepP N h w p.2) ∧ ¬ N x ∧ ¬ N dx
noncomputable def flat : PyData → Bool
  | .none | .bool _ | .int _ | .str _ => true
  | _ => false
noncomputable def Vd.flat : Vd → Bool
  | .py d => Mine.flat d
  | .fn _ => true
  | .ws .. => false
  | .lat .. => false
  | .big .. => false
  | .clo .. => false
section
variable {u : U} {N N' X : Addr → Prop} {h h' : Heap} {v : Value} {d : Vd}
theorem Rep.step (r : Rep u N h v d) (k : Keeps u X h h') (s : ∀ a, X a → N a) : Rep u N h' v d := by
  cases d with
  | py d => exact RepP.step r k s
  | fn f => exact r
  | lat l xs => exact ⟨r.1, r.2.step k s⟩
  | big xs => exact let ⟨a, o, vs, n, e1, e2, e3, e4, e5, e6⟩ := r; ⟨a, o, vs, n, e1, k.old a o e2 (.inl (by rw [e3]; nofun)) fun q => e5 (s _ q), e3, e4, e5, e6.step k s⟩
  | clo f fd cs hs =>
    obtain ⟨e1, ⟨o, e2, e3⟩, e4, e5, e6, e7⟩ := r
    refine ⟨e1, ⟨o, k.old _ _ e2 (.inr fun ps e => by rw [e3] at e; cases e) fun q => e4 (s _ q), e3⟩, e4, k.code _ _ e5, fun p hp => ?_, fun p hp => (e7 p hp).step k s⟩
    obtain ⟨⟨o, h1, h2⟩, h3⟩ := e6 p hp
    exact ⟨⟨o, k.old _ _ h1 (.inr fun ps e => by rw [h2] at e; cases e) fun q => h3 (s _ q), h2⟩, h3⟩
  | ws l es =>
    obtain ⟨x, C, dx, od, e1, e2, e3, e4, e5, tr, e6, n1, n2⟩ := r
    exact ⟨x, C, dx, od, e1, e2, k.old x _ e3 (.inl nofun) fun q => n1 (s _ q), k.old dx od e4 (.inl (by rw [e5.1]; nofun)) fun q => n2 (s _ q), e5, tr, fun p hp => let ⟨w, hw, rw⟩ := e6 p hp; ⟨w, hw, rw.step k s⟩, n1, n2⟩
theorem RepP.stepN {d : PyData} (r : RepP N h v d) (k : Keeps u X h h') (s : ∀ a, X a → N a ∨ New h a) : RepP N h' v d :=
  ((r.fresh (N' := fun a => N a ∨ New h a) fun _ => id).step k s).anti fun _ => .inl
theorem RepPs.stepN {vs : List Value} {ds : List PyData} (r : RepPs N h vs ds) (k : Keeps u X h h') (s : ∀ a, X a → N a ∨ New h a) : RepPs N h' vs ds :=
  ((r.fresh (N' := fun a => N a ∨ New h a) fun _ => id).step k s).anti fun _ => .inl
theorem Rep.anti (r : Rep u N h v d) (s : ∀ a, N' a → N a) : Rep u N' h v d := by
  cases d with
  | py d => exact RepP.anti r s
  | fn f => exact r
  | lat l xs => exact ⟨r.1, r.2.anti s⟩
  | big xs => exact let ⟨a, o, vs, n, e1, e2, e3, e4, e5, e6⟩ := r; ⟨a, o, vs, n, e1, e2, e3, e4, fun q => e5 (s _ q), e6.anti s⟩
  | clo f fd cs hs =>
    obtain ⟨e1, e2, e4, e5, e6, e7⟩ := r
    exact ⟨e1, e2, fun q => e4 (s _ q), e5, fun p hp => ⟨(e6 p hp).1, fun q => (e6 p hp).2 (s _ q)⟩, fun p hp => (e7 p hp).anti s⟩
  | ws l es =>
    obtain ⟨x, C, dx, od, e1, e2, e3, e4, e5, tr, e6, n1, n2⟩ := r
    exact ⟨x, C, dx, od, e1, e2, e3, e4, e5, tr, fun p hp => let ⟨w, hw, rw⟩ := e6 p hp; ⟨w, hw, rw.anti s⟩, fun q => n1 (s _ q), fun q => n2 (s _ q)⟩
theorem Rep.fresh (r : Rep u N h v d) (s : ∀ a, N' a → N a ∨ New h a) : Rep u N' h v d := by
  cases d with
  | py d => exact RepP.fresh r s
  | fn f => exact r
  | lat l xs => exact ⟨r.1, r.2.fresh s⟩
  | big xs => exact let ⟨a, o, vs, n, e1, e2, e3, e4, e5, e6⟩ := r; ⟨a, o, vs, n, e1, e2, e3, e4, fun q => (s _ q).elim e5 fun z => z o e2 fun ps e => (by rw [e4] at e; cases e), e6.fresh s⟩
  | clo f fd cs hs =>
    obtain ⟨e1, ⟨o, e2, e3⟩, e4, e5, e6, e7⟩ := r
    refine ⟨e1, ⟨o, e2, e3⟩, fun q => (s _ q).elim e4 fun z => z _ e2 fun ps e => (by rw [e3] at e; cases e), e5, fun p hp => ⟨(e6 p hp).1, fun q => (s _ q).elim (e6 p hp).2 fun z => ?_⟩, fun p hp => (e7 p hp).fresh s⟩
    obtain ⟨⟨o, h1, h2⟩, _⟩ := e6 p hp
    exact z _ h1 fun ps e => by rw [h2] at e; cases e
  | ws l es =>
    obtain ⟨x, C, dx, od, e1, e2, e3, e4, e5, tr, e6, n1, n2⟩ := r
    exact ⟨x, C, dx, od, e1, e2, e3, e4, e5, tr, fun p hp => let ⟨w, hw, rw⟩ := e6 p hp; ⟨w, hw, rw.fresh s⟩, fun q => (s _ q).elim n1 fun z => z _ e3 nofun, fun q => (s _ q).elim n2 fun z => z _ e4 tr⟩
theorem Rep.stepN (r : Rep u N h v d) (k : Keeps u X h h') (s : ∀ a, X a → N a ∨ New h a) : Rep u N h' v d :=
  ((r.fresh (N' := fun a => N a ∨ New h a) fun _ => id).step k s).anti fun _ => .inl
theorem flat_rep (hd : d.flat = true) (r : Rep u N h v d) : Rep u N' h' v d := by
  cases d with
  | fn f => exact r
  | ws _ _ => cases hd
  | lat _ _ => cases hd
  | big _ => cases hd
  | clo _ _ _ _ => cases hd
  | py d =>
    cases d with
    | none => have e := RepP.none_inv r; subst e; exact RepP.none
    | bool b => have e := RepP.bool_inv r; subst e; exact RepP.bool b
    | int i => obtain ⟨t, e⟩ := RepP.int_inv r; subst e; exact RepP.int i t
    | str x => obtain ⟨t, e⟩ := RepP.str_inv r; subst e; exact RepP.str x t
    | _ => cases hd
end
end
section
noncomputable abbrev NoE : Value → Shared → Prop := fun _ _ => False
theorem up {α : Type} {M : Model} {A : Around} {E : Value → Shared → Prop} {s : Shared} {t : Sem α} {Q : α → Shared → Prop} (h : wpAny M A t Q NoE s) : wpAny M A t Q E s :=
  wpAny_mono h (fun _ _ x => x) fun _ _ x => x.elim
structure EnvIs (sc : Scope) (env : Env) : Prop where
  scope : env.scope = sc
  kind : sc.kind = .function
  globals : env.globals = mainGlobals
  builtins : env.builtins = builtinsNs
  cells : ∀ x, sc.names.lookup x = some .cell → ∃ c, env.cells.lookup x = some c
theorem EnvIs.kindOf {sc : Scope} {env : Env} (e : EnvIs sc env) (x : Str) : env.kindOf x = sc.names.lookup x := by unfold Env.kindOf; rw [e.scope]
theorem EnvIs.fn {sc : Scope} {env : Env} (e : EnvIs sc env) : env.scope.kind = .function := by rw [e.scope]; exact e.kind
structure Ok (A : Around) (k : Nat) : Prop where
  handled : A.handled = none
  depth : A.depth + k < recursionLimit
  units : A.units + 16 * k + 256 < cLine
theorem Ok.deeper {A : Around} {k : Nat} (o : Ok A (k + 1)) (env : Env) : Ok (A.deeper env) k :=
  ⟨o.handled, by have := o.depth; show A.depth + 1 + k < _; omega, by have := o.units; show A.units + 3 + 16 * k + 256 < _; omega⟩
theorem Ok.le {A : Around} {k j : Nat} (o : Ok A k) (h : j ≤ k) : Ok A j := ⟨o.handled, by have := o.depth; omega, by have := o.units; omega⟩
/-! states -/
noncomputable abbrev St := List (Str × (Vd × Bool))
noncomputable def look (σ : St) (x : Str) : Option (Vd × Bool) := σ.lookup x
noncomputable def Sees (env : Env) (h : Heap) (x : Str) (v : Value) : Prop :=
  (env.kindOf x = some .local ∧ ∃ m, h.Ns env.locals m ∧ m x = some v) ∨
  ((env.kindOf x = some .cell ∨ env.kindOf x = some .free) ∧ ∃ c, env.cells.lookup x = some c ∧ h.IsCell c (some v))
/-- where a frame keeps its names -/
noncomputable def FA (env : Env) (a : Addr) : Prop := a = env.locals ∨ ∃ x, env.cells.lookup x = some a
noncomputable def Live (N : Addr → Prop) (h : Heap) : Prop := ∀ a, N a → ∃ o, h.get? a = some o ∧ Tr o
theorem Live.step {u : U} {N X : Addr → Prop} {h h' : Heap} (l : Live N h) (k : Keeps u X h h') : Live N h' := fun a n => let ⟨o, e, t⟩ := l a n; k.alive a o e t
noncomputable def Look (u : U) (N : Addr → Prop) (env : Env) (h : Heap) (σ : St) : Prop := ∀ x d, look σ x = some (d, false) → ∃ v, Sees env h x v ∧ Rep u N h v d
/-- names' places are no tables: they lie in objects with a class -/
structure FrOk (u : U) (env : Env) (h : Heap) : Prop where
  ns : ∃ m, h.Ns env.locals m
  cell : ∀ x c, env.cells.lookup x = some c → ∃ v, h.IsCell c v
  nsNew : u.lim ≤ env.locals
  cellNew : ∀ x c, env.cells.lookup x = some c → u.lim ≤ c
  cellInj : ∀ x y c, env.cells.lookup x = some c → env.cells.lookup y = some c → x = y
theorem ns_old {h h' : Heap} {a : Addr} {m : Str → Option Value} {o : Obj} (x : h.Ns a m) (ho : h.get? a = some o) (ho' : h'.get? a = some o) : h'.Ns a m := by
  obtain ⟨o1, es, ep, h1, r⟩ := x
  rw [ho] at h1; cases h1
  exact ⟨o, es, ep, ho', r⟩
theorem cell_old {h h' : Heap} {a : Addr} {v : Option Value} {o : Obj} (x : h.IsCell a v) (ho : h.get? a = some o) (ho' : h'.get? a = some o) : h'.IsCell a v := by
  obtain ⟨o1, h1, r⟩ := x
  rw [ho] at h1; cases h1
  exact ⟨o, ho', r⟩
theorem ns_get {h : Heap} {a : Addr} {m : Str → Option Value} (x : h.Ns a m) : ∃ o, h.get? a = some o ∧ Kp o ∧ Tr o ∧ ∀ its n, o ≠ tupOf its n := by
  obtain ⟨o, es, ep, h1, h2, _⟩ := x
  exact ⟨o, h1, .inr fun ps e => by (rw [h2] at e; cases e), fun ps e => by (rw [h2] at e; cases e), fun its n e => by (rw [e] at h2; cases h2)⟩
theorem cell_get {h : Heap} {a : Addr} {v : Option Value} (x : h.IsCell a v) : ∃ o, h.get? a = some o ∧ Kp o ∧ Tr o ∧ ∀ its n, o ≠ tupOf its n := by
  obtain ⟨o, h1, h2⟩ := x
  exact ⟨o, h1, .inr fun ps e => by (rw [h2] at e; cases e), fun ps e => by (rw [h2] at e; cases e), fun its n e => by (rw [e] at h2; cases h2)⟩
theorem ns_notCode {h : Heap} {a : Addr} {m : Str → Option Value} (x : h.Ns a m) : NotCode h a := fun o vs y t e d => by
  obtain ⟨o', es, ep, h1, h2, _⟩ := x
  rw [e] at h1; cases h1; rw [d] at h2; cases h2
theorem cell_notCode {h : Heap} {a : Addr} {v : Option Value} (x : h.IsCell a v) : NotCode h a := fun o vs y t e d => by
  obtain ⟨o', h1, h2⟩ := x
  rw [e] at h1; cases h1; rw [d] at h2; cases h2
theorem seq_notCode {h : Heap} {a : Addr} {c : Value} {its : Array Value} {n : Nat} (x : h.get? a = some { cls := c, data := .seq its n }) : NotCode h a := fun o vs y t e d => by
  rw [e] at x; cases x; cases d
theorem ns_step {u : U} {X : Addr → Prop} {h h' : Heap} {a : Addr} {m : Str → Option Value} (x : h.Ns a m) (k : Keeps u X h h') (n : ¬ X a) : h'.Ns a m := by
  obtain ⟨o, e, kp, _⟩ := ns_get x
  exact ns_old x e (k.old _ o e kp n)
theorem cell_step {u : U} {X : Addr → Prop} {h h' : Heap} {a : Addr} {v : Option Value} (x : h.IsCell a v) (k : Keeps u X h h') (n : ¬ X a) : h'.IsCell a v := by
  obtain ⟨o, e, kp, _⟩ := cell_get x
  exact cell_old x e (k.old _ o e kp n)
theorem FrOk.step {u : U} {X : Addr → Prop} {env : Env} {h h' : Heap} (f : FrOk u env h) (k : Keeps u X h h') (n : ∀ a, FA env a → ¬ X a) : FrOk u env h' := by
  refine ⟨?_, fun x c e => ?_, f.nsNew, f.cellNew, f.cellInj⟩
  · obtain ⟨m, h3⟩ := f.ns
    exact ⟨m, ns_step h3 k (n _ (.inl rfl))⟩
  · obtain ⟨v, h3⟩ := f.cell x c e
    exact ⟨v, cell_step h3 k (n _ (.inr ⟨x, e⟩))⟩
theorem Sees.step {u : U} {X : Addr → Prop} {env : Env} {h h' : Heap} {x : Str} {v : Value} (s : Sees env h x v) (f : FrOk u env h) (k : Keeps u X h h') (n : ∀ a, FA env a → ¬ X a) : Sees env h' x v := by
  rcases s with ⟨e, m, hn, hm⟩ | ⟨e, c, hc, hv⟩
  · exact .inl ⟨e, m, ns_step hn k (n _ (.inl rfl)), hm⟩
  · exact .inr ⟨e, c, hc, cell_step hv k (n _ (.inr ⟨x, hc⟩))⟩
theorem Look.step {u : U} {N X : Addr → Prop} {env : Env} {h h' : Heap} {σ : St} (l : Look u N env h σ) (f : FrOk u env h) (k : Keeps u X h h') (n : ∀ a, FA env a → ¬ X a) (s : ∀ a, X a → N a) : Look u N env h' σ :=
  fun x d e => let ⟨v, hv, r⟩ := l x d e; ⟨v, hv.step f k n, r.step k s⟩
/-- e, asked where σ holds, is d -/
noncomputable def EvT (u : U) (k : Nat) (sc : Scope) (σ : St) (e : Expr) (d : Vd) : Prop :=
  ∀ (env : Env) (N : Addr → Prop) (A : Around) (s : Shared) (Q : Value → Shared → Prop), EnvIs sc env → Ok A k → Wd u s.heap → Live N s.heap → FrOk u env s.heap → Look u N env s.heap σ →
    (∀ v h' tk, Keeps u Nil s.heap h' → Rep u N h' v d → Q v { s with heap := h', toks := tk }) → wpAny u.M A (eval e env) Q NoE s
/-- a test -/
noncomputable def TsT (u : U) (k : Nat) (sc : Scope) (σ : St) (e : Expr) (b : Bool) : Prop :=
  ∀ (env : Env) (N : Addr → Prop) (A : Around) (s : Shared) (Q : Bool → Shared → Prop), EnvIs sc env → Ok A k → Wd u s.heap → Live N s.heap → FrOk u env s.heap → Look u N env s.heap σ →
    (∀ h' tk, Keeps u Nil s.heap h' → Q b { s with heap := h', toks := tk }) → wpAny u.M A (isTrue e env (eval e env)) Q NoE s
/-- everything that a state of the walk says, in one -/
structure Here (u : U) (k : Nat) (sc : Scope) (σ : St) (env : Env) (N : Addr → Prop) (A : Around) (h : Heap) : Prop where
  is : EnvIs sc env
  ok : Ok A k
  wd : Wd u h
  live : Live N h
  fr : FrOk u env h
  lk : Look u N env h σ
theorem nonil {P : Prop} {a : Addr} (h : Nil a) : P := h.elim
theorem Here.step {u : U} {k : Nat} {sc : Scope} {σ : St} {env : Env} {N : Addr → Prop} {A : Around} {h h' : Heap} (H : Here u k sc σ env N A h) (q : Keeps u Nil h h') : Here u k sc σ env N A h' :=
  ⟨H.is, H.ok, q.wd H.wd, H.live.step q, H.fr.step q fun _ _ => id, H.lk.step H.fr q (fun _ _ => id) fun _ => nonil⟩
theorem EvT.use {u : U} {k : Nat} {sc : Scope} {σ : St} {e : Expr} {d : Vd} (t : EvT u k sc σ e d) {env : Env} {N : Addr → Prop} {A : Around} {s : Shared} {Q : Value → Shared → Prop}
    (H : Here u k sc σ env N A s.heap) (h : ∀ v h' tk, Keeps u Nil s.heap h' → Here u k sc σ env N A h' → Rep u N h' v d → Q v { s with heap := h', toks := tk }) : wpAny u.M A (eval e env) Q NoE s :=
  t env N A s Q H.is H.ok H.wd H.live H.fr H.lk fun v h' tk q r => h v h' tk q (H.step q) r
theorem TsT.use {u : U} {k : Nat} {sc : Scope} {σ : St} {e : Expr} {b : Bool} (t : TsT u k sc σ e b) {env : Env} {N : Addr → Prop} {A : Around} {s : Shared} {Q : Bool → Shared → Prop}
    (H : Here u k sc σ env N A s.heap) (h : ∀ h' tk, Keeps u Nil s.heap h' → Here u k sc σ env N A h' → Q b { s with heap := h', toks := tk }) : wpAny u.M A (isTrue e env (eval e env)) Q NoE s :=
  t env N A s Q H.is H.ok H.wd H.live H.fr H.lk fun h' tk q => h h' tk q (H.step q)
theorem EvT.mk {u : U} {k : Nat} {sc : Scope} {σ : St} {e : Expr} {d : Vd}
    (h : ∀ (env : Env) (N : Addr → Prop) (A : Around) (s : Shared) (Q : Value → Shared → Prop), Here u k sc σ env N A s.heap → (∀ v h' tk, Keeps u Nil s.heap h' → Rep u N h' v d → Q v { s with heap := h', toks := tk }) →
      wpAny u.M A (eval e env) Q NoE s) : EvT u k sc σ e d := fun env N A s Q h1 h2 h3 h4 h5 h6 q => h env N A s Q ⟨h1, h2, h3, h4, h5, h6⟩ q
theorem TsT.mk {u : U} {k : Nat} {sc : Scope} {σ : St} {e : Expr} {b : Bool}
    (h : ∀ (env : Env) (N : Addr → Prop) (A : Around) (s : Shared) (Q : Bool → Shared → Prop), Here u k sc σ env N A s.heap → (∀ h' tk, Keeps u Nil s.heap h' → Q b { s with heap := h', toks := tk }) →
      wpAny u.M A (isTrue e env (eval e env)) Q NoE s) : TsT u k sc σ e b := fun env N A s Q h1 h2 h3 h4 h5 h6 q => h env N A s Q ⟨h1, h2, h3, h4, h5, h6⟩ q
section
variable {u : U} {k : Nat} {sc : Scope} {σ : St} {env : Env} {N : Addr → Prop} {A : Around} {s : Shared} {pos : Pos}
/-- the value of a name, raw -/
theorem sees_name {x : Str} {v : Value} {Q : Value → Shared → Prop} (he : EnvIs sc env) (hs : Sees env s.heap x v) (h : Q v s) (hd : (x == ("__debug__" : Str)) = false := by decide) (hc : (x == ("__classdict__" : Str)) = false := by decide) :
    wpAny u.M A (eval (.Name x pos) env) Q NoE s := by
  refine wpAny_Name ?_ hd
  rcases hs with ⟨e, m, hn, hm⟩ | ⟨e | e, c, hl, hv⟩
  · exact wpAny_loadName_local he.fn e hn hm h
  · exact wpAny_loadName_cell he.fn e hl hv h
  · exact wpAny_loadName_free he.fn e hl hv h hc
theorem EvT.name {x : Str} {d : Vd} (hx : Mine.look σ x = some (d, false)) (hd : (x == ("__debug__" : Str)) = false := by decide) (hc : (x == ("__classdict__" : Str)) = false := by decide) : EvT u k sc σ (.Name x pos) d :=
  EvT.mk fun env N A s Q H h => by
    obtain ⟨v, hv, r⟩ := H.lk x d hx
    exact sees_name H.is hv (h v s.heap s.toks (.refl _) r) hd hc
theorem EvT.int {i : Int} {j : Nat} : EvT u k sc σ (.Constant (.int i) j pos) (.py (.int i)) :=
  EvT.mk fun env N A s Q H h => wpAny_Constant_int (h _ _ _ (.refl _) (RepP.int i _))
theorem EvT.str {x : Str} {j : Nat} : EvT u k sc σ (.Constant (.str x) j pos) (.py (.str x)) :=
  EvT.mk fun env N A s Q H h => Calls.Constant_str (h _ _ _ (.refl _) (RepP.str x _))
theorem EvT.bool {b : Bool} {j : Nat} : EvT u k sc σ (.Constant (.bool b) j pos) (.py (.bool b)) :=
  EvT.mk fun env N A s Q H h => (fun _ _ _ => h _ s.heap s.toks (.refl _) (RepP.bool b) : wpAny u.M A (eval (.Constant (.bool b) j pos) env) Q NoE s)
theorem EvT.nonev {j : Nat} : EvT u k sc σ (.Constant .none j pos) (.py .none) :=
  EvT.mk fun env N A s Q H h => (fun _ _ _ => h _ s.heap s.toks (.refl _) RepP.none : wpAny u.M A (eval (.Constant .none j pos) env) Q NoE s)
/-- a binary operation on plain values, by a rule of the library -/
theorem EvT.bin {l r : Expr} {op : Operator} {a b d : Vd} (tl : EvT u k sc σ l a) (tr : EvT u k sc σ r b)
    (rule : ∀ (N : Addr → Prop) (A : Around) (s : Shared) (x y : Value) (Q : Value → Shared → Prop), Ok A k → Wd u s.heap → Live N s.heap → Rep u N s.heap x a → Rep u N s.heap y b →
      (∀ v h' tk, Keeps u Nil s.heap h' → Rep u N h' v d → Q v { s with heap := h', toks := tk }) → wpAny u.M A (binaryOp op x y) Q NoE s) : EvT u k sc σ (.BinOp l op r pos) d :=
  EvT.mk fun env N A s Q H h => by
    refine wpAny_BinOp (tl.use H fun x h1 t1 k1 H1 r1 => tr.use (s := { s with heap := h1, toks := t1 }) H1 fun y h2 t2 k2 H2 r2 => ?_)
    refine rule N A _ x y Q H2.ok H2.wd H2.live (r1.step k2 fun _ => nonil) r2 fun v h3 t3 k3 r3 => ?_
    exact h v h3 t3 ((k1.trans k2).trans k3) r3
end
end
section
section
variable {u : U} {k : Nat} {sc : Scope} {σ : St} {pos : Pos} {l r e : Expr}
noncomputable abbrev I (i : Int) : Vd := .py (.int i)
noncomputable abbrev B (b : Bool) : Vd := .py (.bool b)
noncomputable abbrev S (x : Str) : Vd := .py (.str x)
noncomputable abbrev Ls (xs : List PyData) : Vd := .py (.list xs)
noncomputable abbrev Tu (xs : List PyData) : Vd := .py (.tuple xs)
theorem EvT.ints {op : Operator} {a b c : Int} (tl : EvT u k sc σ l (I a)) (tr : EvT u k sc σ r (I b))
    (rule : ∀ (A : Around) (s : Shared) (t t' : Tok) (Q : Value → Shared → Prop), Q (.int c s.toks) { s with toks := s.toks + 1 } → wpAny u.M A (binaryOp op (.int a t) (.int b t')) Q NoE s) :
    EvT u k sc σ (.BinOp l op r pos) (I c) :=
  EvT.bin tl tr fun N A s x y Q _ _ _ r1 r2 h => by
    obtain ⟨t, rfl⟩ := RepP.int_inv r1
    obtain ⟨t', rfl⟩ := RepP.int_inv r2
    exact rule A s t t' Q (h _ _ _ (.refl _) (RepP.int _ _))
theorem EvT.add {a b : Int} (tl : EvT u k sc σ l (I a)) (tr : EvT u k sc σ r (I b)) : EvT u k sc σ (.BinOp l .Add r pos) (I (a + b)) := .ints tl tr fun _ _ _ _ _ h => add_int h
theorem EvT.sub {a b : Int} (tl : EvT u k sc σ l (I a)) (tr : EvT u k sc σ r (I b)) : EvT u k sc σ (.BinOp l .Sub r pos) (I (a - b)) := .ints tl tr fun _ _ _ _ _ h => sub_int' h
theorem EvT.mul {a b : Int} (tl : EvT u k sc σ l (I a)) (tr : EvT u k sc σ r (I b)) (hm : IntMulOk a b) : EvT u k sc σ (.BinOp l .Mult r pos) (I (a * b)) := .ints tl tr fun _ _ _ _ _ h => mul_int h hm
theorem EvT.mod {a b : Int} (tl : EvT u k sc σ l (I a)) (tr : EvT u k sc σ r (I b)) (hb : b ≠ 0) : EvT u k sc σ (.BinOp l .Mod r pos) (I (a.fmod b)) := .ints tl tr fun _ _ _ _ _ h => mod_int' hb h
theorem EvT.fdiv {a b : Int} (tl : EvT u k sc σ l (I a)) (tr : EvT u k sc σ r (I b)) (hb : b ≠ 0) (hp : Builtin.divisionGoesByPylong a b = false) : EvT u k sc σ (.BinOp l .FloorDiv r pos) (I (a.fdiv b)) := .ints tl tr fun _ _ _ _ _ h => floordiv_int hb h (.inl hp)
theorem EvT.shl {a b : Int} (tl : EvT u k sc σ l (I a)) (tr : EvT u k sc σ r (I b)) (hb : 0 ≤ b) (hs : (Builtin.Int.intBits a : Int) + b ≤ 2 ^ 27) : EvT u k sc σ (.BinOp l .LShift r pos) (I (a * 2 ^ b.toNat)) := .ints tl tr fun _ _ _ _ _ h => lshift_int hb hs h
theorem EvT.shr {a b : Int} (tl : EvT u k sc σ l (I a)) (tr : EvT u k sc σ r (I b)) (hb : 0 ≤ b) : EvT u k sc σ (.BinOp l .RShift r pos) (I (a.fdiv (2 ^ b.toNat))) := .ints tl tr fun _ _ _ _ _ h => rshift_int hb h
theorem EvT.pow {a b : Int} (tl : EvT u k sc σ l (I a)) (tr : EvT u k sc σ r (I b)) (hb : 0 ≤ b) (hs : (Builtin.Int.intBits a : Int) * b ≤ 2 ^ 27) : EvT u k sc σ (.BinOp l .Pow r pos) (I (a ^ b.toNat)) := .ints tl tr fun _ _ _ _ _ h => pow_int hb hs h
theorem EvT.band {a b : Int} (tl : EvT u k sc σ l (I a)) (tr : EvT u k sc σ r (I b)) : EvT u k sc σ (.BinOp l .BitAnd r pos) (I (Builtin.bitAnd a b)) := .ints tl tr fun _ _ _ _ _ h => and_int h
theorem EvT.bor {a b : Int} (tl : EvT u k sc σ l (I a)) (tr : EvT u k sc σ r (I b)) : EvT u k sc σ (.BinOp l .BitOr r pos) (I (Builtin.bitOr a b)) := .ints tl tr fun _ _ _ _ _ h => or_int h
theorem EvT.bxor {a b : Int} (tl : EvT u k sc σ l (I a)) (tr : EvT u k sc σ r (I b)) : EvT u k sc σ (.BinOp l .BitXor r pos) (I (Builtin.bitXor a b)) := .ints tl tr fun _ _ _ _ _ h => xor_int h
theorem EvT.sadd {a b : Str} (tl : EvT u k sc σ l (S a)) (tr : EvT u k sc σ r (S b)) (hz : a.length + b.length ≤ sizeLine) : EvT u k sc σ (.BinOp l .Add r pos) (S (a ++ b)) :=
  EvT.bin tl tr fun N A s x y Q _ _ _ r1 r2 h => by
    obtain ⟨t, rfl⟩ := RepP.str_inv r1
    obtain ⟨t', rfl⟩ := RepP.str_inv r2
    exact SBL.add (fun t' n _ => h _ _ _ (.refl _) (RepP.str _ _)) hz
/-- n times the sign c -/
noncomputable def reps (c : Nat) (n : Nat) : Str := ⟨(List.replicate n c).toArray⟩
theorem foldl_app {α : Type} (l : List (Array α)) (a : Array α) : l.foldl (· ++ ·) a = a ++ (l.map Array.toList).flatten.toArray := by
  induction l generalizing a with
  | nil => simp
  | cons x l ih => rw [List.foldl_cons, ih]; apply Array.ext'; simp
theorem flatten_one {α : Type} (n : Nat) (c : α) : (List.replicate n [c]).flatten = List.replicate n c := by
  induction n with
  | zero => rfl
  | succ n ih => rw [List.replicate_succ, List.flatten_cons, ih, List.replicate_succ]; rfl
theorem fold_one {α : Type} (n : Nat) (c : α) : (List.replicate n #[c]).foldl (· ++ ·) #[] = (List.replicate n c).toArray := by
  rw [foldl_app, List.map_replicate, flatten_one]; simp
theorem mul_reps (c : Nat) (n : Int) (h0 : 0 ≤ n) : Txt.mul ⟨#[c]⟩ n = reps c n.toNat := by
  unfold Txt.mul reps
  by_cases h1 : n < 1
  · have : n = 0 := by omega
    subst this; rfl
  · rw [if_neg h1]
    by_cases h2 : n = 1
    · subst h2; rfl
    · have : (n == 1 || (⟨#[c]⟩ : Str).length == 0) = false := by
        have : (n == 1) = false := by simpa using h2
        rw [this]; rfl
      rw [if_neg (by rw [this]; decide), fold_one]
theorem EvT.smul {c : Nat} {n : Int} (tl : EvT u k sc σ l (S ⟨#[c]⟩)) (tr : EvT u k sc σ r (I n)) (h0 : 0 ≤ n) (h1 : n < 2 ^ 20) : EvT u k sc σ (.BinOp l .Mult r pos) (S (reps c n.toNat)) :=
  EvT.bin tl tr fun N A s x y Q _ _ _ r1 r2 h => by
    obtain ⟨t, rfl⟩ := RepP.str_inv r1
    obtain ⟨t', rfl⟩ := RepP.int_inv r2
    refine SB.mul ⟨?_, fun h2 h3 => ?_, fun h2 h3 => ?_⟩ (fun t'' n'' => h _ _ _ (.refl _) ?_)
    · simp; omega
    · show ¬ ((1 : Nat) : Int) > (2 ^ 63 - 1) / n
      have : (1 : Int) ≤ (2 ^ 63 - 1) / n := by
        rw [Int.le_ediv_iff_mul_le (by omega)]; omega
      omega
    · show Builtin.Str.tooLong (1 * n.toNat) = false
      unfold Builtin.Str.tooLong
      rw [sizeLine_eq]
      apply decide_eq_false
      omega
    · rw [mul_reps c n h0]; exact RepP.str _ _
theorem live_no {N : Addr → Prop} {h : Heap} (l : Live N h) : ¬ N h.objs.size := fun q => by
  obtain ⟨o, ho, _⟩ := l _ q
  exact absurd (Heap.lt_size ho) (Nat.lt_irrefl _)
theorem none_size (h : Heap) : h.get? h.objs.size = none := by
  cases e : h.get? h.objs.size with
  | none => rfl
  | some o => exact absurd (Heap.lt_size e) (Nat.lt_irrefl _)
/-- a list that was just pushed -/
theorem rep_push (u : U) {N : Addr → Prop} {h : Heap} {vs : List Value} {ds : List PyData} (lv : Live N h) (r : RepPs N h vs ds) : RepP N (h.push { cls := .type "list", data := .seq vs.toArray }) (.ref h.objs.size) (.list ds) := by
  refine RepP.list_mk (vs := vs.toArray) (n := 0) (Heap.get?_push_size _ rfl) (live_no lv) ?_
  exact (RepPs.step (u := u) (X := Nil) r (.push _ _) fun _ => nonil)
theorem rep_pushT (u : U) {N : Addr → Prop} {h : Heap} {vs : List Value} {ds : List PyData} (r : RepPs N h vs ds) : RepP N (h.push { cls := .type "tuple", data := .seq vs.toArray }) (.ref h.objs.size) (.tuple ds) := by
  refine RepP.tuple_mk (vs := vs.toArray) (n := 0) (Heap.get?_push_size _ rfl) ?_
  exact (RepPs.step (u := u) (X := Nil) r (.push _ _) fun _ => nonil)
theorem EvT.ladd {a b : List PyData} (tl : EvT u k sc σ l (Ls a)) (tr : EvT u k sc σ r (Ls b)) (hz : a.length + b.length ≤ sizeLine) : EvT u k sc σ (.BinOp l .Add r pos) (Ls (a ++ b)) :=
  EvT.bin tl tr fun N A s x y Q _ _ lv r1 r2 h => by
    obtain ⟨p, vs, n, rfl, h1, n1, q1⟩ := RepP.list_inv r1
    obtain ⟨p', vs', n', rfl, h2, n2, q2⟩ := RepP.list_inv r2
    have e1 := q1.length
    have e2 := q2.length
    simp only [Array.length_toList] at e1 e2
    refine P.add_list (h1 : IsL s.heap p vs n) (h2 : IsL s.heap p' vs' n') (h _ _ _ (.push _ _) ?_) (by omega)
    have q3 := rep_push u lv (q1.append q2)
    have e3 : (vs.toList ++ vs'.toList).toArray = vs ++ vs' := by apply Array.ext'; simp
    rw [e3] at q3
    exact q3
theorem EvT.lmul {d : PyData} {n : Int} (tl : EvT u k sc σ l (Ls [d])) (tr : EvT u k sc σ r (I n)) (h0 : 0 ≤ n) (h1 : n < 2 ^ 20) : EvT u k sc σ (.BinOp l .Mult r pos) (Ls (List.replicate n.toNat d)) :=
  EvT.bin tl tr fun N A s x y Q _ _ lv r1 r2 h => by
    obtain ⟨p, vs, k, rfl, hp, n1, q1⟩ := RepP.list_inv r1
    obtain ⟨t', rfl⟩ := RepP.int_inv r2
    have e1 := q1.length
    simp only [Array.length_toList, List.length_singleton] at e1
    obtain ⟨v, vs', e2, qv, q2⟩ := q1.inv
    have e3 : vs = #[v] := by
      apply Array.ext'
      rw [e2, q2.inv_nil]
    refine wpAny_binaryOp_repeat_ref (T := "list") (U := "int") (by decide) ⟨_, hp, rfl⟩ (fun s' => typeIs_int s' n t') noFill_list_mul F.fills_int_mul F.slot_int_rmul repeat_list F.slot_int_index.lookup
      (call_meets F.slot_int_rmul (typeIs_int s n t') F.entry_int_rmul (F.args_int_rmul_2 _ _) (int___rmul___int_list n t' p vs k)
        ⟨hp, rfl, ⟨_, hp, rfl⟩, call_meets F.slot_list_mul ⟨_, hp, rfl⟩ F.entry_list_mul (F.args_list_mul_2 _ _)
          (AutoListH.list___mul___list_int_3 p vs k n t' (by simp [Builtin.List.listFitsIndex]; omega) (by rw [e1]; omega) (by simp [Builtin.List.listTooLong, sizeLine]; rw [e1]; omega))
          ⟨hp, h _ _ _ (.push _ _) ?_⟩⟩)
    subst e3
    have e4 : (if (#[v] : Array Value).isEmpty = true then 0 else n.toNat) = n.toNat := rfl
    rw [e4, fold_one]
    refine rep_push u lv ?_
    generalize n.toNat = m
    induction m with
    | zero => exact .nil
    | succ m ih => exact .cons qv ih
end
end
section
/-- a comparison of two values -/
noncomputable def CmpR (u : U) (k : Nat) (op : CmpOp) (a b : Vd) (c : Bool) : Prop :=
  ∀ (N : Addr → Prop) (A : Around) (s : Shared) (x y : Value) (Q : Value → Shared → Prop), Ok A k → Wd u s.heap → Live N s.heap → Rep u N s.heap x a → Rep u N s.heap y b →
    (∀ h' tk, Keeps u Nil s.heap h' → Q (.bool c) { s with heap := h', toks := tk }) → wpAny u.M A (compareOp op x y) Q NoE s
section
variable {u : U} {k : Nat} {sc : Scope} {σ : St} {pos : Pos} {l r e : Expr}
theorem EvT.cmp {op : CmpOp} {a b : Vd} {c : Bool} (tl : EvT u k sc σ l a) (tr : EvT u k sc σ r b) (R : CmpR u k op a b c) (hm : behindInMarks op r = false := by with_unfolding_all rfl) :
    EvT u k sc σ (.Compare l [op] [r] pos) (B c) :=
  EvT.mk fun env N A s Q H h => by
    refine wpAny_Compare1 (tl.use H fun x h1 t1 k1 H1 r1 => tr.use (s := { s with heap := h1, toks := t1 }) H1 fun y h2 t2 k2 H2 r2 => ?_) hm
    refine R N A _ x y Q H2.ok H2.wd H2.live (r1.step k2 fun _ => nonil) r2 fun h3 t3 k3 => ?_
    exact h _ h3 t3 ((k1.trans k2).trans k3) (RepP.bool c)
theorem TsT.cmp {op : CmpOp} {a b : Vd} {c : Bool} (tl : EvT u k sc σ l a) (tr : EvT u k sc σ r b) (R : CmpR u k op a b c) (hm : behindInMarks op r = false := by with_unfolding_all rfl) :
    TsT u k sc σ (.Compare l [op] [r] pos) c :=
  TsT.mk fun env N A s Q H h => by
    refine wpAny_isTrue_Compare1 (tl.use H fun x h1 t1 k1 H1 r1 => tr.use (s := { s with heap := h1, toks := t1 }) H1 fun y h2 t2 k2 H2 r2 => ?_) hm
    refine R N A _ x y _ H2.ok H2.wd H2.live (r1.step k2 fun _ => nonil) r2 fun h3 t3 k3 => ?_
    exact wpAny_truthy_bool (h h3 t3 ((k1.trans k2).trans k3))
theorem CmpR.ints {op : CmpOp} {a b : Int} {c : Bool} (rule : ∀ (A : Around) (s : Shared) (t t' : Tok) (Q : Value → Shared → Prop), Q (.bool c) s → wpAny u.M A (compareOp op (.int a t) (.int b t')) Q NoE s) : CmpR u k op (I a) (I b) c :=
  fun N A s x y Q _ _ _ r1 r2 h => by
    obtain ⟨t, rfl⟩ := RepP.int_inv r1
    obtain ⟨t', rfl⟩ := RepP.int_inv r2
    exact rule A s t t' Q (h s.heap s.toks (.refl _))
theorem CmpR.lt {a b : Int} : CmpR u k .Lt (I a) (I b) (decide (a < b)) := .ints fun _ _ _ _ _ h => wpAny_lt_int h
theorem CmpR.le {a b : Int} : CmpR u k .LtE (I a) (I b) (decide (a ≤ b)) := .ints fun _ _ _ _ _ h => PyProof.Rows.le_int h
theorem CmpR.gt {a b : Int} : CmpR u k .Gt (I a) (I b) (decide (b < a)) := .ints fun _ _ _ _ _ h => PyProof.Rows.gt_int h
theorem CmpR.ge {a b : Int} : CmpR u k .GtE (I a) (I b) (decide (b ≤ a)) := .ints fun _ _ _ _ _ h => PyProof.Rows.ge_int h
theorem CmpR.slt {a b : Str} : CmpR u k .Lt (S a) (S b) (decide (a.cps.toList < b.cps.toList)) :=
  fun N A s x y Q _ _ _ r1 r2 h => by
    obtain ⟨t, rfl⟩ := RepP.str_inv r1
    obtain ⟨t', rfl⟩ := RepP.str_inv r2
    exact P.lt_str (h s.heap s.toks (.refl _))
theorem CmpR.eq {a b : PyData} (ha : SeqAt.shaped a = true) (hb : SeqAt.shaped b = true) : CmpR u k .Eq (.py a) (.py b) (PyData.eqv a b) :=
  fun N A s x y Q o _ _ r1 r2 h => by
    obtain ⟨_, q1⟩ := RepP.reads r1
    obtain ⟨_, q2⟩ := RepP.reads r2
    exact SeqAt.compareEq_shaped q1 q2 ha hb (by have := o.units; omega) (h s.heap s.toks (.refl _))
theorem CmpR.ne {a b : PyData} (ha : SeqAt.shaped a = true) (hb : SeqAt.shaped b = true) : CmpR u k .NotEq (.py a) (.py b) (!PyData.eqv a b) :=
  fun N A s x y Q o _ _ r1 r2 h => by
    obtain ⟨_, q1⟩ := RepP.reads r1
    obtain ⟨_, q2⟩ := RepP.reads r2
    exact SeqAt.compareNe_shaped q1 q2 ha hb (by have := o.units; omega) (h s.heap s.toks (.refl _))
theorem CmpR.nonenone : CmpR u k .Is (.py .none) (.py .none) true :=
  fun N A s x y Q _ _ _ r1 r2 h => by
    have e1 := RepP.none_inv r1
    have e2 := RepP.none_inv r2
    subst e1 e2
    exact is_none (h s.heap s.toks (.refl _))
/-! tests -/
theorem TsT.vint {a : Int} (t : EvT u k sc σ e (I a)) (he : ∀ env whole, isTrue e env whole = (do let v ← whole; standAt e.pos; holding [v] (truthy v)) := by intros; rfl) : TsT u k sc σ e (a != 0) :=
  TsT.mk fun env N A s Q H h => wpAny_isTrue_value (t.use H fun v h1 t1 k1 H1 r1 => by
    obtain ⟨t, rfl⟩ := RepP.int_inv r1
    exact P.truthy_int (h h1 t1 k1)) (he _ _)
theorem TsT.vbool {b : Bool} (t : EvT u k sc σ e (B b)) (he : ∀ env whole, isTrue e env whole = (do let v ← whole; standAt e.pos; holding [v] (truthy v)) := by intros; rfl) : TsT u k sc σ e b :=
  TsT.mk fun env N A s Q H h => wpAny_isTrue_value (t.use H fun v h1 t1 k1 H1 r1 => by
    have e1 := RepP.bool_inv r1
    subst e1
    exact wpAny_truthy_bool (h h1 t1 k1)) (he _ _)
theorem TsT.vlist {xs : List PyData} (t : EvT u k sc σ e (Ls xs)) (hz : xs.length < 2 ^ 62) (he : ∀ env whole, isTrue e env whole = (do let v ← whole; standAt e.pos; holding [v] (truthy v)) := by intros; rfl) : TsT u k sc σ e (decide (0 < xs.length)) :=
  TsT.mk fun env N A s Q H h => wpAny_isTrue_value (t.use H fun v h1 t1 k1 H1 r1 => by
    obtain ⟨p, vs, n, rfl, hp, _, q⟩ := RepP.list_inv r1
    have e1 := q.length
    simp only [Array.length_toList] at e1
    refine wpAny_truthy_list (items := vs) ⟨_, hp, rfl, n, rfl⟩ (by omega) ?_
    have e2 : (!vs.isEmpty) = decide (0 < xs.length) := by
      rw [← e1]
      by_cases z : vs.size = 0
      · simp [Array.isEmpty, z]
      · simp [Array.isEmpty, z]; omega
    have q := h h1 (t1 + 1 + 1) k1
    rw [← e2] at q
    exact q) (he _ _)
theorem TsT.not {b : Bool} (t : TsT u k sc σ e b) : TsT u k sc σ (.UnaryOp .Not e pos) (!b) :=
  TsT.mk fun env N A s Q H h => wpAny_isTrue_Not (t.use H fun h1 t1 k1 H1 => h h1 t1 k1)
/-- «and» of two bools as a value -/
theorem EvT.and2 {b c : Bool} (t : EvT u k sc σ l (B b)) (t' : b = true → EvT u k sc σ r (B c)) : EvT u k sc σ (.BoolOp .And [l, r] pos) (B (b && c)) :=
  EvT.mk fun env N A s Q H h => wpAny_And2 (t.use H fun v h1 t1 k1 H1 r1 => by
    have e1 := RepP.bool_inv r1
    subst e1
    refine wpAny_truthy_bool ?_
    cases b with
    | false => exact h _ h1 t1 k1 (RepP.bool _)
    | true => exact (t' rfl).use (s := { s with heap := h1, toks := t1 }) H1 fun v h2 t2 k2 H2 r2 => h v h2 t2 (k1.trans k2) r2)
theorem EvT.neg {a : Int} (t : EvT u k sc σ e (I a)) : EvT u k sc σ (.UnaryOp .USub e pos) (I (-a)) :=
  EvT.mk fun env N A s Q H h => wpAny_UnaryOp (t.use H fun v h1 t1 k1 H1 r1 => by
    obtain ⟨t, rfl⟩ := RepP.int_inv r1
    exact P.neg_int (h _ _ _ k1 (RepP.int _ _)))
theorem EvT.inv {a : Int} (t : EvT u k sc σ e (I a)) : EvT u k sc σ (.UnaryOp .Invert e pos) (I (Builtin.bitNot a)) :=
  EvT.mk fun env N A s Q H h => wpAny_UnaryOp (t.use H fun v h1 t1 k1 H1 r1 => by
    obtain ⟨t, rfl⟩ := RepP.int_inv r1
    exact PyProof.Rows.invert_int (h _ _ _ k1 (RepP.int _ _)))
end
end
section
noncomputable def RepVs (u : U) (N : Addr → Prop) (h : Heap) : List Value → List Vd → Prop
  | [], [] => True
  | v :: vs, d :: ds => Rep u N h v d ∧ RepVs u N h vs ds
  | _, _ => False
theorem RepVs.step {u : U} {N X : Addr → Prop} {h h' : Heap} (k : Keeps u X h h') (s : ∀ a, X a → N a) : ∀ {vs : List Value} {ds : List Vd}, RepVs u N h vs ds → RepVs u N h' vs ds
  | [], [], _ => trivial
  | _ :: _, _ :: _, r => ⟨r.1.step k s, r.2.step k s⟩
  | [], _ :: _, r => r.elim
  | _ :: _, [], r => r.elim
theorem RepVs.anti {u : U} {N N' : Addr → Prop} {h : Heap} (s : ∀ a, N' a → N a) : ∀ {vs : List Value} {ds : List Vd}, RepVs u N h vs ds → RepVs u N' h vs ds
  | [], [], _ => trivial
  | _ :: _, _ :: _, r => ⟨r.1.anti s, r.2.anti s⟩
  | [], _ :: _, r => r.elim
  | _ :: _, [], r => r.elim
theorem RepVs.pys {u : U} {N : Addr → Prop} {h : Heap} : ∀ {vs : List Value} {ds : List PyData}, RepVs u N h vs (ds.map .py) → RepPs N h vs ds
  | [], [], _ => .nil
  | _ :: _, _ :: _, r => .cons r.1 r.2.pys
  | [], _ :: _, r => r.elim
  | _ :: _, [], r => r.elim
noncomputable def plainE : Expr → Bool
  | .Starred .. => false
  | _ => true
theorem starEach_plain {e : Expr} (h : plainE e = true) (rest : List Expr) (env : Env) : starEach (e :: rest) env = (false, eval e env) :: starEach rest env := by
  cases e <;> first | rfl | cases h
theorem noStar {pos : Pos} {env : Env} : ∀ {es : List Expr}, es.all plainE = true → (backTo pos (starEach es env)).any (·.1) = false
  | [], _ => rfl
  | e :: es, h => by
    rw [List.all_cons, Bool.and_eq_true] at h
    rw [starEach_plain h.1]
    show (false || (backTo pos (starEach es env)).any (·.1)) = false
    rw [noStar h.2]; rfl
noncomputable def EvTs (u : U) (k : Nat) (sc : Scope) (σ : St) : List Expr → List Vd → Prop
  | [], [] => True
  | e :: es, d :: ds => EvT u k sc σ e d ∧ EvTs u k sc σ es ds
  | _, _ => False
section
variable {u : U} {k : Nat} {sc : Scope} {σ : St} {pos : Pos} {l r e : Expr}
theorem EvTs.nil : EvTs u k sc σ [] [] := trivial
theorem EvTs.cons {es : List Expr} {d : Vd} {ds : List Vd} (t : EvT u k sc σ e d) (ts : EvTs u k sc σ es ds) : EvTs u k sc σ (e :: es) (d :: ds) := ⟨t, ts⟩
theorem EvTs.use : ∀ {es : List Expr} {ds : List Vd}, EvTs u k sc σ es ds → es.all plainE = true → ∀ {env : Env} {N : Addr → Prop} {A : Around} {s : Shared} {Q : List Value → Shared → Prop},
    Here u k sc σ env N A s.heap → (∀ vs h' tk, Keeps u Nil s.heap h' → Here u k sc σ env N A h' → RepVs u N h' vs ds → Q vs { s with heap := h', toks := tk }) →
    wpAny u.M A (spliced (backTo pos (starEach es env))) Q NoE s
  | [], [], _, _, _, _, _, s, _, H, h => wpAny_items_nil (h [] s.heap s.toks (.refl _) H trivial)
  | e :: es, d :: ds, t, hp, env, N, A, s, Q, H, h => by
    rw [List.all_cons, Bool.and_eq_true] at hp
    refine wpAny_items_cons (t.1.use H fun v h1 t1 k1 H1 r1 => EvTs.use t.2 hp.2 (s := { s with heap := h1, toks := t1 }) H1 fun vs h2 t2 k2 H2 r2 => ?_) (starEach_plain hp.1 _ _)
    exact h _ h2 t2 (k1.trans k2) H2 ⟨r1.step k2 fun _ => nonil, r2⟩
  | [], _ :: _, t, _, _, _, _, _, _, _, _ => t.elim
  | _ :: _, [], t, _, _, _, _, _, _, _, _ => t.elim
theorem EvT.list {es : List Expr} {ds : List PyData} (t : EvTs u k sc σ es (ds.map .py)) (hp : es.all plainE = true := by rfl) (hz : ds.length ≤ 2 ^ 20 := by simp) : EvT u k sc σ (.List es pos) (Ls ds) :=
  EvT.mk fun env N A s Q H h => wpAny_List (t.use hp H fun vs h1 t1 k1 H1 r1 => by
    have q := r1.pys
    refine ⟨by rw [q.length, sizeLine_eq]; omega, h _ _ _ (k1.trans (.push _ _)) (rep_push u H1.live q)⟩)
theorem EvT.tuple {es : List Expr} {ds : List PyData} {j : Nat} (t : EvTs u k sc σ es (ds.map .py)) (hp : es.all plainE = true := by rfl) (hz : ds.length ≤ 2 ^ 20 := by simp) : EvT u k sc σ (.Tuple es j pos) (Tu ds) :=
  EvT.mk fun env N A s Q H h => wpAny_Tuple (t.use hp H fun vs h1 t1 k1 H1 r1 => by
    have q := r1.pys
    refine ⟨by rw [q.length, sizeLine_eq]; omega, h _ _ _ (k1.trans (.push _ _)) (rep_pushT u q)⟩)
/-! items -/
noncomputable def noSlice : Expr → Bool
  | .Slice .. => false
  | _ => true
theorem subscripted_plain {sl : Expr} (h : noSlice sl = true) (o i : Value) : subscripted sl false o i = operate [o, i] (getItem o i) := by
  cases sl <;> first | rfl | cases h
theorem EvT.item {xs : List PyData} {i : Int} {d : PyData} (t : EvT u k sc σ l (Ls xs)) (ti : EvT u k sc σ r (I i)) (h0 : 0 ≤ i) (hz : i < 2 ^ 62) (hd : xs[i.toNat]? = some d) (hs : noSlice r = true := by rfl) :
    EvT u k sc σ (.Subscript l r pos) (.py d) :=
  EvT.mk fun env N A s Q H h => Subscript_ (t.use H fun v h1 t1 k1 H1 r1 => ti.use (s := { s with heap := h1, toks := t1 }) H1 fun w h2 t2 k2 H2 r2 => by
    obtain ⟨p, vs, n, rfl, hp, _, q⟩ := RepP.list_inv (RepP.step r1 k2 fun _ => nonil)
    obtain ⟨t', rfl⟩ := RepP.int_inv r2
    obtain ⟨x, hx, rx⟩ := q.get hd
    have hl : h2.IsList p vs := ⟨_, hp, rfl, n, rfl⟩
    exact tail_any hl.typeIs slot_list_getitem.lookup (wpAny_getItem_list hl h0 (by omega) (by simpa using hx) (h x h2 t2 (k1.trans k2) rx)) (subscripted_plain hs _ _))
theorem EvT.titem {xs : List PyData} {i : Int} {d : PyData} (t : EvT u k sc σ l (Tu xs)) (ti : EvT u k sc σ r (I i)) (h0 : 0 ≤ i) (hz : i < 2 ^ 62) (hd : xs[i.toNat]? = some d) (hs : noSlice r = true := by rfl) :
    EvT u k sc σ (.Subscript l r pos) (.py d) :=
  EvT.mk fun env N A s Q H h => Subscript_ (t.use H fun v h1 t1 k1 H1 r1 => ti.use (s := { s with heap := h1, toks := t1 }) H1 fun w h2 t2 k2 H2 r2 => by
    obtain ⟨p, vs, n, rfl, hp, q⟩ := RepP.tuple_inv (RepP.step r1 k2 fun _ => nonil)
    obtain ⟨t', rfl⟩ := RepP.int_inv r2
    obtain ⟨x, hx, rx⟩ := q.get hd
    have e1 := q.length
    simp only [Array.length_toList] at e1
    have hl : IsTup h2 p vs := ⟨_, hp, rfl, n, rfl⟩
    have hlt : i.toNat < vs.size := by
      have := (List.getElem?_eq_some_iff.mp hd).1
      omega
    exact tail_any hl.typeIs F.slot_tuple_getitem.lookup (getItem_tuple hl (by omega) (by omega) (seqIndex_of h0 (by omega)) (by simpa using hx) (h x h2 t2 (k1.trans k2) rx)) (subscripted_plain hs _ _))
theorem EvT.sitem {x : Str} {i : Int} {c : Nat} (t : EvT u k sc σ l (S x)) (ti : EvT u k sc σ r (I i)) (h0 : 0 ≤ i) (hz : i < 2 ^ 62) (hd : x.cps[i.toNat]? = some c) (hs : noSlice r = true := by rfl) :
    EvT u k sc σ (.Subscript l r pos) (S ⟨#[c]⟩) :=
  EvT.mk fun env N A s Q H h => Subscript_ (t.use H fun v h1 t1 k1 H1 r1 => ti.use (s := { s with heap := h1, toks := t1 }) H1 fun w h2 t2 k2 H2 r2 => by
    obtain ⟨t', rfl⟩ := RepP.str_inv r1
    obtain ⟨t'', rfl⟩ := RepP.int_inv r2
    have hlt : i.toNat < x.cps.size := (Array.getElem?_eq_some_iff.mp hd).1
    refine tail_any (typeIs_str _ x t') F.slot_str_getitem.lookup (P.getItem_str (c := c) (by simp; omega) ?_ (h _ h2 _ (k1.trans k2) (RepP.str _ _))) (subscripted_plain hs _ _)
    rw [seqIndex_of h0 (by show i < (x.cps.size : Int); omega)]
    exact hd)
/-- a part of a slice -/
noncomputable def PartT (u : U) (k : Nat) (sc : Scope) (σ : St) : Option Expr → Option Int → Prop
  | none, none => True
  | some e, some i => EvT u k sc σ e (I i)
  | _, _ => False
theorem PartT.use {x : Option Expr} {o : Option Int} (t : PartT u k sc σ x o) {env : Env} {N : Addr → Prop} {A : Around} {s : Shared} {Q : Value → Shared → Prop} (H : Here u k sc σ env N A s.heap)
    (h : ∀ v h' tk, Keeps u Nil s.heap h' → Here u k sc σ env N A h' → IsPart v o → (∀ i, o = some i → ∃ t, v = .int i t) → Q v { s with heap := h', toks := tk }) : wpAny u.M A (evalPart x env) Q NoE s := by
  cases x with
  | none =>
    cases o with
    | none => rw [PySem.evalPart_none]; exact wpAny_pure (h _ s.heap s.toks (.refl _) H .none (fun _ e => nomatch e))
    | some i => exact t.elim
  | some e =>
    cases o with
    | none => exact t.elim
    | some i =>
      rw [PySem.evalPart_some]
      refine EvT.use t H fun v h1 t1 k1 H1 r1 => ?_
      obtain ⟨t', rfl⟩ := RepP.int_inv r1
      exact h _ h1 t1 k1 H1 (.int i t') (fun j e => by cases e; exact ⟨t', rfl⟩)
theorem EvT.lslice {xs ys : List PyData} {lo hi st : Option Expr} {a b c : Option Int} {pp : Pos} (t : EvT u k sc σ l (Ls xs)) (ta : PartT u k sc σ lo a) (tb : PartT u k sc σ hi b) (tc : PartT u k sc σ st c) (h0 : c ≠ some 0)
    (hz : xs.length ≤ 2 ^ 20) (hy : ∀ (N : Addr → Prop) (h : Heap) (vs : Array Value), RepPs N h vs.toList xs → RepPs N h (slicePick vs a b c).toList ys) : EvT u k sc σ (.Subscript l (.Slice lo hi st pp) pos) (Ls ys) :=
  EvT.mk fun env N A s Q H h => Subscript_ (t.use H fun v h1 t1 k1 H1 r1 => wpAny_Slice (ta.use (s := { s with heap := h1, toks := t1 }) H1 fun va h2 t2 k2 H2 pa _ =>
    tb.use (s := { s with heap := h2, toks := t2 }) H2 fun vb h3 t3 k3 H3 pb _ => tc.use (s := { s with heap := h3, toks := t3 }) H3 fun vc h4 t4 k4 H4 pc _ => by
    obtain ⟨p, vs, n, rfl, hp, _, q⟩ := RepP.list_inv (RepP.step r1 ((k2.trans k3).trans k4) fun _ => nonil)
    have e1 := q.length
    simp only [Array.length_toList] at e1
    have hl : h4.IsList p vs := ⟨_, hp, rfl, n, rfl⟩
    have hsub : ∃ ops, subscripted (.Slice lo hi st pp) false (.ref p) (.ref h4.objs.size) = operate ops (getItem (.ref p) (.ref h4.objs.size)) := by
      cases st
      · exact ⟨_, rfl⟩
      · exact ⟨_, rfl⟩
    obtain ⟨ops, hops⟩ := hsub
    refine tail_any (ops := ops) (hl.push _).typeIs slot_list_getitem.lookup (wpAny_getItem_list_slice (hl.push _) (Heap.IsSliceOf.new ..) pa pb pc h0 ?_ (by rw [e1, sizeLine_eq]; omega)) hops
    have k5 : Keeps u Nil h4 (h4.push { cls := .type "slice", data := .fields #[va, vb, vc] }) := .push _ _
    have H5 := H4.step k5
    have q5 := q.step k5 fun _ => nonil
    have q6 := rep_push u H5.live (hy N _ vs q5)
    rw [Array.toArray_toList] at q6
    exact h _ _ _ ((((k1.trans k2).trans k3).trans k4).trans (k5.trans (.push _ _))) q6))
theorem EvT.upto {xs : List PyData} {b : Int} {hi : Expr} {pp : Pos} (t : EvT u k sc σ l (Ls xs)) (tb : EvT u k sc σ hi (I b)) (hb : 0 ≤ b) (hz : xs.length ≤ 2 ^ 20) : EvT u k sc σ (.Subscript l (.Slice none (some hi) none pp) pos) (Ls (xs.take b.toNat)) :=
  EvT.lslice (a := none) (b := some b) (c := none) t trivial tb trivial nofun hz fun N h vs q => by
    obtain ⟨m, rfl⟩ := Int.eq_ofNat_of_zero_le hb
    rw [slicePick_upto']
    simpa using q.take m
theorem EvT.dropf {xs : List PyData} {a : Int} {lo : Expr} {pp : Pos} (t : EvT u k sc σ l (Ls xs)) (ta : EvT u k sc σ lo (I a)) (ha : 0 ≤ a) (hz : xs.length ≤ 2 ^ 20) : EvT u k sc σ (.Subscript l (.Slice (some lo) none none pp) pos) (Ls (xs.drop a.toNat)) :=
  EvT.lslice (a := some a) (b := none) (c := none) t ta trivial trivial nofun hz fun N h vs q => by
    obtain ⟨m, rfl⟩ := Int.eq_ofNat_of_zero_le ha
    rw [slicePick_from']
    simpa using q.drop m
theorem EvT.mid {xs : List PyData} {a b : Int} {lo hi : Expr} {pp : Pos} (t : EvT u k sc σ l (Ls xs)) (ta : EvT u k sc σ lo (I a)) (tb : EvT u k sc σ hi (I b)) (ha : 0 ≤ a) (hb : 0 ≤ b) (hz : xs.length ≤ 2 ^ 20) :
    EvT u k sc σ (.Subscript l (.Slice (some lo) (some hi) none pp) pos) (Ls ((xs.take b.toNat).drop a.toNat)) :=
  EvT.lslice (a := some a) (b := some b) (c := none) t ta tb trivial nofun hz fun N h vs q => by
    obtain ⟨m, rfl⟩ := Int.eq_ofNat_of_zero_le ha
    obtain ⟨n, rfl⟩ := Int.eq_ofNat_of_zero_le hb
    have e : (slicePick vs (some (m : Int)) (some (n : Int)) none).toList = (vs.toList.take n).drop m := by
      rw [slicePick_plain]
      simp only [Option.elim, clipAt_nat]
      apply List.ext_getElem?
      intro i
      have hz : vs.toList.length = vs.size := by simp
      simp only [List.getElem?_take, List.getElem?_drop]
      by_cases h1 : m + i < n
      · rw [if_pos h1]
        by_cases h2 : m + i < vs.size
        · have e1 : min m vs.size = m := by omega
          have e2 : i < min n vs.size - min m vs.size := by omega
          rw [if_pos e2, e1]
        · have e2 : ¬ i < min n vs.size - min m vs.size := by omega
          rw [if_neg e2, List.getElem?_eq_none (by omega)]
      · have e2 : ¬ i < min n vs.size - min m vs.size := by omega
        rw [if_neg h1, if_neg e2]
    rw [e]
    simpa using (q.take n).drop m
theorem EvT.rev {xs : List PyData} {st : Expr} {pp : Pos} (t : EvT u k sc σ l (Ls xs)) (tc : EvT u k sc σ st (I (-1))) (hz : xs.length ≤ 2 ^ 20) :
    EvT u k sc σ (.Subscript l (.Slice none none (some st) pp) pos) (Ls xs.reverse) :=
  EvT.lslice (a := none) (b := none) (c := some (-1)) t trivial trivial tc (by decide) hz fun N h vs q => by
    rw [krv_pick]
    simpa using q.reverse
theorem PartT.useS {x : Option Expr} {o : Option Int} (t : PartT u k sc σ x o) {env : Env} {N : Addr → Prop} {A : Around} {s : Shared} {Q : Value → Shared → Prop} (H : Here u k sc σ env N A s.heap)
    (h : ∀ p h' tk, Keeps u Nil s.heap h' → Here u k sc σ env N A h' → p.map (·.1) = o → Q (partValue p) { s with heap := h', toks := tk }) : wpAny u.M A (evalPart x env) Q NoE s := by
  cases x with
  | none =>
    cases o with
    | none => rw [PySem.evalPart_none]; exact wpAny_pure (h none s.heap s.toks (.refl _) H rfl)
    | some i => exact t.elim
  | some e =>
    cases o with
    | none => exact t.elim
    | some i =>
      rw [PySem.evalPart_some]
      refine EvT.use t H fun v h1 t1 k1 H1 r1 => ?_
      obtain ⟨t', rfl⟩ := RepP.int_inv r1
      exact h (some (i, t')) h1 t1 k1 H1 rfl
theorem EvT.sslice {x y : Str} {lo hi : Option Expr} {a b : Option Int} {pp : Pos} (t : EvT u k sc σ l (S x)) (ta : PartT u k sc σ lo a) (tb : PartT u k sc σ hi b)
    (hz : y.length ≤ 2 ^ 20) (hy : ((Builtin.Str.strSliceIndices a b 1 x.length).filterMap (x.cps[·]?)) = y.cps.toList)
    (hx : (Builtin.Str.strSliceIndices a b 1 x.length).length = x.length → x = y) : EvT u k sc σ (.Subscript l (.Slice lo hi none pp) pos) (S y) :=
  EvT.mk fun env N A s Q H h => Subscript_ (t.use H fun v h1 t1 k1 H1 r1 => wpAny_Slice (ta.useS (s := { s with heap := h1, toks := t1 }) H1 fun pa h2 t2 k2 H2 ea =>
    tb.useS (s := { s with heap := h2, toks := t2 }) H2 fun pb h3 t3 k3 H3 eb => by
    obtain ⟨t', rfl⟩ := RepP.str_inv r1
    rw [PySem.evalPart_none]
    refine wpAny_pure ?_
    have k5 : Keeps u Nil h3 (h3.push { cls := .type "slice", data := .fields #[partValue pa, partValue pb, .none] }) := .push _ _
    refine tail_any (ops := _) (typeIs_str _ x t') F.slot_str_getitem.lookup (wpAny_getItem_str_slice (l := pa) (u := pb) (st := none) ⟨_, Heap.get?_push_size _ rfl, rfl, rfl⟩ rfl ?_) rfl
    have hp : slicePicked x pa pb none = Builtin.Str.strSliceIndices a b 1 x.length := by unfold slicePicked; rw [ea, eb]; rfl
    unfold sliceMade
    rw [hp]
    by_cases hc : (((Option.map (fun x => x.1) (none : Option (Int × Tok))).getD 1 == 1 && (Builtin.Str.strSliceIndices a b 1 x.length).length == x.length) = true)
    · rw [if_pos hc]
      rw [Bool.and_eq_true] at hc
      have e := hx (by simpa using hc.2)
      subst e
      exact h _ _ _ (((k1.trans k2).trans k3).trans k5) (RepP.str _ _)
    · rw [if_neg hc]
      rw [hy]
      have e : (⟨y.cps.toList.toArray⟩ : Str) = y := by simp
      rw [e]
      exact ⟨by rw [sizeLine_eq]; omega, h _ _ _ (((k1.trans k2).trans k3).trans k5) (RepP.str _ _)⟩))
end
end
section
/-- the text's function f, as its object stands -/
structure FnAt (u : U) (f : Str) (a : Addr) (fd : FuncData) : Prop where
  mg : u.mg f = some (.ref a)
  ob : ∃ o, u.hB.get? a = some o ∧ o.data = .func fd ∧ o.cls ≠ .none
  code : ∃ c o vs t, fd.code = .ref c ∧ u.hB.get? c = some o ∧ o.cls ≠ .none ∧ o.data = .fields vs ∧ vs[1]? = some (.str fd.qualname t)
  globals : fd.globals = mainGlobals
  builtins : fd.builtins = builtinsNs
theorem Wd.at {u : U} {h : Heap} (x : Wd u h) {a : Addr} {o : Obj} (e : u.hB.get? a = some o) (hc : o.cls ≠ .none) : h.get? a = some o := x.old.get_of_cls e hc
theorem FnAt.here {u : U} {f : Str} {a : Addr} {fd : FuncData} (F : FnAt u f a fd) {h : Heap} (x : Wd u h) : ∃ o, h.get? a = some o ∧ o.data = .func fd := let ⟨o, e, d, c⟩ := F.ob; ⟨o, x.at e c, d⟩
theorem FnAt.codeRec {u : U} {f : Str} {a : Addr} {fd : FuncData} (F : FnAt u f a fd) {h : Heap} (x : Wd u h) : h.CodeRec fd.code fd.qualname := let ⟨c, o, vs, t, e, g, n, r⟩ := F.code; ⟨c, o, vs, t, e, x.at g n, r⟩
structure Bl (u : U) (sc : Scope) (f : Str) (v : Value) : Prop where
  x : sc.names.lookup f = some .globalImplicit
  m : u.mg f = none
  b : u.mb f = some v
/-- f, called with data args (and those by name), gives d -/
noncomputable def CaT (u : U) (k : Nat) (f : Str) (args : List Vd) (names : List Str) (kds : List Vd) (d : Vd) : Prop :=
  ∀ (N : Addr → Prop) (A : Around) (s : Shared) (R : Result → Shared → Prop) (a : Addr) (vs kvs : List Value), Ok A k → Wd u s.heap → Live N s.heap → u.mg f = some (.ref a) → RepVs u N s.heap vs args → RepVs u N s.heap kvs kds →
    (∀ v h' tk, Keeps u Nil s.heap h' → Rep u N h' v d → R (.ok (.ret v)) { s with heap := h', toks := tk }) → codeAny u.M A (.call (.ref a) ⟨vs, names.zip kvs⟩) R s
section
variable {u : U} {k : Nat} {sc : Scope} {σ : St} {pos p : Pos} {l r e : Expr}
theorem globN {x : Str} {env : Env} {N : Addr → Prop} {A : Around} {s : Shared} {v : Value} {Q : Value → Shared → Prop} (H : Here u k sc σ env N A s.heap) (hx : sc.names.lookup x = some .globalImplicit) (hm : u.mg x = some v) (h : Q v s)
    (hd : (x == ("__debug__" : Str)) = false := by decide) : wpAny u.M A (eval (.Name x pos) env) Q NoE s :=
  Name_function_global H.is.fn (by rw [H.is.kindOf]; exact hx) (loadGlobal_global (by rw [H.is.globals]; exact H.wd.glob) hm h) hd
theorem bltN {x : Str} {env : Env} {N : Addr → Prop} {A : Around} {s : Shared} {v : Value} {Q : Value → Shared → Prop} (H : Here u k sc σ env N A s.heap) (hx : sc.names.lookup x = some .globalImplicit) (hm : u.mg x = none) (hb : u.mb x = some v) (h : Q v s)
    (hd : (x == ("__debug__" : Str)) = false := by decide) : wpAny u.M A (eval (.Name x pos) env) Q NoE s :=
  Name_function_global H.is.fn (by rw [H.is.kindOf]; exact hx) (loadGlobal_builtin (by rw [H.is.globals]; exact H.wd.glob) hm (by rw [H.is.builtins]; exact H.wd.bltn) hb h) hd
/-- arguments by place: evaluated -/
theorem evalArgs_use {es : List Expr} {ds : List Vd} (ts : EvTs u k sc σ es ds) (hp : es.all plainE = true) {env : Env} {N : Addr → Prop} {A : Around} {s : Shared} {f : Value} {Q : Args → Shared → Prop} (H : Here u k sc σ env N A s.heap)
    (h : ∀ vs h' tk, Keeps u Nil s.heap h' → Here u k sc σ env N A h' → RepVs u N h' vs ds → Q ⟨vs, []⟩ { s with heap := h', toks := tk }) :
    wpAny u.M A (evalArgs f true (backTo pos (starEach es env)) []) Q NoE s := by
  cases es with
  | nil =>
    cases ds with
    | nil => exact PySem.evalArgs_none (h [] s.heap s.toks (.refl _) H trivial)
    | cons => exact ts.elim
  | cons e es =>
    have hp' := hp
    rw [List.all_cons, Bool.and_eq_true] at hp'
    have q := EvTs.use (pos := pos) ts hp (Q := fun vs s' => Q ⟨vs, []⟩ s') H h
    rw [starEach_plain hp'.1] at q ⊢
    exact evalArgs_plain q
theorem EvT.bltn {f : Str} {id : String} {es : List Expr} {ds : List Vd} {d : Vd} (bl : Bl u sc f (.builtin id)) (ts : EvTs u k sc σ es ds)
    (rule : ∀ (N : Addr → Prop) (A : Around) (s : Shared) (vs : List Value) (Q : Value → Shared → Prop), Ok A k → Wd u s.heap → Live N s.heap → RepVs u N s.heap vs ds →
      (∀ v h' tk, Keeps u Nil s.heap h' → Rep u N h' v d → Q v { s with heap := h', toks := tk }) → wpAny u.M A (call (.builtin id) vs) Q NoE s)
    (hp : es.all plainE = true := by rfl) (hd : (f == ("__debug__" : Str)) = false := by decide) : EvT u k sc σ (.Call (.Name f p) es [] pos) d :=
  EvT.mk fun env N A s Q H h => Call_ (bltN H bl.x bl.m bl.b (Calls.callWith_builtin (noStar hp) (evalArgs_use ts hp H fun vs h1 t1 k1 H1 r1 =>
    rule N A { s with heap := h1, toks := t1 } vs Q H1.ok H1.wd H1.live r1 fun v h2 t2 k2 r2 => h v h2 t2 (k1.trans k2) r2)) hd)
theorem EvT.btype {f : Str} {T : String} {es : List Expr} {ds : List Vd} {d : Vd} (bl : Bl u sc f (.type T)) (ts : EvTs u k sc σ es ds)
    (rule : ∀ (N : Addr → Prop) (A : Around) (s : Shared) (vs : List Value) (Q : Value → Shared → Prop), Ok A k → Wd u s.heap → Live N s.heap → RepVs u N s.heap vs ds →
      (∀ v h' tk, Keeps u Nil s.heap h' → Rep u N h' v d → Q v { s with heap := h', toks := tk }) → wpAny u.M A (call (.type T) vs) Q NoE s)
    (hp : es.all plainE = true := by rfl) (hd : (f == ("__debug__" : Str)) = false := by decide) : EvT u k sc σ (.Call (.Name f p) es [] pos) d :=
  EvT.mk fun env N A s Q H h => Call_ (bltN H bl.x bl.m bl.b (PySem.callWith_type (noStar hp) (evalArgs_use ts hp H fun vs h1 t1 k1 H1 r1 =>
    rule N A { s with heap := h1, toks := t1 } vs Q H1.ok H1.wd H1.live r1 fun v h2 t2 k2 r2 => h v h2 t2 (k1.trans k2) r2)) hd)
theorem RepVs.inv1 {N : Addr → Prop} {h : Heap} {vs : List Value} {d : Vd} (r : RepVs u N h vs [d]) : ∃ v, vs = [v] ∧ Rep u N h v d := by
  match vs, r with
  | [v], r => exact ⟨v, rfl, r.1⟩
  | [], r => exact r.elim
  | _ :: _ :: _, r => exact r.2.elim
theorem RepVs.inv2 {N : Addr → Prop} {h : Heap} {vs : List Value} {d d' : Vd} (r : RepVs u N h vs [d, d']) : ∃ v v', vs = [v, v'] ∧ Rep u N h v d ∧ Rep u N h v' d' := by
  match vs, r with
  | v :: ws, r => obtain ⟨w, rfl, q⟩ := RepVs.inv1 r.2; exact ⟨v, w, rfl, r.1, q⟩
  | [], r => exact r.elim
theorem EvT.lenl {xs : List PyData} (bl : Bl u sc "len" (.builtin "len")) (t : EvT u k sc σ e (Ls xs)) (hz : xs.length < 2 ^ 62) (hp : plainE e = true := by rfl) :
    EvT u k sc σ (.Call (.Name "len" p) [e] [] pos) (I xs.length) :=
  EvT.bltn bl (EvTs.cons t .nil) (fun N A s vs Q _ _ _ r h => by
    obtain ⟨v, rfl, r1⟩ := RepVs.inv1 r
    obtain ⟨q, ws, n, rfl, hq, _, qs⟩ := RepP.list_inv r1
    have e1 := qs.length
    simp only [Array.length_toList] at e1
    refine call_len_list (items := ws) ⟨_, hq, rfl, n, rfl⟩ (by rw [e1]; omega) ?_
    rw [e1]
    exact h _ s.heap _ (.refl _) (RepP.int _ _)) (by simp [hp])
theorem EvT.lens {x : Str} (bl : Bl u sc "len" (.builtin "len")) (t : EvT u k sc σ e (S x)) (hz : x.length < 2 ^ 62) (hp : plainE e = true := by rfl) :
    EvT u k sc σ (.Call (.Name "len" p) [e] [] pos) (I x.length) :=
  EvT.bltn bl (EvTs.cons t .nil) (fun N A s vs Q _ _ _ r h => by
    obtain ⟨v, rfl, r1⟩ := RepVs.inv1 r
    obtain ⟨t', rfl⟩ := RepP.str_inv r1
    exact P.len_str (by omega) (h _ s.heap _ (.refl _) (RepP.int _ _))) (by simp [hp])
theorem repPs_ints {N : Addr → Prop} {h : Heap} : ∀ {ns : List Int} {vs : List Value}, RepPs N h vs (ns.map .int) → ∃ xs : Array (Int × Tok), vs = (intItems xs).toList ∧ xs.toList.map (·.1) = ns
  | [], vs, r => ⟨#[], by rw [r.inv_nil]; simp [intItems], rfl⟩
  | n :: ns, vs, r => by
    obtain ⟨v, vs', rfl, r1, r2⟩ := r.inv
    obtain ⟨t, rfl⟩ := RepP.int_inv r1
    obtain ⟨xs, e1, e2⟩ := repPs_ints r2
    refine ⟨((n, t) :: xs.toList).toArray, ?_, by simp [e2]⟩
    simp only [intItems] at e1 ⊢
    simp [e1]
theorem intsAre_rep {N : Addr → Prop} {h : Heap} : ∀ {vs : List Value} {ns : List Int}, IntsAre vs ns → RepPs N h vs (ns.map .int)
  | _, _, .nil => .nil
  | _, _, .cons n t r => .cons (RepP.int n t) (intsAre_rep r)
theorem EvT.sum {ns : List Int} (bl : Bl u sc "sum" (.builtin "sum")) (t : EvT u k sc σ e (Ls (ns.map .int)))
    (hz : ∀ j, j < ns.length → InLong (ns.getD j 0) ∧ InLong ((ns.take (j + 1)).sum)) (hp : plainE e = true := by rfl) :
    EvT u k sc σ (.Call (.Name "sum" p) [e] [] pos) (I ns.sum) :=
  EvT.bltn bl (EvTs.cons t .nil) (fun N A s vs Q o _ _ r h => by
    obtain ⟨v, rfl, r1⟩ := RepVs.inv1 r
    obtain ⟨q, ws, n, rfl, hq, _, qs⟩ := RepP.list_inv r1
    obtain ⟨xs, e1, e2⟩ := repPs_ints qs
    have e3 : ws = intItems xs := by apply Array.ext'; exact e1
    subst e3
    have e4 : xs.size = ns.length := by rw [← e2]; simp
    refine sum_intList (xs := xs) o.handled ⟨_, hq, rfl, n, rfl⟩ (fun j hj => ?_) fun h' tk t' hk => ?_
    · rw [numAt_eq, preSum_eq, e2]; exact hz j (by omega)
    · rw [preSum_eq, e2, e4, List.take_length]
      exact h _ h' tk (.ext hk) (RepP.int _ _)) (by simp [hp])
theorem EvT.max2 {a b : Int} (bl : Bl u sc "max" (.builtin "max")) (t : EvT u k sc σ l (I a)) (t' : EvT u k sc σ r (I b)) (hp : [l, r].all plainE = true := by rfl) :
    EvT u k sc σ (.Call (.Name "max" p) [l, r] [] pos) (I (max a b)) :=
  EvT.bltn bl (EvTs.cons t (EvTs.cons t' .nil)) (fun N A s vs Q o _ _ r h => by
    obtain ⟨v, v', rfl, r1, r2⟩ := RepVs.inv2 r
    obtain ⟨t1, rfl⟩ := RepP.int_inv r1
    obtain ⟨t2, rfl⟩ := RepP.int_inv r2
    refine max_two_ints o.handled fun h' tk hk => ?_
    by_cases c : b > a
    · rw [if_pos c]
      have e : max a b = b := by omega
      rw [e] at h
      exact h _ h' tk (.ext hk) (RepP.int _ _)
    · rw [if_neg c]
      have e : max a b = a := by omega
      rw [e] at h
      exact h _ h' tk (.ext hk) (RepP.int _ _)) hp
theorem EvT.divmod {a b : Int} (bl : Bl u sc "divmod" (.builtin "divmod")) (t : EvT u k sc σ l (I a)) (t' : EvT u k sc σ r (I b)) (hb0 : b ≠ 0) (hpl : Builtin.divisionGoesByPylong a b = false)
    (hp : [l, r].all plainE = true := by rfl) : EvT u k sc σ (.Call (.Name "divmod" p) [l, r] [] pos) (Tu [.int (a.fdiv b), .int (a.fmod b)]) :=
  EvT.bltn bl (EvTs.cons t (EvTs.cons t' .nil)) (fun N A s vs Q o _ _ r h => by
    obtain ⟨v, v', rfl, r1, r2⟩ := RepVs.inv2 r
    obtain ⟨t1, rfl⟩ := RepP.int_inv r1
    obtain ⟨t2, rfl⟩ := RepP.int_inv r2
    refine divmod_int hb0 (h _ _ _ (.push _ _) ?_) (.inl hpl)
    exact rep_pushT u (vs := [.int (a.fdiv b) s.toks, .int (a.fmod b) (s.toks + 1)]) (.cons (RepP.int _ _) (.cons (RepP.int _ _) .nil))) hp
end
end
section
section
variable {u : U} {k : Nat} {sc : Scope} {σ : St} {pos p kp : Pos} {l r e : Expr}
theorem CaT.use {f : Str} {args kds : List Vd} {names : List Str} {d : Vd} (c : CaT u k f args names kds d) {a : Addr} (hm : u.mg f = some (.ref a)) {env : Env} {N : Addr → Prop} {A : Around} {s : Shared} {vs kvs : List Value} {Q : Value → Shared → Prop}
    (H : Here u k sc σ env N A s.heap) (r1 : RepVs u N s.heap vs args) (r2 : RepVs u N s.heap kvs kds)
    (h : ∀ v h' tk, Keeps u Nil s.heap h' → Rep u N h' v d → Q v { s with heap := h', toks := tk }) : wpAny u.M A (call (.ref a) vs (names.zip kvs)) Q NoE s :=
  wpAny_call (c N A s _ a vs kvs H.ok H.wd H.live hm r1 r2 h)
theorem EvT.call {f : Str} {a : Addr} {fd : FuncData} {es : List Expr} {ds : List Vd} {d : Vd} (F : FnAt u f a fd) (hx : sc.names.lookup f = some .globalImplicit) (ts : EvTs u k sc σ es ds) (c : CaT u k f ds [] [] d)
    (hp : es.all plainE = true := by rfl) (hd : (f == ("__debug__" : Str)) = false := by decide) : EvT u k sc σ (.Call (.Name f p) es [] pos) d :=
  EvT.mk fun env N A s Q H h => by
    obtain ⟨o, _, hdat⟩ := F.here H.wd
    refine Call_ (globN H hx F.mg (Calls.callWith_function (o := o) (fd := fd) (evalArgs_use ts hp H fun vs h1 t1 k1 H1 r1 => ⟨⟨?_, hdat⟩, ?_⟩)) hd)
    · obtain ⟨o1, e1, d1, c1⟩ := F.ob
      obtain ⟨o2, e2, d2⟩ := F.here H1.wd
      have e3 := H.wd.at e1 c1
      have : o = o1 := by
        have := ‹s.heap.get? a = some o›
        rw [e3] at this; exact (Option.some.inj this).symm
      subst this
      exact H1.wd.at e1 c1
    · exact c.use (kvs := []) F.mg (s := { s with heap := h1, toks := t1 }) H1 r1 trivial fun v h2 t2 k2 r2 => h v h2 t2 (k1.trans k2) r2
end
end
section
noncomputable def OwnA (ad : Str → Addr) (σ : St) (a : Addr) : Prop := ∃ x d, look σ x = some (d, true) ∧ ad x = a
/-- where a frame keeps the names that it may write -/
noncomputable def FW (env : Env) (a : Addr) : Prop := a = env.locals ∨ ∃ x, env.kindOf x = some .cell ∧ env.cells.lookup x = some a
theorem FW.fa {env : Env} {a : Addr} (h : FW env a) : FA env a := h.imp id fun ⟨x, _, q⟩ => ⟨x, q⟩
/-- what a run of statements may change -/
noncomputable def Mut (ad : Str → Addr) (σ : St) (env : Env) (a : Addr) : Prop := FW env a ∨ OwnA ad σ a
/-- what no value that a name holds may touch -/
noncomputable def Full (N : Addr → Prop) (ad : Str → Addr) (σ : St) (env : Env) (a : Addr) : Prop := N a ∨ Mut ad σ env a
/-- d tells of the list at a, which holds xs -/
noncomputable def LsAt (d : Vd) (a : Addr) (xs : List PyData) : Prop := d = Ls xs ∨ d = .lat a xs
noncomputable def Vd.lst : Vd → Option (List PyData)
  | .py (.list xs) => some xs
  | .lat _ xs => some xs
  | _ => none
noncomputable def Vd.upd (d : Vd) (ys : List PyData) : Vd := match d with
  | .lat l _ => .lat l ys
  | _ => Ls ys
theorem LsAt.lst {d : Vd} {a : Addr} {xs : List PyData} (h : LsAt d a xs) : d.lst = some xs := by rcases h with rfl | rfl <;> rfl
theorem LsAt.upd {d : Vd} {a : Addr} {xs ys : List PyData} (h : LsAt d a xs) : LsAt (d.upd ys) a ys := by
  rcases h with rfl | rfl
  · exact .inl rfl
  · exact .inr rfl
theorem LsAt.rep {u : U} {N : Addr → Prop} {h : Heap} {d : Vd} {a : Addr} {xs : List PyData} (e : LsAt d a xs) (r : RepP N h (.ref a) (.list xs)) : Rep u N h (.ref a) d := by
  rcases e with rfl | rfl
  · exact r
  · exact ⟨rfl, r⟩
structure MatchS (u : U) (N : Addr → Prop) (ad : Str → Addr) (env : Env) (h : Heap) (σ : St) : Prop where
  live : Live N h
  fr : FrOk u env h
  frN : ∀ a, FW env a → ¬ N a
  val : Look u (Full N ad σ env) env h σ
  own : ∀ x d, look σ x = some (d, true) → ∃ vs n xs, LsAt d (ad x) xs ∧ Sees env h x (.ref (ad x)) ∧ h.get? (ad x) = some (listOf vs n) ∧ RepPs (Full N ad σ env) h vs.toList xs ∧ u.lim ≤ ad x ∧ ¬ N (ad x)
  inj : ∀ x y d e, look σ x = some (d, true) → look σ y = some (e, true) → ad x = ad y → x = y
theorem FrOk.aliveFA {u : U} {env : Env} {h : Heap} (f : FrOk u env h) {a : Addr} (e : FA env a) : ∃ o, h.get? a = some o ∧ Tr o ∧ ∀ its n, o.data ≠ .seq its n := by
  rcases e with rfl | ⟨x, hx⟩
  · obtain ⟨m, o, es, ep, h1, h2, _⟩ := f.ns
    exact ⟨o, h1, fun ps e => by (rw [h2] at e; cases e), fun its n e => by (rw [h2] at e; cases e)⟩
  · obtain ⟨v, o, h1, h2⟩ := f.cell x _ hx
    exact ⟨o, h1, fun ps e => by (rw [h2] at e; cases e), fun its n e => by (rw [h2] at e; cases e)⟩
theorem FrOk.notList {u : U} {env : Env} {h : Heap} (f : FrOk u env h) {a : Addr} {vs : Array Value} {n : Nat} (e : h.get? a = some (listOf vs n)) : ¬ FA env a := by
  intro q
  obtain ⟨o, h1, _, h2⟩ := f.aliveFA q
  rw [e] at h1; cases h1; exact h2 _ _ rfl
section
variable {u : U} {N : Addr → Prop} {ad : Str → Addr} {env : Env} {h h' : Heap} {σ : St}
theorem MatchS.liveF (M : MatchS u N ad env h σ) : Live (Full N ad σ env) h := by
  rintro a (e | e | ⟨x, d, hx, rfl⟩)
  · exact M.live a e
  · obtain ⟨o, e1, t, _⟩ := M.fr.aliveFA e.fa; exact ⟨o, e1, t⟩
  · obtain ⟨vs, n, xs, _, _, e1, _⟩ := M.own x d hx; exact ⟨_, e1, tr_list⟩
theorem MatchS.here {k : Nat} {sc : Scope} {A : Around} (M : MatchS u N ad env h σ) (he : EnvIs sc env) (ok : Ok A k) (wd : Wd u h) : Here u k sc σ env (Full N ad σ env) A h := ⟨he, ok, wd, M.liveF, M.fr, M.val⟩
theorem MatchS.notFA (M : MatchS u N ad env h σ) {x : Str} {d : Vd} (hx : look σ x = some (d, true)) : ¬ FA env (ad x) := by
  obtain ⟨vs, n, xs, _, _, e1, _⟩ := M.own x d hx; exact M.fr.notList e1
/-- nothing that exists is changed -/
theorem MatchS.step (M : MatchS u N ad env h σ) (k : Keeps u Nil h h') : MatchS u N ad env h' σ := by
  refine ⟨M.live.step k, M.fr.step k fun _ _ => id, M.frN, M.val.step M.fr k (fun _ _ => id) fun _ => nonil, fun x d hx => ?_, M.inj⟩
  obtain ⟨vs, n, xs, e0, e1, e2, e3, e4⟩ := M.own x d hx
  exact ⟨vs, n, xs, e0, e1.step M.fr k fun _ _ => id, k.old _ _ e2 kp_list id, e3.step k fun _ => nonil, e4⟩
/-- an owned name lets its list go -/
theorem look_cons (σ : St) (x y : Str) (e : Vd × Bool) : look ((x, e) :: σ) y = if y = x then some e else look σ y := by
  unfold look
  rw [List.lookup_cons]
  by_cases q : y = x
  · rw [if_pos q, q]; simp
  · rw [if_neg q, beq_eq_false_iff_ne.mpr q]
theorem own_sub {x : Str} {d : Vd} {a : Addr} (h : OwnA ad ((x, (d, false)) :: σ) a) : OwnA ad σ a := by
  obtain ⟨y, e, hy, rfl⟩ := h
  rw [look_cons] at hy
  split at hy
  · cases hy
  · exact ⟨y, e, hy, rfl⟩
theorem mut_sub {x : Str} {d : Vd} {a : Addr} (h : Mut ad ((x, (d, false)) :: σ) env a) : Mut ad σ env a := h.imp id own_sub
theorem full_sub {x : Str} {d : Vd} {a : Addr} (h : Full N ad ((x, (d, false)) :: σ) env a) : Full N ad σ env a := h.imp id mut_sub
theorem MatchS.disown (M : MatchS u N ad env h σ) {x : Str} {d : Vd} (hx : look σ x = some (d, true)) : MatchS u N ad env h ((x, (d, false)) :: σ) := by
  obtain ⟨vs, n, xs, e0, e1, e2, e3, e4, e5⟩ := M.own x d hx
  refine ⟨M.live, M.fr, M.frN, fun y e hy => ?_, fun y e hy => ?_, fun y z e f hy hz => ?_⟩
  · rw [look_cons] at hy
    split at hy
    · rename_i q; subst q; cases hy
      refine ⟨_, e1, e0.rep (RepP.list_mk e2 ?_ (e3.anti fun _ => full_sub))⟩
      rintro (q | q | ⟨z, f, hz, q⟩)
      · exact e5 q
      · exact M.fr.notList e2 q.fa
      · rw [look_cons] at hz
        split at hz
        · cases hz
        · rename_i ne; exact ne (M.inj _ _ _ _ hz hx q)
    · obtain ⟨v, hv, r⟩ := M.val y e hy
      exact ⟨v, hv, r.anti fun _ => full_sub⟩
  · rw [look_cons] at hy
    split at hy
    · cases hy
    · obtain ⟨ws, m, ys, f0, f1, f2, f3, f4⟩ := M.own y e hy
      exact ⟨ws, m, ys, f0, f1, f2, f3.anti fun _ => full_sub, f4⟩
  · rw [look_cons] at hy hz
    split at hy
    · cases hy
    · split at hz
      · cases hz
      · exact M.inj _ _ _ _ hy hz
/-- all names as they may be read where nothing is handed on -/
noncomputable def allplain (σ : St) : St := σ.map fun e => (e.1, (e.2.1, false))
theorem look_allplain (σ : St) (x : Str) : look (allplain σ) x = (look σ x).map fun e => (e.1, false) := by
  induction σ with
  | nil => rfl
  | cons p σ ih =>
    obtain ⟨y, d, b⟩ := p
    show look ((y, (d, false)) :: allplain σ) x = _
    rw [look_cons, look_cons, ih]
    split <;> rfl
noncomputable def Base (N : Addr → Prop) (env : Env) (a : Addr) : Prop := N a ∨ FW env a
theorem MatchS.plain (M : MatchS u N ad env h σ) : Look u (Base N env) env h (allplain σ) := by
  intro x d hx
  rw [look_allplain] at hx
  cases e : look σ x with
  | none => rw [e] at hx; cases hx
  | some p =>
    obtain ⟨d', b⟩ := p
    rw [e] at hx
    have hd : d' = d := by have := congrArg (Option.map Prod.fst) hx; simpa using this
    subst hd
    cases b with
    | false =>
      obtain ⟨v, hv, r⟩ := M.val x d' e
      exact ⟨v, hv, r.anti fun a q => q.imp id .inl⟩
    | true =>
      obtain ⟨vs, n, xs, e0, e1, e2, e3, e4, e5⟩ := M.own x d' e
      exact ⟨_, e1, e0.rep <| RepP.list_mk e2 (fun q => q.elim e5 fun q => M.fr.notList e2 q.fa) (e3.anti fun a q => q.imp id .inl)⟩
theorem MatchS.hereP {k : Nat} {sc : Scope} {A : Around} (M : MatchS u N ad env h σ) (he : EnvIs sc env) (ok : Ok A k) (wd : Wd u h) : Here u k sc (allplain σ) env (Base N env) A h :=
  ⟨he, ok, wd, fun a q => q.elim (M.live a) fun q => let ⟨o, e, t, _⟩ := M.fr.aliveFA q.fa; ⟨o, e, t⟩, M.fr, M.plain⟩
end
/-- a value for a statement: handed on (no owned name in it), or flat -/
noncomputable def EvX (u : U) (k : Nat) (sc : Scope) (σ : St) (e : Expr) (d : Vd) : Prop := EvT u k sc σ e d ∨ (d.flat = true ∧ EvT u k sc (allplain σ) e d)
section
variable {u : U} {k : Nat} {sc : Scope} {σ σ' σ'' : St} {env : Env} {N : Addr → Prop} {ad : Str → Addr} {A : Around} {s : Shared} {pos p : Pos} {e : Expr} {d : Vd}
theorem EvX.use (t : EvX u k sc σ e d) (he : EnvIs sc env) (ok : Ok A k) (wd : Wd u s.heap) (M : MatchS u N ad env s.heap σ) {Q : Value → Shared → Prop}
    (h : ∀ v h' tk, Keeps u Nil s.heap h' → Wd u h' → MatchS u N ad env h' σ → Rep u (Full N ad σ env) h' v d → Q v { s with heap := h', toks := tk }) : wpAny u.M A (eval e env) Q NoE s := by
  rcases t with t | ⟨hf, t⟩
  · exact t.use (M.here he ok wd) fun v h1 t1 k1 H1 r1 => h v h1 t1 k1 H1.wd (M.step k1) r1
  · exact t.use (M.hereP he ok wd) fun v h1 t1 k1 H1 r1 => h v h1 t1 k1 H1.wd (M.step k1) (flat_rep hf r1)
inductive Fl where
  | next | brk | cont
  | ret (d : Vd)
  | retk
noncomputable def Fl.goes : Fl → Bool
  | .ret _ => false
  | _ => true
noncomputable def FlRep (u : U) (N : Addr → Prop) (h : Heap) : Flow → Fl → Prop
  | .next, .next => True
  | .brk, .brk => True
  | .cont, .cont => True
  | .ret v, .ret d => Rep u N h v d
  | .ret v, .retk => v = .none
  | _, _ => False
structure Post (u : U) (N : Addr → Prop) (ad : Str → Addr) (σ : St) (env : Env) (h : Heap) (ad' : Str → Addr) (σ' : St) (h' : Heap) : Prop where
  own : ∀ y d, look σ' y = some (d, true) → OwnA ad σ (ad' y) ∨ New h (ad' y)
  ms : MatchS u N ad' env h' σ'
/-- statements ss, from σ: they end as fl says, in σ' -/
noncomputable def ExT (u : U) (k : Nat) (sc : Scope) (σ : St) (ss : List Stmt) (fl : Fl) (σ' : St) : Prop :=
  ∀ (env : Env) (N : Addr → Prop) (ad : Str → Addr) (A : Around) (s : Shared) (Q : Flow → Shared → Prop), EnvIs sc env → Ok A k → Wd u s.heap → MatchS u N ad env s.heap σ →
    (∀ f h' tk ad', FlRep u N h' f fl → Keeps u (Mut ad σ env) s.heap h' → (fl.goes = true → Post u N ad σ env s.heap ad' σ' h') → Q f { s with heap := h', toks := tk }) → wpAny u.M A (execs ss env) Q NoE s
noncomputable def StT (u : U) (k : Nat) (sc : Scope) (σ : St) (st : Stmt) (fl : Fl) (σ' : St) : Prop :=
  ∀ (env : Env) (N : Addr → Prop) (ad : Str → Addr) (A : Around) (s : Shared) (Q : Flow → Shared → Prop), EnvIs sc env → Ok A k → Wd u s.heap → MatchS u N ad env s.heap σ →
    (∀ f h' tk ad', FlRep u N h' f fl → Keeps u (Mut ad σ env) s.heap h' → (fl.goes = true → Post u N ad σ env s.heap ad' σ' h') → Q f { s with heap := h', toks := tk }) → wpAny u.M A (exec st env) Q NoE s
theorem gone {h h' : Heap} {X : Addr → Prop} (k : Keeps u X h h') {a : Addr} (e : New h' a) : New h a := fun o q t => by
  obtain ⟨o', e', t'⟩ := k.alive a o q t
  exact e o' e' t'
theorem Post.mut {h h' : Heap} {ad' : Str → Addr} (P : Post u N ad σ env h ad' σ' h') : ∀ a o, h.get? a = some o → h'.get? a = some o → Mut ad' σ' env a → Mut ad σ env a := by
  rintro a o e e' (q | ⟨y, d, hy, rfl⟩)
  · exact .inl q
  · rcases P.own y d hy with q | q
    · exact .inr q
    · obtain ⟨vs, n, xs, _, _, e2, _⟩ := P.ms.own y d hy
      rw [e'] at e2; cases e2
      exact (q _ e tr_list).elim
theorem Post.trans {h h1 h2 : Heap} {ad1 ad2 : Str → Addr} (P : Post u N ad σ env h ad1 σ' h1) (k : Keeps u (Mut ad σ env) h h1) (P2 : Post u N ad1 σ' env h1 ad2 σ'' h2) : Post u N ad σ env h ad2 σ'' h2 := by
  refine ⟨fun y d hy => ?_, P2.ms⟩
  rcases P2.own y d hy with ⟨z, e, hz, q⟩ | q
  · rw [← q]; exact P.own z e hz
  · exact .inr (gone k q)
theorem Post.keeps {h h1 h2 : Heap} {ad1 : Str → Addr} (P : Post u N ad σ env h ad1 σ' h1) (k : Keeps u (Mut ad σ env) h h1) (k2 : Keeps u (Mut ad1 σ' env) h1 h2) : Keeps u (Mut ad σ env) h h2 := k.then k2 fun a o _ => P.mut a o
theorem ExT.nil : ExT u k sc σ [] .next σ := fun env N ad A s Q he ok wd M h => wpAny_execs_nil (h .next s.heap s.toks ad trivial (.refl _) fun _ => ⟨fun y d hy => .inl ⟨y, d, hy, rfl⟩, M⟩)
theorem ExT.cons {st : Stmt} {rest : List Stmt} {fl : Fl} (t : StT u k sc σ st .next σ') (ts : ExT u k sc σ' rest fl σ'') : ExT u k sc σ (st :: rest) fl σ'' := fun env N ad A s Q he ok wd M h => by
  refine wpAny_execs_cons (t env N ad A s _ he ok wd M fun f h1 t1 ad1 fr k1 P => ?_)
  cases f with
  | next =>
    have P1 := P rfl
    refine ts env N ad1 A { s with heap := h1, toks := t1 } Q he ok (k1.wd wd) P1.ms fun f h2 t2 ad2 fr2 k2 P2 => ?_
    exact h f h2 t2 ad2 fr2 (P1.keeps k1 k2) fun g => P1.trans k1 (P2 g)
  | brk => exact fr.elim
  | cont => exact fr.elim
  | ret v => exact fr.elim
theorem ExT.stop {st : Stmt} {rest : List Stmt} {fl : Fl} (t : StT u k sc σ st fl σ') (hf : fl ≠ .next) : ExT u k sc σ (st :: rest) fl σ' := fun env N ad A s Q he ok wd M h => by
  refine wpAny_execs_cons (t env N ad A s _ he ok wd M fun f h1 t1 ad1 fr k1 P => ?_)
  have q := h f h1 t1 ad1 fr k1 P
  cases f with
  | next => cases fl <;> first | exact absurd rfl hf | exact fr.elim
  | brk => exact q
  | cont => exact q
  | ret v => exact q
/-- a state may be told with less -/
noncomputable def Sub (σ' σ : St) : Prop := ∀ x e, look σ' x = some e → look σ x = some e
theorem OwnA.sub {a : Addr} (sb : Sub σ' σ) (o : OwnA ad σ' a) : OwnA ad σ a := let ⟨x, d, hx, e⟩ := o; ⟨x, d, sb x _ hx, e⟩
theorem MatchS.sub {h : Heap} (M : MatchS u N ad env h σ) (sb : Sub σ' σ) : MatchS u N ad env h σ' := by
  have fs : ∀ a, Full N ad σ' env a → Full N ad σ env a := fun a q => q.imp id fun q => q.imp id fun q => q.sub sb
  refine ⟨M.live, M.fr, M.frN, fun x d hx => ?_, fun x d hx => ?_, fun x y d e hx hy => M.inj x y d e (sb _ _ hx) (sb _ _ hy)⟩
  · obtain ⟨v, hv, r⟩ := M.val x d (sb _ _ hx); exact ⟨v, hv, r.anti fs⟩
  · obtain ⟨vs, n, xs, e0, e1, e2, e3, e4⟩ := M.own x d (sb _ _ hx); exact ⟨vs, n, xs, e0, e1, e2, e3.anti fs, e4⟩
theorem ExT.pre {ss : List Stmt} {fl : Fl} (t : ExT u k sc σ' ss fl σ'') (sb : Sub σ' σ) : ExT u k sc σ ss fl σ'' := fun env N ad A s Q he ok wd M h =>
  t env N ad A s Q he ok wd (M.sub sb) fun f h1 t1 ad1 fr k1 P => h f h1 t1 ad1 fr (k1.mono fun a q => q.imp id fun q => q.sub sb) fun g => ⟨fun y d hy => ((P g).own y d hy).imp (fun q => q.sub sb) id, (P g).ms⟩
theorem ExT.post {ss : List Stmt} {fl : Fl} (t : ExT u k sc σ ss fl σ') (sb : Sub σ'' σ') : ExT u k sc σ ss fl σ'' := fun env N ad A s Q he ok wd M h =>
  t env N ad A s Q he ok wd M fun f h1 t1 ad1 fr k1 P => h f h1 t1 ad1 fr k1 fun g => ⟨fun y d hy => (P g).own y d (sb _ _ hy), (P g).ms.sub sb⟩
theorem ExT.disown {ss : List Stmt} {fl : Fl} {x : Str} (hx : look σ x = some (d, true)) (t : ExT u k sc ((x, (d, false)) :: σ) ss fl σ') : ExT u k sc σ ss fl σ' := fun env N ad A s Q he ok wd M h =>
  t env N ad A s Q he ok wd (M.disown hx) fun f h1 t1 ad1 fr k1 P => h f h1 t1 ad1 fr (k1.mono fun _ => mut_sub) fun g => ⟨fun y d hy => ((P g).own y d hy).imp own_sub id, (P g).ms⟩
theorem StT.disown {st : Stmt} {fl : Fl} {x : Str} (hx : look σ x = some (d, true)) (t : StT u k sc ((x, (d, false)) :: σ) st fl σ') : StT u k sc σ st fl σ' := fun env N ad A s Q he ok wd M h =>
  t env N ad A s Q he ok wd (M.disown hx) fun f h1 t1 ad1 fr k1 P => h f h1 t1 ad1 fr (k1.mono fun _ => mut_sub) fun g => ⟨fun y d hy => ((P g).own y d hy).imp own_sub id, (P g).ms⟩
/-! a name is stored -/
theorem FrOk.upd {h h' : Heap} (f : FrOk u env h) {a : Addr} (hs : Heap.SameBut a h h') (hn : ∀ m, a = env.locals → h.Ns a m → ∃ m', h'.Ns a m') (hc : ∀ x v, env.cells.lookup x = some a → h.IsCell a v → ∃ v', h'.IsCell a v') : FrOk u env h' := by
  refine ⟨?_, fun x c e => ?_, f.nsNew, f.cellNew, f.cellInj⟩
  · obtain ⟨m, hm⟩ := f.ns
    by_cases q : env.locals = a
    · obtain ⟨m', h1⟩ := hn m q.symm (q ▸ hm)
      exact ⟨m', q ▸ h1⟩
    · exact ⟨m, hm.sameBut hs q⟩
  · obtain ⟨v, hv⟩ := f.cell x c e
    by_cases q : c = a
    · obtain ⟨v', h1⟩ := hc x v (q ▸ e) (q ▸ hv)
      exact ⟨v', q ▸ h1⟩
    · exact ⟨v, hv.sameBut hs q⟩
/-- the heap part of a store into a name -/
theorem store_name {x : Str} {v : Value} {Q : Unit → Shared → Prop} (he : EnvIs sc env) (f : FrOk u env s.heap)
    (hk : sc.names.lookup x = some .local ∨ (sc.names.lookup x = some .cell ∧ ∃ c, env.cells.lookup x = some c))
    (h : ∀ h' tk, Keeps u (FW env) s.heap h' → FrOk u env h' → Sees env h' x v → (∀ y w, y ≠ x → Sees env s.heap y w → Sees env h' y w) → Q () { s with heap := h', toks := tk }) :
    wpAny u.M A (storeName env x v) Q NoE s := by
  rcases hk with hk | ⟨hk, c, hc⟩
  · obtain ⟨m, hn⟩ := f.ns
    have hl : env.kindOf x = some .local := by rw [he.kindOf]; exact hk
    have hF : ∀ c y, env.cells.lookup y = some c → c ≠ env.locals := fun c y hy q => by
      obtain ⟨v, o, o1, o2⟩ := f.cell y c hy
      obtain ⟨o', es, ep, o3, o4, _⟩ := hn
      rw [← q, o1] at o3; cases o3; rw [o2] at o4; cases o4
    refine wpAny_storeName_local hl hn (fun h' hn' hs => ?_) (by rw [he.fn]; rfl)
    obtain ⟨o', e', _, tr', _⟩ := ns_get hn'
    obtain ⟨o, e, _, _, nt⟩ := ns_get hn
    refine h h' _ (.upd f.nsNew hs (.inl rfl) ⟨o', e', tr'⟩ (fun its n q => by rw [e] at q; cases q; exact nt _ _ rfl) (ns_notCode hn)) (f.upd hs (fun m q _ => ⟨_, hn'⟩) fun y v hy _ => (hF _ y hy rfl).elim) (.inl ⟨hl, _, hn', by simp⟩) fun y w ne hw => ?_
    rcases hw with ⟨e1, m1, hn1, hm1⟩ | ⟨e1, c, hc, hv⟩
    · refine .inl ⟨e1, _, hn', ?_⟩
      obtain ⟨q1, q2, q3, q4, q5, _, q6⟩ := hn
      obtain ⟨r1, r2, r3, r4, r5, _, r6⟩ := hn1
      rw [q4] at r4; cases r4; rw [q5] at r5; cases r5
      simp only [if_neg ne]
      rw [← q6, r6]; exact hm1
    · exact .inr ⟨e1, c, hc, hv.sameBut hs (hF c y hc)⟩
  · have hl : env.kindOf x = some .cell := by rw [he.kindOf]; exact hk
    obtain ⟨v0, hv0⟩ := f.cell x c hc
    have hF : c ≠ env.locals := fun q => by
      obtain ⟨o, o1, o2⟩ := hv0
      obtain ⟨m, o', es, ep, o3, o4, _⟩ := f.ns
      rw [← q, o1] at o3; cases o3; rw [o2] at o4; cases o4
    refine wpAny_storeName_cell he.fn hl hc hv0 fun h' hc' hs => ?_
    obtain ⟨o', e', _, tr', _⟩ := cell_get hc'
    obtain ⟨o, e, _, _, nt⟩ := cell_get hv0
    refine h h' s.toks (.upd (f.cellNew x c hc) hs (.inr ⟨x, hl, hc⟩) ⟨o', e', tr'⟩ (fun its n q => by rw [e] at q; cases q; exact nt _ _ rfl) (cell_notCode hv0)) (f.upd hs (fun m q _ => (hF q).elim) fun y v hy _ => ⟨_, hc'⟩) (.inr ⟨.inl hl, c, hc, hc'⟩) fun y w ne hw => ?_
    rcases hw with ⟨e1, m1, hn1, hm1⟩ | ⟨e1, c1, hc1, hv⟩
    · exact .inl ⟨e1, m1, hn1.sameBut hs (Ne.symm hF), hm1⟩
    · exact .inr ⟨e1, c1, hc1, hv.sameBut hs fun q => ne (f.cellInj y x c (q ▸ hc1) hc)⟩
end
end
section
section
variable {u : U} {k : Nat} {sc : Scope} {σ σ' σ'' σ1 σ2 : St} {env : Env} {N : Addr → Prop} {ad : Str → Addr} {A : Around} {s : Shared} {pos p p' : Pos} {e : Expr} {d : Vd} {x : Str} {h h' : Heap} {v : Value}
/-- x gets v -/
theorem MatchS.store (M : MatchS u N ad env h σ) (K : Keeps u (FW env) h h') (F : FrOk u env h') (hv : Sees env h' x v) (ho : ∀ y w, y ≠ x → Sees env h y w → Sees env h' y w)
    (r : Rep u (Full N ad σ env) h v d) : MatchS u N ad env h' ((x, (d, false)) :: σ) := by
  have kf : ∀ a, FW env a → Full N ad σ env a := fun a q => .inr (.inl q)
  refine ⟨M.live.step K, F, M.frN, fun y e hy => ?_, fun y e hy => ?_, fun y z e f hy hz => ?_⟩
  · rw [look_cons] at hy
    split at hy
    · rename_i q; subst q; cases hy
      exact ⟨v, hv, (r.step K kf).anti fun _ => full_sub⟩
    · rename_i ne
      obtain ⟨w, hw, rw⟩ := M.val y e hy
      exact ⟨w, ho y w ne hw, (rw.step K kf).anti fun _ => full_sub⟩
  · rw [look_cons] at hy
    split at hy
    · cases hy
    · rename_i ne
      obtain ⟨ws, m, ys, f0, f1, f2, f3, f4⟩ := M.own y e hy
      exact ⟨ws, m, ys, f0, ho y _ ne f1, K.old _ _ f2 kp_list (fun q => M.notFA hy q.fa), (f3.step K kf).anti fun _ => full_sub, f4⟩
  · rw [look_cons] at hy hz
    split at hy
    · cases hy
    · split at hz
      · cases hz
      · exact M.inj _ _ _ _ hy hz
/-- x gets a list that nobody else has -/
theorem MatchS.storeF {xs : List PyData} {a : Addr} {vs : Array Value} {n : Nat} {h1 : Heap} (M : MatchS u N ad env h σ) (k1 : Keeps u Nil h h1) (hn : New h a) (ha : h1.get? a = some (listOf vs n)) (r : RepPs (fun b => Full N ad σ env b ∨ b = a) h1 vs.toList xs)
    (hsz : u.lim ≤ a)
    (K : Keeps u (FW env) h1 h') (F : FrOk u env h') (hv : Sees env h' x (.ref a)) (ho : ∀ y w, y ≠ x → Sees env h1 y w → Sees env h' y w) :
    MatchS u N (fun y => if y = x then a else ad y) env h' ((x, (Ls xs, true)) :: σ) := by
  have M1 := M.step k1
  have hNa : ¬ N a := fun q => by obtain ⟨o, e, t⟩ := M.live a q; exact hn o e t
  have hFa : ¬ FW env a := fun q => M1.fr.notList ha q.fa
  have hOa : ∀ y e, look σ y = some (e, true) → ad y ≠ a := fun y e hy q => by
    obtain ⟨ws, m, ys, _, _, f2, _⟩ := M.own y e hy
    rw [q] at f2; exact hn _ f2 tr_list
  have fs : ∀ b, Full N (fun y => if y = x then a else ad y) ((x, (Ls xs, true)) :: σ) env b → Full N ad σ env b ∨ New h b := by
    rintro b (q | q | ⟨y, e, hy, q⟩)
    · exact .inl (.inl q)
    · exact .inl (.inr (.inl q))
    · rw [look_cons] at hy
      simp only at q
      by_cases ne : y = x
      · rw [if_pos ne] at q; exact .inr (q ▸ hn)
      · rw [if_neg ne] at q hy; exact .inl (.inr (.inr ⟨y, e, hy, q⟩))
  have kf : ∀ b, FW env b → Full N ad σ env b := fun b q => .inr (.inl q)
  have kf' : ∀ b, FW env b → Full N (fun y => if y = x then a else ad y) ((x, (Ls xs, true)) :: σ) env b := fun b q => .inr (.inl q)
  refine ⟨M1.live.step K, F, M.frN, fun y e hy => ?_, fun y e hy => ?_, fun y z e f hy hz => ?_⟩
  · rw [look_cons] at hy
    split at hy
    · cases hy
    · rename_i ne
      obtain ⟨w, hw, rw⟩ := M.val y e hy
      exact ⟨w, ho y w ne (hw.step M.fr k1 fun _ _ => id), ((rw.fresh fs).step k1 fun _ => nonil).step K kf'⟩
  · rw [look_cons] at hy
    split at hy
    · rename_i q; subst q; cases hy
      obtain ⟨as, ra, na⟩ := r
      refine ⟨vs, n, xs, .inl rfl, by simpa using hv, by simpa using K.old _ _ ha kp_list hFa, ?_, by simpa using hsz, by simpa using hNa⟩
      refine RepPs.step (u := u) (X := FW env) ⟨as, ra, fun b hb q => ?_⟩ K kf'
      rcases q with q | q | ⟨z, e, hz, q⟩
      · exact na b hb (.inl (.inl q))
      · exact na b hb (.inl (.inr (.inl q)))
      · rw [look_cons] at hz
        simp only at q
        by_cases ne : z = y
        · rw [if_pos ne] at q; exact na b hb (.inr q.symm)
        · rw [if_neg ne] at q hz; exact na b hb (.inl (.inr (.inr ⟨z, e, hz, q⟩)))
    · rename_i ne
      obtain ⟨ws, m, ys, f0, f1, f2, f3, f4, f5⟩ := M.own y e hy
      refine ⟨ws, m, ys, by simpa [ne] using f0, ?_, ?_, ((f3.fresh fs).step k1 fun _ => nonil).step K kf', by simpa [ne] using f4, by simpa [ne] using f5⟩
      · simpa [ne] using ho y _ ne (f1.step M.fr k1 fun _ _ => id)
      · simpa [ne] using K.old _ _ (k1.old _ _ f2 kp_list id) kp_list (fun q => M.notFA hy q.fa)
  · rw [look_cons] at hy hz
    by_cases ne : y = x
    · by_cases nz : z = x
      · intro _; rw [ne, nz]
      · rw [if_neg nz] at hz
        intro q; simp only [if_pos ne, if_neg nz] at q
        exact (hOa z f hz q.symm).elim
    · rw [if_neg ne] at hy
      by_cases nz : z = x
      · intro q; simp only [if_neg ne, if_pos nz] at q
        exact (hOa y e hy q).elim
      · rw [if_neg nz] at hz
        intro q; simp only [if_neg ne, if_neg nz] at q
        exact M.inj _ _ _ _ hy hz q
noncomputable def OwnSub (σ1 σ : St) : Prop := ∀ y d, look σ1 y = some (d, true) → look σ y = some (d, true)
theorem OwnSub.refl : OwnSub σ σ := fun _ _ h => h
theorem OwnSub.cons (h : OwnSub σ1 σ) : OwnSub ((x, (d, false)) :: σ1) σ := fun y e hy => by
  rw [look_cons] at hy
  split at hy
  · cases hy
  · exact h y e hy
theorem OwnSub.own {a : Addr} (h : OwnSub σ1 σ) (o : OwnA ad σ1 a) : OwnA ad σ a := let ⟨y, d, hy, q⟩ := o; ⟨y, d, h y d hy, q⟩
theorem OwnSub.mut {a : Addr} (h : OwnSub σ1 σ) (o : Mut ad σ1 env a) : Mut ad σ env a := o.imp id h.own
theorem OwnSub.full {a : Addr} (h : OwnSub σ1 σ) (o : Full N ad σ1 env a) : Full N ad σ env a := o.imp id h.mut
theorem OwnSub.trans (h : OwnSub σ2 σ1) (g : OwnSub σ1 σ) : OwnSub σ2 σ := fun y d q => g y d (h y d q)
/-- a target takes a value -/
structure AsT (u : U) (sc : Scope) (σ : St) (tgt : Expr) (d : Vd) (σ1 : St) : Prop where
  own : OwnSub σ1 σ
  run : ∀ (env : Env) (N : Addr → Prop) (ad : Str → Addr) (A : Around) (s : Shared) (v : Value) (Q : Unit → Shared → Prop), EnvIs sc env → A.handled = none → MatchS u N ad env s.heap σ → Rep u (Full N ad σ env) s.heap v d →
    (∀ h' tk, Keeps u (FW env) s.heap h' → MatchS u N ad env h' σ1 → Q () { s with heap := h', toks := tk }) → wpAny u.M A (assign tgt env v) Q NoE s
noncomputable def canStore (sc : Scope) (x : Str) : Bool := sc.names.lookup x == some .local || sc.names.lookup x == some .cell
theorem canStore_use {env : Env} (c : canStore sc x = true) (he : EnvIs sc env) : sc.names.lookup x = some .local ∨ (sc.names.lookup x = some .cell ∧ ∃ c, env.cells.lookup x = some c) := by
  rcases Bool.or_eq_true_iff.mp c with q | q
  · exact .inl (eq_of_beq q)
  · exact .inr ⟨eq_of_beq q, he.cells x (eq_of_beq q)⟩
theorem store_use {Q : Unit → Shared → Prop} (hk : canStore sc x = true) (he : EnvIs sc env) (M : MatchS u N ad env s.heap σ) (r : Rep u (Full N ad σ env) s.heap v d)
    (h : ∀ h' tk, Keeps u (FW env) s.heap h' → MatchS u N ad env h' ((x, (d, false)) :: σ) → Q () { s with heap := h', toks := tk }) : wpAny u.M A (storeName env x v) Q NoE s :=
  store_name he M.fr (canStore_use hk he) fun h' tk K F hv ho => h h' tk K (M.store K F hv ho r)
theorem AsT.name (hk : canStore sc x = true) : AsT u sc σ (.Name x p) d ((x, (d, false)) :: σ) :=
  ⟨OwnSub.refl.cons, fun env N ad A s v Q he hh M r h => wpAny_assign_Name (store_use hk he M r h)⟩
/-- targets one after the other -/
structure AsTs (u : U) (sc : Scope) (σ : St) (tgts : List Expr) (ds : List PyData) (σ1 : St) : Prop where
  own : OwnSub σ1 σ
  len : ∀ env, (assignEach tgts env).length = ds.length
  star : ∀ env, (assignEach tgts env).findIdx? (·.1) = none
  run : ∀ (env : Env) (N : Addr → Prop) (ad : Str → Addr) (A : Around) (s : Shared) (vs : List Value) (Q : Unit → Shared → Prop), EnvIs sc env → A.handled = none → MatchS u N ad env s.heap σ → RepPs (Full N ad σ env) s.heap vs ds →
    (∀ h' tk, Keeps u (FW env) s.heap h' → MatchS u N ad env h' σ1 → Q () { s with heap := h', toks := tk }) → wpAny u.M A (assignInOrder ((assignEach tgts env).map (·.2)) vs) Q NoE s
theorem AsTs.nil : AsTs u sc σ [] [] σ := ⟨.refl, fun _ => rfl, fun _ => rfl, fun env N ad A s vs Q he hh M r h => by rw [r.inv_nil]; exact assignInOrder_nil (h s.heap s.toks (.refl _) M)⟩
noncomputable def noStar' : Expr → Bool
  | .Starred .. => false
  | _ => true
theorem assignEach_cons {t : Expr} {ts : List Expr} (h : noStar' t = true) : assignEach (t :: ts) env = (false, assign t env) :: assignEach ts env := by
  cases t <;> first | rfl | cases h
theorem AsTs.cons {t : Expr} {ts : List Expr} {d : PyData} {ds : List PyData} (a : AsT u sc σ t (.py d) σ1) (b : AsTs u sc σ1 ts ds σ2) (hs : noStar' t = true := by rfl) : AsTs u sc σ (t :: ts) (d :: ds) σ2 := by
  refine ⟨b.own.trans a.own, fun env => ?_, fun env => ?_, fun env N ad A s vs Q he hh M r h => ?_⟩
  · rw [assignEach_cons hs]; simp [b.len env]
  · rw [assignEach_cons hs, List.findIdx?_cons]; simp [b.star env]
  · obtain ⟨v, vs', rfl, r1, r2⟩ := r.inv
    rw [assignEach_cons hs]
    refine assignInOrder_cons (a.run env N ad A s v _ he hh M r1 fun h1 t1 k1 M1 => ?_)
    refine b.run env N ad A { s with heap := h1, toks := t1 } vs' Q he hh M1 ((r2.step k1 fun a q => .inr (.inl q)).anti fun _ => a.own.full) fun h2 t2 k2 M2 => h h2 t2 (k1.trans k2) M2
theorem AsT.tuple {tgts : List Expr} {c : Nat} {ds : List PyData} (a : AsTs u sc σ tgts ds σ1) : AsT u sc σ (.Tuple tgts c p) (Tu ds) σ1 :=
  ⟨a.own, fun env N ad A s v Q he hh M r h => by
    obtain ⟨t, vs, n, rfl, ht, q⟩ := RepP.tuple_inv r
    have e1 := q.length
    simp only [Array.length_toList] at e1
    refine assign_Tuple_tuple (items := vs) hh ⟨_, ht, rfl, n, rfl⟩ (by rw [a.len, e1]) (a.star env) fun h1 he1 => ?_
    have k1 : Keeps u (FW env) s.heap h1 := .ext fun b o e => he1 b o (Nat.ne_of_lt (Heap.lt_size e)) e
    have k0 : Keeps u Nil s.heap h1 := .ext fun b o e => he1 b o (Nat.ne_of_lt (Heap.lt_size e)) e
    exact a.run env N ad A { s with heap := h1 } vs.toList Q he hh (M.step k0) (q.step k0 fun _ => nonil) fun h2 t2 k2 M2 => h h2 t2 (k1.trans k2) M2⟩
end
end
section
/-- the value is a list that only the evaluation knows -/
noncomputable def EvFr (u : U) (k : Nat) (sc : Scope) (σ : St) (e : Expr) (xs : List PyData) : Prop :=
  ∀ (env : Env) (N : Addr → Prop) (A : Around) (s : Shared) (Q : Value → Shared → Prop), Here u k sc σ env N A s.heap →
    (∀ a vs n h' tk, Keeps u Nil s.heap h' → New s.heap a → u.lim ≤ a → h'.get? a = some (listOf vs n) → RepPs (fun b => N b ∨ b = a) h' vs.toList xs → Q (.ref a) { s with heap := h', toks := tk }) →
    wpAny u.M A (eval e env) Q NoE s
section
variable {u : U} {k : Nat} {sc : Scope} {σ σ' σ1 σ2 : St} {pos p p' : Pos} {l r e : Expr}
theorem EvFr.ev {xs : List PyData} (t : EvFr u k sc σ e xs) : EvT u k sc σ e (Ls xs) :=
  EvT.mk fun env N A s Q H h => t env N A s Q H fun a vs n h' tk K hn hs ha r => h _ h' tk K (RepP.list_mk ha (fun q => by obtain ⟨o, e, t⟩ := H.live a q; exact hn o e t) (r.anti fun b q => .inl q))
theorem fresh_push {u : U} {N : Addr → Prop} {h : Heap} {vs : List Value} {ds : List PyData} (r : RepPs N h vs ds) :
    RepPs (fun b => N b ∨ b = h.objs.size) (h.push { cls := .type "list", data := .seq vs.toArray }) vs ds :=
  (RepPs.fresh r fun b q => q.elim .inl fun e => .inr (e ▸ .none (none_size h))).step (u := u) (X := Nil) (.push _ _) fun _ => nonil
theorem EvFr.list {es : List Expr} {ds : List PyData} (t : EvTs u k sc σ es (ds.map .py)) (hp : es.all plainE = true := by rfl) (hz : ds.length ≤ 2 ^ 20 := by simp) : EvFr u k sc σ (.List es pos) ds :=
  fun env N A s Q H h => wpAny_List (t.use hp H fun vs h1 t1 k1 H1 r1 => by
    have q := r1.pys
    refine ⟨by rw [q.length, sizeLine_eq]; omega, ?_⟩
    exact h h1.objs.size vs.toArray 0 _ _ (k1.trans (.push _ _)) (gone k1 (.none (none_size h1))) H1.wd.size (Heap.get?_push_size _ rfl) (by simpa using fresh_push (u := u) q))
theorem EvFr.bin {op : Operator} {a b : Vd} {xs : List PyData} (tl : EvT u k sc σ l a) (tr : EvT u k sc σ r b)
    (rule : ∀ (N : Addr → Prop) (A : Around) (s : Shared) (x y : Value) (Q : Value → Shared → Prop), Ok A k → Wd u s.heap → Live N s.heap → Rep u N s.heap x a → Rep u N s.heap y b →
      (∀ (vs : List Value) tk, RepPs N s.heap vs xs → Q (.ref s.heap.objs.size) { s with heap := s.heap.push { cls := .type "list", data := .seq vs.toArray }, toks := tk }) → wpAny u.M A (binaryOp op x y) Q NoE s) : EvFr u k sc σ (.BinOp l op r pos) xs :=
  fun env N A s Q H h => by
    refine wpAny_BinOp (tl.use H fun x h1 t1 k1 H1 r1 => tr.use (s := { s with heap := h1, toks := t1 }) H1 fun y h2 t2 k2 H2 r2 => ?_)
    refine rule N A _ x y Q H2.ok H2.wd H2.live (r1.step k2 fun _ => nonil) r2 fun vs tk q => ?_
    exact h h2.objs.size vs.toArray 0 _ tk ((k1.trans k2).trans (.push _ _)) (gone (k1.trans k2) (.none (none_size h2))) H2.wd.size (Heap.get?_push_size _ rfl) (by simpa using fresh_push (u := u) q)
theorem EvFr.ladd {a b : List PyData} (tl : EvT u k sc σ l (Ls a)) (tr : EvT u k sc σ r (Ls b)) (hz : a.length + b.length ≤ sizeLine) : EvFr u k sc σ (.BinOp l .Add r pos) (a ++ b) :=
  EvFr.bin tl tr fun N A s x y Q _ _ lv r1 r2 h => by
    obtain ⟨p, vs, n, rfl, h1, n1, q1⟩ := RepP.list_inv r1
    obtain ⟨p', vs', n', rfl, h2, n2, q2⟩ := RepP.list_inv r2
    have e1 := q1.length
    have e2 := q2.length
    simp only [Array.length_toList] at e1 e2
    refine P.add_list (h1 : IsL s.heap p vs n) (h2 : IsL s.heap p' vs' n') ?_ (by omega)
    have q3 := h (vs.toList ++ vs'.toList) s.toks (q1.append q2)
    have e3 : (vs.toList ++ vs'.toList).toArray = vs ++ vs' := by apply Array.ext'; simp
    rw [e3] at q3
    exact q3
theorem EvFr.lmul {d : PyData} {n : Int} (tl : EvT u k sc σ l (Ls [d])) (tr : EvT u k sc σ r (I n)) (h0 : 0 ≤ n) (h1 : n < 2 ^ 20) : EvFr u k sc σ (.BinOp l .Mult r pos) (List.replicate n.toNat d) :=
  EvFr.bin tl tr fun N A s x y Q _ _ lv r1 r2 h => by
    obtain ⟨p, vs, k, rfl, hp, n1, q1⟩ := RepP.list_inv r1
    obtain ⟨t', rfl⟩ := RepP.int_inv r2
    have e1 := q1.length
    simp only [Array.length_toList, List.length_singleton] at e1
    obtain ⟨v, vs', e2, qv, q2⟩ := q1.inv
    have e3 : vs = #[v] := by
      apply Array.ext'
      rw [e2, q2.inv_nil]
    subst e3
    have q : RepPs N s.heap (List.replicate n.toNat v) (List.replicate n.toNat d) := by
      generalize n.toNat = m
      induction m with
      | zero => exact .nil
      | succ m ih => exact .cons qv ih
    refine wpAny_binaryOp_repeat_ref (T := "list") (U := "int") (by decide) ⟨_, hp, rfl⟩ (fun s' => typeIs_int s' n t') noFill_list_mul F.fills_int_mul F.slot_int_rmul repeat_list F.slot_int_index.lookup
      (call_meets F.slot_int_rmul (typeIs_int s n t') F.entry_int_rmul (F.args_int_rmul_2 _ _) (int___rmul___int_list n t' p #[v] k)
        ⟨hp, rfl, ⟨_, hp, rfl⟩, call_meets F.slot_list_mul ⟨_, hp, rfl⟩ F.entry_list_mul (F.args_list_mul_2 _ _)
          (AutoListH.list___mul___list_int_3 p #[v] k n t' (by simp [Builtin.List.listFitsIndex]; omega) (by rw [show (#[v] : Array Value).size = 1 from rfl]; omega) (by simp [Builtin.List.listTooLong, sizeLine]; omega))
          ⟨hp, ?_⟩⟩)
    have e4 : (if (#[v] : Array Value).isEmpty = true then 0 else n.toNat) = n.toNat := rfl
    rw [e4, fold_one]
    exact h _ s.toks q
/-! statements -/
/-- an expression whose list is new, its names read as they stand or (flat items) any names -/
noncomputable def EvFX (u : U) (k : Nat) (sc : Scope) (σ : St) (e : Expr) (xs : List PyData) : Prop := EvFr u k sc σ e xs ∨ (xs.all flat = true ∧ EvFr u k sc (allplain σ) e xs)
theorem flat_repP {N N' : Addr → Prop} {h h' : Heap} {v : Value} {d : PyData} (hf : flat d = true) (r : RepP N h v d) : RepP N' h' v d := by
  cases d with
  | none => have e := RepP.none_inv r; subst e; exact RepP.none
  | bool b => have e := RepP.bool_inv r; subst e; exact RepP.bool b
  | int i => obtain ⟨t, e⟩ := RepP.int_inv r; subst e; exact RepP.int i t
  | str x => obtain ⟨t, e⟩ := RepP.str_inv r; subst e; exact RepP.str x t
  | _ => cases hf
theorem flat_reps {N N' : Addr → Prop} {h h' : Heap} {vs : List Value} {ds : List PyData} (hf : ds.all flat = true) (r : RepPs N h vs ds) : RepPs N' h' vs ds := by
  induction ds generalizing vs with
  | nil => rw [r.inv_nil]; exact .nil
  | cons d ds ih =>
    obtain ⟨v, vs', rfl, h1, h2⟩ := r.inv
    rw [List.all_cons, Bool.and_eq_true] at hf
    exact .cons (flat_repP hf.1 h1) (ih hf.2 h2)
section
variable {env : Env} {N : Addr → Prop} {ad : Str → Addr} {A : Around} {s : Shared} {d : Vd} {x : Str}
theorem EvFX.use {xs : List PyData} (t : EvFX u k sc σ e xs) (he : EnvIs sc env) (ok : Ok A k) (wd : Wd u s.heap) (M : MatchS u N ad env s.heap σ) {Q : Value → Shared → Prop}
    (h : ∀ a vs n h' tk, Keeps u Nil s.heap h' → New s.heap a → u.lim ≤ a → h'.get? a = some (listOf vs n) → RepPs (fun b => Full N ad σ env b ∨ b = a) h' vs.toList xs → Q (.ref a) { s with heap := h', toks := tk }) :
    wpAny u.M A (eval e env) Q NoE s := by
  rcases t with t | ⟨hf, t⟩
  · exact t env _ A s Q (M.here he ok wd) h
  · exact t env _ A s Q (M.hereP he ok wd) fun a vs n h' tk k1 hn hs ha r => h a vs n h' tk k1 hn hs ha (flat_reps hf r)
theorem StT.assign {d : Vd} (t : EvX u k sc σ e d) (hk : canStore sc x = true) (hs : ∀ env, EnvIs sc env → swapsWith e (some (.Name x p)) pos.line env = pure false := by intros; rfl) :
    StT u k sc σ (.Assign [.Name x p] e pos) .next ((x, (d, false)) :: σ) := fun env N ad A s Q he ok wd M h =>
  wpAny_Assign_Name (t.use he ok wd M fun v h1 t1 k1 w1 M1 r1 => store_use (s := { s with heap := h1, toks := t1 }) hk he M1 r1 fun h2 t2 k2 M2 =>
    h .next h2 t2 ad trivial ((k1.mono fun _ => nonil).trans (k2.mono fun a q => .inl q)) fun _ => ⟨fun y e hy => .inl ⟨y, e, OwnSub.refl.cons y e hy, rfl⟩, M2⟩) (hs env he)
theorem StT.assignF {xs : List PyData} (t : EvFX u k sc σ e xs) (hk : canStore sc x = true) (hs : ∀ env, EnvIs sc env → swapsWith e (some (.Name x p)) pos.line env = pure false := by intros; rfl) :
    StT u k sc σ (.Assign [.Name x p] e pos) .next ((x, (Ls xs, true)) :: σ) := fun env N ad A s Q he ok wd M h =>
  wpAny_Assign_Name (t.use he ok wd M fun a vs n h1 t1 k1 hn hsz ha r1 => store_name (s := { s with heap := h1, toks := t1 }) he (M.step k1).fr (canStore_use hk he) fun h2 t2 K F hv ho =>
    h .next h2 t2 (fun y => if y = x then a else ad y) trivial ((k1.mono fun _ => nonil).trans (K.mono fun a q => .inl q)) fun _ => ⟨fun y e hy => by
      rw [look_cons] at hy
      by_cases q : y = x
      · simp only [if_pos q]; exact .inr hn
      · rw [if_neg q] at hy; simp only [if_neg q]; exact .inl ⟨y, e, hy, rfl⟩, M.storeF k1 hn ha r1 hsz K F hv ho⟩) (hs env he)
theorem AsT.use {tgt : Expr} {d : Vd} (a : AsT u sc σ tgt d σ1) (he : EnvIs sc env) (hh : A.handled = none) (M : MatchS u N ad env s.heap σ) {v : Value} (r : Rep u (Full N ad σ env) s.heap v d) {Q : Unit → Shared → Prop}
    (h : ∀ h' tk, Keeps u (Mut ad σ env) s.heap h' → Post u N ad σ env s.heap ad σ1 h' → Q () { s with heap := h', toks := tk }) : wpAny u.M A (assign tgt env v) Q NoE s :=
  a.run env N ad A s v Q he hh M r fun h' tk k1 M1 => h h' tk (k1.mono fun _ q => .inl q) ⟨fun y e hy => .inl ⟨y, e, a.own y e hy, rfl⟩, M1⟩
theorem StT.assignT {tgts : List Expr} {c : Nat} {d : Vd} (t : EvX u k sc σ e d) (a : AsT u sc σ (.Tuple tgts c p) d σ1)
    (hs : ∀ env, EnvIs sc env → swapsWithSole [.Tuple tgts c p] e pos.line env = pure false := by intros; rfl) (hw : ∀ env, EnvIs sc env → swappedStores [.Tuple tgts c p] e env = pure none := by intros; rfl) :
    StT u k sc σ (.Assign [.Tuple tgts c p] e pos) .next σ1 := fun env N ad A s Q he ok wd M h =>
  Assign_Tuple (t.use he ok wd M fun v h1 t1 k1 w1 M1 r1 => a.use (s := { s with heap := h1, toks := t1 }) he ok.handled M1 r1 fun h2 t2 k2 P2 =>
    h .next h2 t2 ad trivial ((k1.mono fun _ => nonil).trans k2) fun _ => ⟨fun y e hy => .inl ⟨y, e, a.own y e hy, rfl⟩, P2.ms⟩) (hs env he) (hw env he)
theorem StT.assign3 {y z : Str} {p1 p2 p3 : Pos} {d : Vd} (t : EvX u k sc σ e d) (hf : d.flat = true) (hx : canStore sc x = true) (hy : canStore sc y = true) (hz : canStore sc z = true)
    (hw : ∀ env, EnvIs sc env → swappedStores [.Name x p1, .Name y p2, .Name z p3] e env = pure none := by intros; rfl) :
    StT u k sc σ (.Assign [.Name x p1, .Name y p2, .Name z p3] e pos) .next ((z, (d, false)) :: (y, (d, false)) :: (x, (d, false)) :: σ) := fun env N ad A s Q he ok wd M h =>
  wpAny_Assign_three (t.use he ok wd M fun v h1 t1 k1 w1 M1 r1 => wpAny_assign_Name (store_use (s := { s with heap := h1, toks := t1 }) hx he M1 r1 fun h2 t2 k2 M2 =>
    wpAny_assign_Name (store_use (s := { s with heap := h2, toks := t2 }) hy he M2 (flat_rep hf r1) fun h3 t3 k3 M3 => wpAny_assign_Name (store_use (s := { s with heap := h3, toks := t3 }) hz he M3 (flat_rep hf r1) fun h4 t4 k4 M4 =>
    h .next h4 t4 ad trivial ((k1.mono fun _ => nonil).trans (((k2.trans k3).trans k4).mono fun a q => .inl q)) fun _ => ⟨fun y e hy => .inl ⟨y, e, OwnSub.refl.cons.cons.cons y e hy, rfl⟩, M4⟩)))) rfl (hw env he)
theorem StT.swap2 {y : Str} {p1 p2 : Pos} {c c' : Nat} {d1 d2 : PyData} {es : List Expr} (t : EvX u k sc σ (.Tuple es c' p') (Tu [d1, d2])) (hx : canStore sc x = true) (hy : canStore sc y = true)
    (hs : ∀ env, EnvIs sc env → swapsWithSole [.Tuple [.Name x p1, .Name y p2] c p] (.Tuple es c' p') pos.line env = pure false := by intros; rfl)
    (hw : ∀ env, EnvIs sc env → swappedStores [.Tuple [.Name x p1, .Name y p2] c p] (.Tuple es c' p') env = pure (some [x, y]) := by rintro ⟨sc', _, _, _, _, _, _, _, _⟩ he; have h9 : sc' = _ := he.scope; subst h9; rfl) :
    StT u k sc σ (.Assign [.Tuple [.Name x p1, .Name y p2] c p] (.Tuple es c' p') pos) .next ((x, (.py d1, false)) :: (y, (.py d2, false)) :: σ) := fun env N ad A s Q he ok wd M h =>
  Assign_Tuple_swapped (t.use he ok wd M fun v h1 t1 k1 w1 M1 r1 => by
    obtain ⟨q, vs, n, rfl, hq, rs⟩ := RepP.tuple_inv r1
    have e1 := rs.length
    simp only [Array.length_toList, List.length_cons, List.length_nil] at e1
    have ht : IsTup h1 q vs := ⟨_, hq, rfl, n, rfl⟩
    obtain ⟨v1, vs', e2, q1, q2⟩ := rs.inv
    obtain ⟨v2, vs'', e3, q3, q4⟩ := q2.inv
    have e4 := q4.inv_nil
    subst e4 e3
    have e5 : vs.size = 2 := by omega
    have key := unpackItems_tuple (prog := u.prog) (w := u.w) (A := A) (E := NoE) (s := { s with heap := h1, toks := t1 }) (items := vs) (t := q) (Q := fun items s₂ => wpAny u.M A (assignInOrder ([x, y].reverse.map fun n => bindName env n) items.reverse) (fun _ => Q .next) NoE s₂) ok.handled ht fun h2 he2 => by
      have k2 : Keeps u Nil h1 h2 := .ext fun b o e => he2 b o (Nat.ne_of_lt (Heap.lt_size e)) e
      rw [e2]
      refine assignInOrder_cons (bindName_ (store_use (s := { s with heap := h2, toks := t1 }) (d := .py d2) hy he (M1.step k2) (RepP.step q3 k2 fun _ => nonil) fun h3 t3 k3 M3 => ?_))
      refine assignInOrder_cons (bindName_ (store_use (s := { s with heap := h3, toks := t3 }) (d := .py d1) hx he M3 (((RepP.step q1 k2 fun _ => nonil).step k3 fun a q => .inr (.inl q)).anti fun _ => full_sub) fun h4 t4 k4 M4 => assignInOrder_nil ?_))
      exact h .next h4 t4 ad trivial (((k1.trans k2).mono fun _ => nonil).trans ((k3.trans k4).mono fun a q => .inl q)) fun _ => ⟨fun y e hy => .inl ⟨y, e, OwnSub.refl.cons.cons y e hy, rfl⟩, M4⟩
    rw [e5] at key
    exact key) (hs env he) (hw env he)
theorem sees_load {v : Value} {Q : Value → Shared → Prop} (he : EnvIs sc env) (hs : Sees env s.heap x v) (h : Q v s) (hc : (x == ("__classdict__" : Str)) = false := by decide) : wpAny u.M A (loadName env x) Q NoE s := by
  rcases hs with ⟨e, m, hn, hm⟩ | ⟨e | e, c, hl, hv⟩
  · exact wpAny_loadName_local he.fn e hn hm h
  · exact wpAny_loadName_cell he.fn e hl hv h
  · exact wpAny_loadName_free he.fn e hl hv h hc
theorem StT.aug {op : Operator} {a b c : Int} (hx : look σ x = some (I a, false)) (t : EvX u k sc σ e (I b)) (hk : canStore sc x = true)
    (rule : ∀ (A : Around) (s : Shared) (t1 t2 : Tok) (Q : Value → Shared → Prop), Q (.int c s.toks) { s with toks := s.toks + 1 } → wpAny u.M A (inplaceOp op (.int a t1) (.int b t2)) Q NoE s)
    (hc : (x == ("__classdict__" : Str)) = false := by decide) :
    StT u k sc σ (.AugAssign (.Name x p) op e pos) .next ((x, (I c, false)) :: σ) := fun env N ad A s Q he ok wd M h => by
  obtain ⟨v, hv, r⟩ := M.val x _ hx
  obtain ⟨t1, rfl⟩ := RepP.int_inv r
  refine wpAny_AugAssign_Name (sees_load he hv (t.use he ok wd M fun v2 h1 tk1 k1 w1 M1 r1 => ?_) hc)
  obtain ⟨t2, rfl⟩ := RepP.int_inv r1
  refine rule A { s with heap := h1, toks := tk1 } t1 t2 _ (store_use (s := { s with heap := h1, toks := tk1 + 1 }) (d := I c) hk he M1 (RepP.int _ _) fun h2 tk2 k2 M2 => ?_)
  exact h .next h2 tk2 ad trivial ((k1.mono fun _ => nonil).trans (k2.mono fun a q => .inl q)) fun _ => ⟨fun y e hy => .inl ⟨y, e, OwnSub.refl.cons y e hy, rfl⟩, M2⟩
theorem StT.ifT {test : Expr} {body orelse : List Stmt} {fl : Fl} (t : TsT u k sc (allplain σ) test true) (b : ExT u k sc σ body fl σ1) : StT u k sc σ (.If test body orelse pos) fl σ1 := fun env N ad A s Q he ok wd M h =>
  wpAny_If (t.use (M.hereP he ok wd) fun h1 t1 k1 H1 => by
    show wpAny u.M A (execs body env) Q NoE _
    exact b env N ad A { s with heap := h1, toks := t1 } Q he ok H1.wd (M.step k1) fun f h2 t2 ad2 fr k2 P2 => h f h2 t2 ad2 fr ((k1.mono fun _ => nonil).trans k2) fun g => ⟨fun y d hy => ((P2 g).own y d hy).imp id fun q => gone k1 q, (P2 g).ms⟩)
theorem StT.ifF {test : Expr} {body orelse : List Stmt} {fl : Fl} (t : TsT u k sc (allplain σ) test false) (b : ExT u k sc σ orelse fl σ1) : StT u k sc σ (.If test body orelse pos) fl σ1 := fun env N ad A s Q he ok wd M h =>
  wpAny_If (t.use (M.hereP he ok wd) fun h1 t1 k1 H1 => by
    show wpAny u.M A (execs orelse env) Q NoE _
    exact b env N ad A { s with heap := h1, toks := t1 } Q he ok H1.wd (M.step k1) fun f h2 t2 ad2 fr k2 P2 => h f h2 t2 ad2 fr ((k1.mono fun _ => nonil).trans k2) fun g => ⟨fun y d hy => ((P2 g).own y d hy).imp id fun q => gone k1 q, (P2 g).ms⟩)
theorem StT.ret {d : Vd} (t : EvX u k sc σ e d) : StT u k sc σ (.Return (some e) pos) (.ret d) σ' := fun env N ad A s Q he ok wd M h =>
  wpAny_Return_some (t.use he ok wd M fun v h1 t1 k1 w1 M1 r1 => h (.ret v) h1 t1 ad (r1.anti fun a q => .inl q) (k1.mono fun _ => nonil) fun g => by cases g)
theorem StT.retk : StT u k sc σ (.Return none pos) .retk σ := fun env N ad A s Q he ok wd M h =>
  wpAny_Return_none (h (.ret .none) s.heap s.toks ad rfl (.refl _) fun g => ⟨fun y d hy => .inl ⟨y, d, hy, rfl⟩, M⟩)
theorem StT.brk : StT u k sc σ (.Break pos) .brk σ := fun env N ad A s Q he ok wd M h =>
  wpAny_Break (h .brk s.heap s.toks ad trivial (.refl _) fun g => ⟨fun y d hy => .inl ⟨y, d, hy, rfl⟩, M⟩)
end
end
end
section
noncomputable def EvXs (u : U) (k : Nat) (sc : Scope) (σ : St) (es : List Expr) (ds : List Vd) : Prop := EvTs u k sc σ es ds ∨ (ds.all Vd.flat = true ∧ EvTs u k sc (allplain σ) es ds)
section
variable {u : U} {k : Nat} {sc : Scope} {σ σ' σ1 σ2 : St} {pos p p' : Pos} {l r e : Expr} {env : Env} {N : Addr → Prop} {ad : Str → Addr} {A : Around} {s : Shared} {d : Vd} {x : Str} {h h' : Heap} {v : Value}
theorem flat_repVs {u : U} {N N' : Addr → Prop} {h h' : Heap} : ∀ {vs : List Value} {ds : List Vd}, ds.all Vd.flat = true → RepVs u N h vs ds → RepVs u N' h' vs ds
  | [], [], _, _ => trivial
  | v :: vs, d :: ds, hf, r => by
    rw [List.all_cons, Bool.and_eq_true] at hf
    exact ⟨flat_rep hf.1 r.1, flat_repVs hf.2 r.2⟩
  | [], _ :: _, _, r => r.elim
  | _ :: _, [], _, r => r.elim
theorem EvXs.use {es : List Expr} {ds : List Vd} (t : EvXs u k sc σ es ds) (hp : es.all plainE = true) (he : EnvIs sc env) (ok : Ok A k) (wd : Wd u s.heap) (M : MatchS u N ad env s.heap σ) {Q : List Value → Shared → Prop}
    (h : ∀ vs h' tk, Keeps u Nil s.heap h' → Wd u h' → MatchS u N ad env h' σ → RepVs u (Full N ad σ env) h' vs ds → Q vs { s with heap := h', toks := tk }) : wpAny u.M A (spliced (backTo pos (starEach es env))) Q NoE s := by
  rcases t with t | ⟨hf, t⟩
  · exact t.use hp (M.here he ok wd) fun vs h1 t1 k1 H1 r1 => h vs h1 t1 k1 H1.wd (M.step k1) r1
  · exact t.use hp (M.hereP he ok wd) fun vs h1 t1 k1 H1 r1 => h vs h1 t1 k1 H1.wd (M.step k1) (flat_repVs hf r1)
theorem EvXs.args {es : List Expr} {ds : List Vd} {f : Value} (t : EvXs u k sc σ es ds) (hp : es.all plainE = true) (he : EnvIs sc env) (ok : Ok A k) (wd : Wd u s.heap) (M : MatchS u N ad env s.heap σ) {Q : Args → Shared → Prop}
    (h : ∀ vs h' tk, Keeps u Nil s.heap h' → Wd u h' → MatchS u N ad env h' σ → RepVs u (Full N ad σ env) h' vs ds → Q ⟨vs, []⟩ { s with heap := h', toks := tk }) : wpAny u.M A (evalArgs f true (backTo pos (starEach es env)) []) Q NoE s := by
  rcases t with t | ⟨hf, t⟩
  · exact evalArgs_use t hp (M.here he ok wd) fun vs h1 t1 k1 H1 r1 => h vs h1 t1 k1 H1.wd (M.step k1) r1
  · exact evalArgs_use t hp (M.hereP he ok wd) fun vs h1 t1 k1 H1 r1 => h vs h1 t1 k1 H1.wd (M.step k1) (flat_repVs hf r1)
theorem own_swap {d' : Vd} {a : Addr} (hx : look σ x = some (d, true)) (o : OwnA ad ((x, (d', true)) :: σ) a) : OwnA ad σ a := by
  obtain ⟨y, e, hy, q⟩ := o
  rw [look_cons] at hy
  by_cases ne : y = x
  · exact ⟨x, _, hx, ne ▸ q⟩
  · rw [if_neg ne] at hy; exact ⟨y, e, hy, q⟩
/-- an owned list is changed in its place -/
theorem MatchS.mutateK {ys : List PyData} {vs : Array Value} {n : Nat} (M : MatchS u N ad env h σ) (hx : look σ x = some (d, true)) (K : Keeps u (fun a => a = ad x) h h') (ha : h'.get? (ad x) = some (listOf vs n)) (r : RepPs (Full N ad σ env) h' vs.toList ys) :
    MatchS u N ad env h' ((x, (d.upd ys, true)) :: σ) := by
  obtain ⟨ws, m, xs', e0, e1, e2, e3, e4, e5⟩ := M.own x _ hx
  have hF : ¬ FA env (ad x) := M.notFA hx
  have s1 : ∀ a, a = ad x → Full N ad σ env a := fun a q => .inr (.inr ⟨x, _, hx, q.symm⟩)
  have fs : ∀ a, Full N ad ((x, (d.upd ys, true)) :: σ) env a → Full N ad σ env a := fun a q => q.imp id fun q => q.imp id fun q => own_swap hx q
  have nF : ∀ a, FA env a → ¬ (a = ad x) := fun a q e => hF (e ▸ q)
  refine ⟨M.live.step K, M.fr.step K nF, M.frN, fun y e hy => ?_, fun y e hy => ?_, fun y z e f hy hz => ?_⟩
  · rw [look_cons] at hy
    by_cases ne : y = x
    · rw [if_pos ne] at hy; cases hy
    · rw [if_neg ne] at hy
      obtain ⟨w, hw, rw⟩ := M.val y e hy
      exact ⟨w, hw.step M.fr K nF, (rw.step K s1).anti fs⟩
  · rw [look_cons] at hy
    by_cases ne : y = x
    · subst ne; rw [if_pos rfl] at hy; cases hy
      exact ⟨vs, n, ys, e0.upd, e1.step M.fr K nF, ha, r.anti fs, e4, e5⟩
    · rw [if_neg ne] at hy
      obtain ⟨ws, m, ys, f0, f1, f2, f3, f4⟩ := M.own y e hy
      exact ⟨ws, m, ys, f0, f1.step M.fr K nF, K.old _ _ f2 kp_list fun q => ne (M.inj _ _ _ _ hy hx q), (f3.step K s1).anti fs, f4⟩
  · have g : ∀ y e, look ((x, (d.upd ys, true)) :: σ) y = some (e, true) → ∃ e', look σ y = some (e', true) := fun y e hy => by
      rw [look_cons] at hy
      by_cases ne : y = x
      · exact ⟨_, ne ▸ hx⟩
      · rw [if_neg ne] at hy; exact ⟨e, hy⟩
    obtain ⟨_, hy'⟩ := g y e hy
    obtain ⟨_, hz'⟩ := g z f hz
    exact M.inj _ _ _ _ hy' hz'
theorem MatchS.mutate {ys : List PyData} {vs : Array Value} {n : Nat} (M : MatchS u N ad env h σ) (hx : look σ x = some (d, true)) (hs : Heap.SameBut (ad x) h h') (ha : h'.get? (ad x) = some (listOf vs n)) (r : RepPs (Full N ad σ env) h vs.toList ys) :
    Keeps u (Mut ad σ env) h h' ∧ MatchS u N ad env h' ((x, (d.upd ys, true)) :: σ) := by
  obtain ⟨ws, m, xs', e0, e1, e2, e3, e4, e5⟩ := M.own x _ hx
  have K : Keeps u (fun a => a = ad x) h h' := .upd e4 hs rfl ⟨_, ha, tr_list⟩ (fun its n q => by rw [e2] at q; exact absurd (congrArg Obj.cls (Option.some.inj q)) (by intro h; injection h with h; exact absurd h (by decide))) (seq_notCode e2)
  exact ⟨K.mono fun a q => .inr ⟨x, _, hx, q.symm⟩, M.mutateK hx K ha (r.step K fun a q => .inr (.inr ⟨x, _, hx, q.symm⟩))⟩
/-- a method of a list that changes it, as a statement -/
theorem StT.listMeth {name : Str} {id : String} {xs ys : List PyData} {es : List Expr} {ds : List Vd} {ap cp : Pos} (slot : Slot "list" name id) (ty : typeOf (.builtin id) = pure (.type "method_descriptor"))
    (hx : look σ x = some (d, true)) (hl : d.lst = some xs) (t : EvXs u k sc σ es ds) (hp : es.all plainE = true)
    (rule : ∀ (N : Addr → Prop) (A : Around) (s : Shared) (a : Addr) (vs : Array Value) (n : Nat) (ws : List Value) (Q : Value → Shared → Prop), s.heap.get? a = some (listOf vs n) → RepPs N s.heap vs.toList xs → RepVs u N s.heap ws ds →
      (∀ h' vs' n', Heap.SameBut a s.heap h' → h'.get? a = some (listOf vs' n') → RepPs N s.heap vs'.toList ys → Q .none { s with heap := h' }) → wpAny u.M A (call (.builtin id) (.ref a :: ws)) Q NoE s)
    (hbase : ∀ env, attributeBase (.Name x p) name env (eval (.Name x p) env) = eval (.Name x p) env)
    (hfew : ∀ env, ((backTo cp (starEach es env)).all (fun x => !x.1) && (backToKw cp (keywordEach [] env)).all (fun x => x.1.isSome)
      && decide (es.length + ([] : List Keyword).length + (if ([] : List Keyword).isEmpty then 0 else 1) < 30)) = true)
    (hline : (ap.endLine == cp.line) = true)
    (hd : (x == ("__debug__" : Str)) = false := by decide) (hc : (x == ("__classdict__" : Str)) = false := by decide) :
    StT u k sc σ (.Expr (.Call (.Attribute (.Name x p) name ap) es [] cp) pos) .next ((x, (d.upd ys, true)) :: σ) := fun env N ad A s Q he ok wd M h => by
  obtain ⟨ws, m, xs', e0, e1, e2, e3, e4, e5⟩ := M.own x _ hx
  have e9 := e0.lst
  rw [hl] at e9; cases e9
  refine wpAny_Expr (wpAny_Call_method_lateS (hbase env) (hfew env) hline (sees_name he e1 ?_ hd hc)) (by unfold interactive; rw [he.fn]; rfl) rfl
  refine ⟨"list", id, PySem.F.plainAttrs_list, slot, ty, ⟨_, e2, rfl⟩, fun a q => by cases q; exact ⟨_, e2, rfl⟩, ?_⟩
  refine Calls.callWith_builtin (noStar hp) (t.args hp he ok wd M fun vs h1 t1 k1 w1 M1 r1 => ?_)
  obtain ⟨ws, m, xs', f0, f1, f2, f3, f4, f5⟩ := M1.own x _ hx
  have f9 := f0.lst
  rw [hl] at f9; cases f9
  refine rule (Full N ad σ env) A { s with heap := h1, toks := t1 } (ad x) ws m vs _ f2 f3 r1 fun h2 vs' n' hs ha r2 => ?_
  obtain ⟨K, M2⟩ := M1.mutate hx hs ha r2
  exact h .next h2 t1 ad trivial ((k1.mono fun _ => nonil).trans K) fun _ => ⟨fun y e hy => .inl (own_swap hx ⟨y, e, hy, rfl⟩), M2⟩
theorem StT.append {xs : List PyData} {d : PyData} {ap cp : Pos} (hx : look σ x = some (Ls xs, true)) (t : EvX u k sc σ e (.py d)) (hz : xs.length ≤ sizeLine) (hp : plainE e = true := by rfl)
    (hline : (ap.endLine == cp.line) = true := by rfl)
    (hd : (x == ("__debug__" : Str)) = false := by decide) (hc : (x == ("__classdict__" : Str)) = false := by decide) :
    StT u k sc σ (.Expr (.Call (.Attribute (.Name x p) "append" ap) [e] [] cp) pos) .next ((x, (Ls (xs ++ [d]), true)) :: σ) :=
  StT.listMeth slot_list_append PySem.F.type_list_append hx rfl (t.imp (fun t => EvTs.cons t .nil) fun t => ⟨by simpa using t.1, EvTs.cons t.2 .nil⟩) (by simp [hp]) (fun N A s a vs n ws Q ha r rv h => by
    obtain ⟨v, rfl, r1⟩ := RepVs.inv1 rv
    have hl : IsL s.heap a vs n := ha
    have e1 := r.length
    simp only [Array.length_toList] at e1
    exact call_meets slot_list_append ⟨_, ha, rfl⟩ entry_list_append (args_list_append _ _) (AutoListH.list_append_list_val_0 a vs n v (by omega)) ⟨hl, h _ _ _ (Heap.SameBut.update ..) (hl.update _) (by rw [Array.toList_push]; exact r.append (.cons r1 .nil))⟩)
    (fun _ => rfl) (fun env => by rw [starEach_plain hp]; rfl) hline hd hc
theorem StT.reverse {xs : List PyData} {ap cp : Pos} (hx : look σ x = some (Ls xs, true)) (hz : xs.length ≤ sizeLine)
    (hline : (ap.endLine == cp.line) = true := by rfl)
    (hd : (x == ("__debug__" : Str)) = false := by decide) (hc : (x == ("__classdict__" : Str)) = false := by decide) :
    StT u k sc σ (.Expr (.Call (.Attribute (.Name x p) "reverse" ap) [] [] cp) pos) .next ((x, (Ls xs.reverse, true)) :: σ) :=
  StT.listMeth (es := []) (ds := []) PySem.F.slot_list_reverse PySem.F.type_list_reverse hx rfl (.inl trivial) rfl (fun N A s a vs n ws Q ha r rv h => by
    cases ws with
    | cons => exact rv.elim
    | nil =>
    have hl : IsL s.heap a vs n := ha
    have e1 := r.length
    simp only [Array.length_toList] at e1
    exact call_meets PySem.F.slot_list_reverse ⟨_, ha, rfl⟩ PySem.F.entry_list_reverse (PySem.F.args_list_reverse_1 _) (AutoSeq1.list_reverse_list_0 a vs n (by omega)) ⟨hl, h _ _ _ (Heap.SameBut.update ..) (hl.update _) (by rw [Array.toList_reverse]; exact r.reverse)⟩)
    (fun _ => rfl) (fun env => rfl) hline hd hc
set_option maxRecDepth 20000 in
theorem StT.insert {xs : List PyData} {i : Nat} {e1 e2 : Expr} {d : PyData} {dl : Vd} {ap cp : Pos} (hx : look σ x = some (dl, true)) (hl : dl.lst = some xs) (t : EvXs u k sc σ [e1, e2] [I (i : Int), .py d]) (hi : i ≤ xs.length) (hz : xs.length < 2 ^ 20) (hp : [e1, e2].all plainE = true := by rfl)
    (hline : (ap.endLine == cp.line) = true := by rfl)
    (hd : (x == ("__debug__" : Str)) = false := by decide) (hc : (x == ("__classdict__" : Str)) = false := by decide) :
    StT u k sc σ (.Expr (.Call (.Attribute (.Name x p) "insert" ap) [e1, e2] [] cp) pos) .next ((x, (dl.upd (xs.take i ++ d :: xs.drop i), true)) :: σ) :=
  StT.listMeth PySem.F.slot_list_insert PySem.F.type_list_insert hx hl t hp (fun N A s a vs n ws Q ha r rv h => by
    obtain ⟨v1, v, rfl, r1, r2⟩ := RepVs.inv2 rv
    obtain ⟨t1, rfl⟩ := RepP.int_inv r1
    have hl : IsL s.heap a vs n := ha
    have e1 := r.length
    simp only [Array.length_toList] at e1
    have hsz : vs.size ≤ sizeLine := by rw [e1, sizeLine_eq]; omega
    have hfit : Builtin.List.listFitsIndex (i : Int) = true := by
      unfold Builtin.List.listFitsIndex
      have : (i : Int) < 1048576 := by omega
      simp only [Bool.and_eq_true, decide_eq_true_eq]
      omega
    obtain ⟨j, hj⟩ : ∃ j : Int, j = (i : Int) := ⟨_, rfl⟩
    rw [← hj] at hfit ⊢
    have hT : s.TypeIs (.ref a) "list" := ⟨_, ha, rfl⟩
    have hA : argsOk "list.insert" ⟨[.ref a, .int j t1, v], []⟩ := PySem.F.args_list_insert_3 _ _ _
    have h0 : ¬(!Builtin.List.listFitsIndex j) = true := by rw [hfit]; decide
    have hM := AutoListH.list_insert_list_int_val_1 a vs n j t1 v h0 hsz
    refine call_meets PySem.F.slot_list_insert hT PySem.F.entry_list_insert hA hM ⟨hl, h _ _ _ (Heap.SameBut.update ..) (hl.update _) ?_⟩
    have q : ¬ (j < 0) := by omega
    simp only [q, if_false]
    subst hj
    have e2 : min (i : Int).toNat vs.size = i := by rw [e1]; simp; omega
    rw [e2]
    have e3 : ((vs.extract 0 i).push v ++ vs.extract i).toList = vs.toList.take i ++ v :: vs.toList.drop i := by
      simp [Array.toList_extract]
      exact List.take_of_length_le (by simp)
    rw [e3]
    exact (r.take i).append (.cons r2 (r.drop i)))
    (fun _ => rfl) (fun env => by
      simp only [List.all_cons, Bool.and_eq_true] at hp
      rw [starEach_plain hp.1, starEach_plain hp.2.1]; rfl) hline hd hc
theorem holds_now {xs : List PyData} (M : MatchS u N ad env h σ) (hx : look σ x = some (Ls xs, true)) : ∃ vs n, Sees env h x (.ref (ad x)) ∧ h.get? (ad x) = some (listOf vs n) ∧ RepPs (Full N ad σ env) h vs.toList xs := by
  obtain ⟨vs, n, xs', e0, e1, e2, e3, _⟩ := M.own x _ hx
  have e9 := e0.lst
  cases e9
  exact ⟨vs, n, e1, e2, e3⟩
/-- x[i] = e -/
theorem StT.setItem {xs : List PyData} {i : Int} {ie : Expr} {d : PyData} {sp : Pos} (hx : look σ x = some (Ls xs, true)) (t : EvX u k sc σ e (.py d)) (ti : EvT u k sc (allplain σ) ie (I i)) (h0 : 0 ≤ i) (h1 : i < xs.length) (hz : xs.length < 2 ^ 62)
    (hs : ∀ env, EnvIs sc env → swapsWith e (some (.Subscript (.Name x p) ie sp)) pos.line env = pure false := by intros; rfl)
    (hd : (x == ("__debug__" : Str)) = false := by decide) (hc : (x == ("__classdict__" : Str)) = false := by decide) :
    StT u k sc σ (.Assign [.Subscript (.Name x p) ie sp] e pos) .next ((x, (Ls (xs.set i.toNat d), true)) :: σ) := fun env N ad A s Q he ok wd M h => by
  refine wpAny_Assign_Subscript (t.use he ok wd M fun v h1' t1 k1 w1 M1 r1 => ?_) (hs env he)
  obtain ⟨vs, n, f1, f2, f3⟩ := holds_now M1 hx
  refine sees_name (s := { s with heap := h1', toks := t1 }) he f1 (ti.use (s := { s with heap := h1', toks := t1 }) (M1.hereP he ok w1) fun iv h2 t2 k2 H2 r2 => ?_) hd hc
  obtain ⟨t', rfl⟩ := RepP.int_inv r2
  have M2 := M1.step k2
  obtain ⟨ws, m, g1, g2, g3⟩ := holds_now M2 hx
  have e1 := g3.length
  simp only [Array.length_toList] at e1
  have r3 : RepP (Full N ad σ env) h2 v d := RepP.step r1 k2 fun _ => nonil
  have hl : IsL h2 (ad x) ws m := g2
  refine ki_setAt (n := m) (s := { s with heap := h2, toks := t2 }) (items := ws) g2 h0 (by omega) (by omega) ?_
  obtain ⟨K, M3⟩ := M2.mutate (vs := ws.setIfInBounds i.toNat v) (n := m) hx (Heap.SameBut.update ..) (by have q := hl.update (·.setIfInBounds i.toNat v); simpa using q) (by rw [Array.toList_setIfInBounds]; exact g3.set r3 i.toNat)
  exact h .next _ t2 ad trivial (((k1.trans k2).mono fun _ => nonil).trans K) fun _ => ⟨fun y e hy => .inl (own_swap hx ⟨y, e, hy, rfl⟩), M3⟩
theorem holds_lat {l : Addr} {xs : List PyData} (M : MatchS u N ad env h σ) (hx : look σ x = some (.lat l xs, true)) : ∃ vs n, Sees env h x (.ref (ad x)) ∧ h.get? (ad x) = some (listOf vs n) ∧ RepPs (Full N ad σ env) h vs.toList xs := by
  obtain ⟨vs, n, xs', e0, e1, e2, e3, _⟩ := M.own x _ hx
  have e9 := e0.lst
  cases e9
  exact ⟨vs, n, e1, e2, e3⟩
/-- x[i] = e -/
theorem StT.storeLat {l : Addr} {xs : List PyData} {i : Int} {ie : Expr} {d : PyData} {sp : Pos} (hx : look σ x = some (.lat l xs, true)) (t : EvX u k sc σ e (.py d)) (ti : EvT u k sc (allplain σ) ie (I i)) (h0 : 0 ≤ i) (h1 : i < xs.length) (hz : xs.length < 2 ^ 62)
    (hs : ∀ env, EnvIs sc env → swapsWith e (some (.Subscript (.Name x p) ie sp)) pos.line env = pure false := by intros; rfl)
    (hd : (x == ("__debug__" : Str)) = false := by decide) (hc : (x == ("__classdict__" : Str)) = false := by decide) :
    StT u k sc σ (.Assign [.Subscript (.Name x p) ie sp] e pos) .next ((x, (.lat l (xs.set i.toNat d), true)) :: σ) := fun env N ad A s Q he ok wd M h => by
  refine wpAny_Assign_Subscript (t.use he ok wd M fun v h1' t1 k1 w1 M1 r1 => ?_) (hs env he)
  obtain ⟨vs, n, f1, f2, f3⟩ := holds_lat M1 hx
  refine sees_name (s := { s with heap := h1', toks := t1 }) he f1 (ti.use (s := { s with heap := h1', toks := t1 }) (M1.hereP he ok w1) fun iv h2 t2 k2 H2 r2 => ?_) hd hc
  obtain ⟨t', rfl⟩ := RepP.int_inv r2
  have M2 := M1.step k2
  obtain ⟨ws, m, g1, g2, g3⟩ := holds_lat M2 hx
  have e1 := g3.length
  simp only [Array.length_toList] at e1
  have r3 : RepP (Full N ad σ env) h2 v d := RepP.step r1 k2 fun _ => nonil
  have hl : IsL h2 (ad x) ws m := g2
  refine ki_setAt (n := m) (s := { s with heap := h2, toks := t2 }) (items := ws) g2 h0 (by omega) (by omega) ?_
  obtain ⟨K, M3⟩ := M2.mutate (vs := ws.setIfInBounds i.toNat v) (n := m) hx (Heap.SameBut.update ..) (by have q := hl.update (·.setIfInBounds i.toNat v); simpa using q) (by rw [Array.toList_setIfInBounds]; exact g3.set r3 i.toNat)
  exact h .next _ t2 ad trivial (((k1.trans k2).mono fun _ => nonil).trans K) fun _ => ⟨fun y e hy => .inl (own_swap hx ⟨y, e, hy, rfl⟩), M3⟩
end
end
section
/-- what a range gives -/
noncomputable def rng (x step : Int) : Nat → List PyData
  | 0 => []
  | n + 1 => .int x :: rng (x + step) step n
noncomputable def chars (l : List Nat) : List PyData := l.map fun c => .str ⟨#[c]⟩
noncomputable def ItRep (N : Addr → Prop) (h : Heap) (I : Addr) (ds : List PyData) : Prop :=
  (∃ l vs n i, h.IsListIter I l i ∧ h.get? l = some (listOf vs n) ∧ ¬ N l ∧ RepPs N h (vs.toList.drop i) ds) ∨
  (∃ x left step, IsRangeIter h I x left step ∧ ds = rng x step left.toNat) ∨
  (∃ x t i, h.IsStrIter I (strIterType x) x t i ∧ ds = chars (x.cps.toList.drop i)) ∨
  (∃ l vs n i, h.IsRevIter I l ((i : Nat) - 1 : Int) ∧ h.get? l = some (listOf vs n) ∧ ¬ N l ∧ i ≤ vs.size ∧ RepPs N h (vs.toList.take i).reverse ds)
section
variable {u : U} {N N' X : Addr → Prop} {h h' : Heap} {I : Addr} {ds : List PyData} {d : PyData} {A : Around} {s : Shared} {E : Value → Shared → Prop}
theorem ItRep.obj (r : ItRep N h I ds) : ∃ o T ps, h.get? I = some o ∧ o.cls = .type T ∧ o.data = .fields ps ∧ (["enumerate", "zip", "dict_itemiterator", "dict_reverseitemiterator", "odict_iterator", "itertools.zip_longest", "itertools.pairwise"].contains T) = false := by
  rcases r with ⟨l, vs, n, i, ⟨o, h1, h2, h3⟩, _⟩ | ⟨x, left, step, h1, _⟩ | ⟨x, t, i, ⟨o, h1, h2, h3⟩, _⟩ | ⟨l, vs, n, i, ⟨o, h1, h2, h3⟩, _⟩
  · exact ⟨o, _, _, h1, h2, h3, by decide⟩
  · exact ⟨_, "range_iterator", _, h1, rfl, rfl, by decide⟩
  · refine ⟨o, _, _, h1, h2, h3, ?_⟩
    unfold strIterType
    split <;> decide
  · exact ⟨o, _, _, h1, h2, h3, by decide⟩
theorem ItRep.new (r : ItRep N h I ds) : New h I := by
  obtain ⟨o, T, ps, h1, h2, h3, _⟩ := r.obj
  exact fun o' e t => by rw [h1] at e; cases e; exact t _ h3
theorem ItRep.notCode (r : ItRep N h I ds) : NotCode h I := by
  intro o vs y t e d
  rcases r with ⟨l, vs', n, i, ⟨o', h1, h2, h3⟩, _⟩ | ⟨x, left, step, h1, _⟩ | ⟨x, t', i, ⟨o', h1, h2, h3⟩, _⟩ | ⟨l, vs', n, i, ⟨o', h1, h2, h3⟩, _⟩
  all_goals have h1' := e.symm.trans h1; cases h1'
  · rw [d] at h3; cases h3; simp
  · cases d; simp [rawInt]
  · rw [d] at h3; cases h3; simp
  · rw [d] at h3; cases h3; simp [rawInt]
theorem ItRep.stay (r : ItRep N h I ds) (k : Keeps u X h h') (n : ¬ X I) : ∀ o, h.get? I = some o → h'.get? I = some o := by
  obtain ⟨o, T, ps, h1, h2, h3, _⟩ := r.obj
  intro o' e
  rw [h1] at e; cases e
  exact k.old I o h1 (.inl (by rw [h2]; nofun)) n
theorem list_stay {a : Addr} {vs : Array Value} {n : Nat} (e : h.get? a = some (listOf vs n)) (nN : ¬ N a) (k : Keeps u X h h') (s : ∀ a, X a → N a ∨ New h a) : h'.get? a = some (listOf vs n) :=
  k.old _ _ e kp_list fun q => (s a q).elim nN fun z => z _ e tr_list
theorem ItRep.step (r : ItRep N h I ds) (k : Keeps u X h h') (s : ∀ a, X a → N a ∨ New h a) (n : ¬ X I) : ItRep N h' I ds := by
  have st := r.stay k n
  rcases r with ⟨l, vs, n, i, ⟨o, h1, h2⟩, h3, h4, h5⟩ | ⟨x, left, step, h1, h2⟩ | ⟨x, t, i, ⟨o, h1, h2⟩, h3⟩ | ⟨l, vs, n, i, ⟨o, h1, h2⟩, h3, h4, h5, h6⟩
  · exact .inl ⟨l, vs, n, i, ⟨o, st _ h1, h2⟩, list_stay h3 h4 k s, h4, h5.stepN k s⟩
  · exact .inr (.inl ⟨x, left, step, st _ h1, h2⟩)
  · exact .inr (.inr (.inl ⟨x, t, i, ⟨o, st _ h1, h2⟩, h3⟩))
  · exact .inr (.inr (.inr ⟨l, vs, n, i, ⟨o, st _ h1, h2⟩, list_stay h3 h4 k s, h4, h5, h6.stepN k s⟩))
theorem ItRep.fresh (r : ItRep N h I ds) (s : ∀ a, N' a → N a ∨ New h a) : ItRep N' h I ds := by
  rcases r with ⟨l, vs, n, i, h1, h3, h4, h5⟩ | r | r | ⟨l, vs, n, i, h1, h3, h4, h5, h6⟩
  · exact .inl ⟨l, vs, n, i, h1, h3, fun q => (s _ q).elim h4 fun z => z _ h3 tr_list, h5.fresh s⟩
  · exact .inr (.inl r)
  · exact .inr (.inr (.inl r))
  · exact .inr (.inr (.inr ⟨l, vs, n, i, h1, h3, fun q => (s _ q).elim h4 fun z => z _ h3 tr_list, h5, h6.fresh s⟩))
theorem ItRep.next {Q : Option Value → Shared → Prop} (r : ItRep N s.heap I (d :: ds)) (hs : u.lim ≤ I)
    (h : ∀ v h' tk, Keeps u (fun a => a = I) s.heap h' → RepP N h' v d → ItRep N h' I ds → Q (some v) { s with heap := h', toks := tk }) : wpAny u.M A (pyNext (.ref I)) Q E s := by
  have hn := r.new
  have hnc := r.notCode
  have sI : ∀ a, a = I → N a ∨ New s.heap a := fun a e => .inr (e ▸ hn)
  rcases r with ⟨l, vs, n, i, h1, h3, h4, h5⟩ | ⟨x, left, step, h1, h2⟩ | ⟨x, t, i, h1, h3⟩ | ⟨l, vs, n, i, h1, h3, h4, h5, h6⟩
  · obtain ⟨v, vs', e1, r1, r2⟩ := h5.inv
    have e2 : vs[i]? = some v := by
      have := congrArg (fun l => l[0]?) e1
      simpa using this
    refine wpAny_pyNext_list_item h1 ⟨_, h3, rfl, n, rfl⟩ e2 fun h' hit' hs' => ?_
    have K : Keeps u (fun a => a = I) s.heap h' := .iter hs hs'.extBut rfl hn hnc
    refine h v h' s.toks K (r1.stepN K sI) (.inl ⟨l, vs, n, i + 1, hit', list_stay h3 h4 K sI, h4, ?_⟩)
    have e3 : vs.toList.drop (i + 1) = vs' := by rw [← List.drop_drop, e1]; rfl
    rw [e3]; exact r2.stepN K sI
  · have hl : 0 < left := by
      rcases Int.lt_or_le 0 left with q | q
      · exact q
      · rw [Int.toNat_of_nonpos q] at h2; cases h2
    obtain ⟨m, rfl⟩ : ∃ m : Nat, left = m + 1 := ⟨(left - 1).toNat, by omega⟩
    rw [show ((m : Int) + 1).toNat = m + 1 by omega] at h2
    injection h2 with h2 h2'
    subst h2
    refine wpAny_pyNext_range_item h1 hl fun h' hit' hs' => ?_
    exact h _ h' _ (.iter hs hs'.extBut rfl hn hnc) (RepP.int _ _) (.inr (.inl ⟨x + step, m + 1 - 1, step, hit', by rw [h2', show ((m : Int) + 1 - 1).toNat = m by omega]⟩))
  · have hlt : i < x.cps.toList.length := by
      rcases Nat.lt_or_ge i x.cps.toList.length with q | q
      · exact q
      · rw [List.drop_of_length_le q] at h3; cases h3
    have e1 := List.drop_eq_getElem_cons hlt
    rw [e1] at h3
    injection h3 with h3 h3'
    subst h3
    have e2 : x.cps[i]? = some x.cps.toList[i] := by simp at hlt; simp [hlt]
    unfold strIterType at h1
    cases hb : x.cps.all (· < 128) with
    | true =>
      rw [if_pos hb] at h1
      refine wpAny_pyNext_ascii_item h1 e2 fun h' hit' hs' => ?_
      refine h _ h' _ (.iter hs hs'.extBut rfl hn hnc) (RepP.str _ _) (.inr (.inr (.inl ⟨x, t, i + 1, ?_, h3'⟩)))
      unfold strIterType; rw [if_pos hb]; exact hit'
    | false =>
      rw [if_neg (by rw [hb]; decide)] at h1
      refine wpAny_pyNext_wide_item h1 e2 fun h' hit' hs' => ?_
      refine h _ h' _ (.iter hs hs'.extBut rfl hn hnc) (RepP.str _ _) (.inr (.inr (.inl ⟨x, t, i + 1, ?_, h3'⟩)))
      unfold strIterType; rw [if_neg (by rw [hb]; decide)]; exact hit'
  · obtain ⟨v, vs', e1, r1, r2⟩ := h6.inv
    have hi : 0 < i := by
      rcases Nat.eq_zero_or_pos i with q | q
      · subst q; simp at e1
      · exact q
    obtain ⟨j, rfl⟩ : ∃ j, i = j + 1 := ⟨i - 1, by omega⟩
    have hj : j < vs.toList.length := by simp; omega
    rw [List.take_succ_eq_append_getElem hj, List.reverse_append] at e1
    injection e1 with e1 e1'
    have e2 : vs[j]? = some v := by simp at hj; simp [hj]; simpa using e1
    rw [show (((j + 1 : Nat) : Int) - 1) = (j : Int) by omega] at h1
    refine wpAny_pyNext_rev_item h1 ⟨_, h3, rfl, n, rfl⟩ e2 fun h' hit' hs' => ?_
    have K : Keeps u (fun a => a = I) s.heap h' := .iter hs hs'.extBut rfl hn hnc
    refine h v h' s.toks K (r1.stepN K sI) (.inr (.inr (.inr ⟨l, vs, n, j, hit', list_stay h3 h4 K sI, h4, by omega, ?_⟩)))
    rw [show (vs.toList.take j).reverse = vs' by simpa using e1']
    exact r2.stepN K sI
theorem ItRep.done {Q : Option Value → Shared → Prop} (r : ItRep N s.heap I []) (hh : A.handled = none) (hs : u.lim ≤ I)
    (h : ∀ h' tk, Keeps u (fun a => a = I) s.heap h' → Q none { s with heap := h', toks := tk }) : wpAny u.M A (pyNext (.ref I)) Q E s := by
  have hn := r.new
  have hnc := r.notCode
  rcases r with ⟨l, vs, n, i, h1, h3, h4, h5⟩ | ⟨x, left, step, h1, h2⟩ | ⟨x, t, i, h1, h3⟩ | ⟨l, vs, n, i, h1, h3, h4, h5, h6⟩
  · have e1 := h5.inv_nil
    have e2 : vs[i]? = none := by
      have := congrArg (fun l => l[0]?) e1
      simpa using this
    exact wpAny_pyNext_list_end hh h1 ⟨_, h3, rfl, n, rfl⟩ e2 fun h' he' => h h' s.toks (.iter hs he' rfl hn hnc)
  · have hl : left ≤ 0 := by
      rcases Int.lt_or_le 0 left with q | q
      · obtain ⟨m, rfl⟩ : ∃ m : Nat, left = m + 1 := ⟨(left - 1).toNat, by omega⟩
        rw [show ((m : Int) + 1).toNat = m + 1 by omega] at h2
        cases h2
      · exact q
    exact wpAny_pyNext_range_end hh h1 hl fun h' he' => h h' s.toks (.iter hs he' rfl hn hnc)
  · have e2 : x.cps[i]? = none := by
      have := congrArg List.length h3
      simp [chars] at this
      simp; omega
    unfold strIterType at h1
    cases hb : x.cps.all (· < 128) with
    | true =>
      rw [if_pos hb] at h1
      exact wpAny_pyNext_ascii_end hh h1 e2 fun h' he' => h h' s.toks (.iter hs he' rfl hn hnc)
    | false =>
      rw [if_neg (by rw [hb]; decide)] at h1
      exact wpAny_pyNext_wide_end hh h1 e2 fun h' he' => h h' s.toks (.iter hs he' rfl hn hnc)
  · have e1 := h6.inv_nil
    have hi : i = 0 := by
      have := congrArg List.length e1
      rw [List.length_reverse, List.length_take, Array.length_toList, List.length_nil] at this
      omega
    subst hi
    exact wpAny_pyNext_rev_end hh h1 fun h' he' => h h' s.toks (.iter hs he' rfl hn hnc)
theorem ItRep.go {Q : Unit → Shared → Prop} {tgt : Expr} {v : Value} (r : ItRep N s.heap I ds) (h : Q () s) : wpAny u.M A (letOwnedTupleGo tgt (.ref I) v) Q E s := by
  obtain ⟨o, T, ps, h1, h2, h3, h4⟩ := r.obj
  unfold letOwnedTupleGo
  split
  · cases v with
    | ref a =>
      refine wpAny_bind (wpAny_load h1 ?_)
      rw [h2, h3]
      show wpAny _ A (if (_ && _) = true then _ else _) Q E s
      rw [h4, Bool.false_and, if_neg (by decide)]
      exact wpAny_pure h
    | _ => exact wpAny_pure h
  · cases v with
    | ref a =>
      refine wpAny_bind (wpAny_load h1 ?_)
      rw [h2, h3]
      show wpAny _ A (if (_ && _) = true then _ else _) Q E s
      rw [h4, Bool.false_and, if_neg (by decide)]
      exact wpAny_pure h
    | _ => exact wpAny_pure h
  · exact wpAny_pure h
end
end
section
section
variable {u : U} {A : Around} {s : Shared} {env : Env} {R : Result → Shared → Prop} {tgt test : Expr} {body : List Stmt} {it : Value}
/-- one turn of a loop over an iterator -/
theorem code_for (turn : wpAny u.M A (pyNext it) (fun r s₁ => match r with
      | none => R (.ok .next) s₁
      | some v => wpAny u.M A (letOwnedTupleGo tgt it v) (fun _ s₁' => wpAny u.M A (assign tgt env v) (fun _ s₂ => wpAny u.M A (execs body env) (fun f s₃ => match f with
          | .next | .cont => codeAny u.M A (.forLoop tgt it body [] env) R s₃
          | .brk => R (.ok .next) s₃
          | .ret v => R (.ok (.ret v)) s₃) NoE s₂) NoE s₁') NoE s₁) NoE s) : codeAny u.M A (.forLoop tgt it body [] env) R s := by
  refine codeAny_of_tree ?_
  show wpAny _ A ((forTurn tgt it body [] env).onRaise (fun x => do noteFrame x env; theTreesLotGoes x)) _ _ s
  refine wpAny_noted ?_
  simp only [forTurn]
  refine wpAny_bind (wpAny_standAt (wpAny_bind (wpAny_onRaise (wpAny_mono turn (fun r s₁ h₁ => ?_) fun _ _ h' => h'.elim))))
  cases r with
  | none => exact wpAny_pure ⟨rfl, codeAny_block (wpAny_execs_nil h₁)⟩
  | some v =>
    refine wpAny_bind (wpAny_mono h₁ (fun _ s₁' h₁' => ?_) fun _ _ h' => h'.elim)
    refine wpAny_bind (wpAny_mono h₁' (fun _ s₂ h₂ => wpAny_bind (wpAny_mono h₂ (fun f s₃ h₃ => ?_) fun _ _ h' => h'.elim)) fun _ _ h' => h'.elim)
    cases f with
    | next => exact wpAny_pure ⟨rfl, h₃⟩
    | cont => exact wpAny_pure ⟨rfl, h₃⟩
    | brk => exact wpAny_pure h₃
    | ret v => exact wpAny_pure h₃
theorem code_while (turn : wpAny u.M A (isTrue test env (eval test env)) (fun b s₂ =>
        if b then wpAny u.M A (execs body env) (fun f s₃ => match f with
            | .next | .cont => codeAny u.M A (.whileLoop test body [] env) R s₃
            | .brk => R (.ok .next) s₃
            | .ret v => R (.ok (.ret v)) s₃) NoE s₂
        else R (.ok .next) s₂) NoE s) : codeAny u.M A (.whileLoop test body [] env) R s := by
  refine codeAny_of_tree ?_
  show wpAny _ A ((whileTurn test body [] env).onRaise (fun x => do noteFrame x env; theTreesLotGoes x)) _ _ s
  refine wpAny_noted ?_
  simp only [whileTurn]
  refine wpAny_bind (wpAny_mono turn (fun b s₂ h₂ => ?_) fun _ _ h' => h'.elim)
  cases b with
  | false =>
    simp only [Bool.false_eq_true, if_false] at h₂ ⊢
    exact wpAny_bind (wpAny_execs_nil (wpAny_pure h₂))
  | true =>
    simp only [if_true] at h₂ ⊢
    refine wpAny_bind (wpAny_mono h₂ (fun f s₃ h₃ => ?_) fun _ _ h' => h'.elim)
    cases f with
    | next => exact wpAny_pure ⟨rfl, h₃⟩
    | cont => exact wpAny_pure ⟨rfl, h₃⟩
    | brk => exact wpAny_pure h₃
    | ret v => exact wpAny_pure h₃
end
/-- e, asked for its items, gives ds -/
noncomputable def IterT (u : U) (k : Nat) (sc : Scope) (σ : St) (e : Expr) (ds : List PyData) : Prop :=
  ∀ (env : Env) (N : Addr → Prop) (A : Around) (s : Shared) (Q : Value → Shared → Prop), Here u k sc σ env N A s.heap →
    (∀ I h' tk, Keeps u Nil s.heap h' → NewK s.heap I → u.lim ≤ I → ItRep N h' I ds → Q (.ref I) { s with heap := h', toks := tk }) →
    wpAny u.M A (eval e env) (fun x s₁ => wpAny u.M A (pyIter x) Q NoE s₁) NoE s
section
variable {u : U} {k : Nat} {sc : Scope} {σ σ' σ1 σ2 : St} {pos p p' : Pos} {l r e : Expr}
theorem IterT.list {xs : List PyData} (t : EvT u k sc σ e (Ls xs)) : IterT u k sc σ e xs := fun env N A s Q H h => t.use H fun v h1 t1 k1 H1 r1 => by
  obtain ⟨a, vs, n, rfl, ha, na, r⟩ := RepP.list_inv r1
  refine wpAny_pyIter_list (s := { s with heap := h1, toks := t1 }) (items := vs) ⟨_, ha, rfl, n, rfl⟩ ?_
  have k2 : Keeps u Nil h1 (h1.push { cls := .type "list_iterator", data := .fields #[.ref a, .int 0 0] }) := .push _ _
  refine h h1.objs.size _ t1 (k1.trans k2) (goneK k1 (NewK.none (none_size h1))) H1.wd.size (.inl ⟨a, vs, n, 0, ⟨_, Heap.get?_push_size _ rfl, rfl, rfl⟩, Heap.get?_push_of_some _ ha, na, ?_⟩)
  simpa using r.step k2 fun _ => nonil
theorem IterT.str {x : Str} (t : EvT u k sc σ e (S x)) : IterT u k sc σ e (chars x.cps.toList) := fun env N A s Q H h => t.use H fun v h1 t1 k1 H1 r1 => by
  obtain ⟨t', rfl⟩ := RepP.str_inv r1
  refine wpAny_pyIter_strU (s := { s with heap := h1, toks := t1 }) ?_
  exact h h1.objs.size _ t1 (k1.trans (.push _ _)) (goneK k1 (NewK.none (none_size h1))) H1.wd.size (.inr (.inr (.inl ⟨x, t', 0, ⟨_, Heap.get?_push_size _ rfl, rfl, rfl⟩, by simp⟩)))
theorem rangeSize_one {a b : Int} : (Builtin.Range.rangeSize a b 1).toNat = (b - a).toNat := by
  unfold Builtin.Range.rangeSize
  rw [if_pos (by decide)]
  split
  · rw [Int.ediv_one]; omega
  · omega
theorem small_one {a b : Int} (ha : -(2 ^ 40) < a) (ha' : a < 2 ^ 40) (hb : -(2 ^ 40) < b) (hb' : b < 2 ^ 40) : Builtin.Range.small a b 1 = true := by
  unfold Builtin.Range.small Builtin.Range.rangeFitsLong Builtin.Range.rangeSize
  simp only [show ((1 : Int) > 0) from by decide, if_true, Int.ediv_one, Bool.and_eq_true, Bool.or_eq_true, decide_eq_true_eq, beq_iff_eq]
  split <;> omega
theorem range_iter {a b : Int} {t w v : Tok} {N : Addr → Prop} {A : Around} {s : Shared} {Q : Value → Shared → Prop} (wd : Wd u s.heap) (ha : -(2 ^ 40) < a) (ha' : a < 2 ^ 40) (hb : -(2 ^ 40) < b) (hb' : b < 2 ^ 40)
    (h : ∀ I h' tk, Keeps u Nil s.heap h' → NewK s.heap I → u.lim ≤ I → ItRep N h' I (rng a 1 (b - a).toNat) → Q (.ref I) { s with heap := h', toks := tk }) (tk : Nat) :
    wpAny u.M A (pyIter (.ref s.heap.objs.size)) Q NoE { s with heap := s.heap.push { cls := .type "range", data := .fields #[.int a t, .int b w, .int 1 v] }, toks := tk } := by
  refine wpAny_pyIter_range (IsRange.new _ _ _ _ _ _ _) (small_one ha ha' hb hb') ?_
  have k1 : Keeps u Nil s.heap (s.heap.push { cls := .type "range", data := .fields #[.int a t, .int b w, .int 1 v] }) := .push _ _
  refine h _ _ tk (k1.trans (.push _ _)) (goneK k1 (NewK.none (none_size _))) (k1.wd wd).size (.inr (.inl ⟨a, _, 1, Heap.get?_push_size _ rfl, by rw [rangeSize_one]⟩))
theorem IterT.range1 {n : Int} (bl : Bl u sc "range" (.type "range")) (t : EvT u k sc σ e (I n)) (h1 : -(2 ^ 40) < n) (h2 : n < 2 ^ 40) (hp : plainE e = true := by rfl) :
    IterT u k sc σ (.Call (.Name "range" p) [e] [] pos) (rng 0 1 n.toNat) := fun env N A s Q H h => by
  refine Call_ (bltN H bl.x bl.m bl.b (PySem.callWith_type (noStar (by simp [hp])) (evalArgs_use (EvTs.cons t .nil) (by simp [hp]) H fun vs h1' t1 k1 H1 r1 => ?_)))
  obtain ⟨v, rfl, r2⟩ := RepVs.inv1 r1
  obtain ⟨t', rfl⟩ := RepP.int_inv r2
  refine call_range_1 (s := { s with heap := h1', toks := t1 }) (range_iter (N := N) (s := { s with heap := h1', toks := t1 }) H1.wd (by decide) (by decide) h1 h2 (fun I h' tk k2 n2 z2 i2 => ?_) _)
  rw [Int.sub_zero] at i2
  exact h I h' tk (k1.trans k2) (goneK k1 n2) z2 i2
theorem IterT.reversed {xs : List PyData} (bl : Bl u sc "reversed" (.type "reversed")) (t : EvT u k sc σ e (Ls xs)) (hp : plainE e = true := by rfl) :
    IterT u k sc σ (.Call (.Name "reversed" p) [e] [] pos) xs.reverse := fun env N A s Q H h => by
  refine Call_ (bltN H bl.x bl.m bl.b (PySem.callWith_type (noStar (by simp [hp])) (evalArgs_use (EvTs.cons t .nil) (by simp [hp]) H fun vs h1' t1 k1 H1 r1 => ?_)))
  obtain ⟨v, rfl, r2⟩ := RepVs.inv1 r1
  obtain ⟨a, vs, n, rfl, ha, na, r⟩ := RepP.list_inv r2
  have hl : h1'.IsList a vs := ⟨_, ha, rfl, n, rfl⟩
  refine call_reversed_list (s := { s with heap := h1', toks := t1 }) hl ?_
  have k2 : Keeps u Nil h1' (h1'.push (revObj a ((vs.size : Int) - 1))) := .push _ _
  have hr : (h1'.push (revObj a ((vs.size : Int) - 1))).IsRevIter h1'.objs.size a ((vs.size : Int) - 1) := ⟨_, Heap.get?_push_size _ rfl, rfl, rfl⟩
  refine wpAny_pyIter_revIter (s := { s with heap := h1'.push (revObj a ((vs.size : Int) - 1)), toks := t1 }) hr ?_
  refine h _ _ t1 (k1.trans k2) (goneK k1 (NewK.none (none_size _))) H1.wd.size (.inr (.inr (.inr ⟨a, vs, n, vs.size, hr, Heap.get?_push_of_some _ ha, na, Nat.le_refl _, ?_⟩)))
  rw [List.take_of_length_le (by simp)]
  exact r.reverse.step k2 fun _ => nonil
/-- the rest of a loop over an iterator that still gives ds -/
noncomputable def LoopT (u : U) (k : Nat) (sc : Scope) (tgt : Expr) (body : List Stmt) (σ : St) (ds : List PyData) (fl : Fl) (σ' : St) : Prop :=
  ∀ (env : Env) (N : Addr → Prop) (ad : Str → Addr) (A : Around) (s : Shared) (I : Addr) (R : Result → Shared → Prop), EnvIs sc env → Ok A k → Wd u s.heap → MatchS u N ad env s.heap σ → ItRep (Full N ad σ env) s.heap I ds → u.lim ≤ I →
    (∀ f h' tk ad', FlRep u N h' f fl → Keeps u (fun a => Mut ad σ env a ∨ a = I) s.heap h' → (fl.goes = true → Post u N ad σ env s.heap ad' σ' h') → R (.ok f) { s with heap := h', toks := tk }) →
    codeAny u.M A (.forLoop tgt (.ref I) body [] env) R s
section
variable {tgt : Expr} {body : List Stmt} {ds : List PyData} {d : PyData} {fl : Fl} {N : Addr → Prop} {ad : Str → Addr} {env : Env} {h h' : Heap} {I : Addr}
/-- an iterator moves on -/
theorem MatchS.iter (M : MatchS u N ad env h σ) (k : Keeps u (fun a => a = I) h h') (n : New h I) : MatchS u N ad env h' σ := by
  have nF : ∀ a, FA env a → ¬ (a = I) := fun a q e => by obtain ⟨o, h1, t, _⟩ := M.fr.aliveFA q; exact n o (e ▸ h1) t
  have sI : ∀ a, a = I → Full N ad σ env a ∨ New h a := fun a e => .inr (e ▸ n)
  refine ⟨M.live.step k, M.fr.step k nF, M.frN, fun x d hx => ?_, fun x d hx => ?_, M.inj⟩
  · obtain ⟨v, hv, r⟩ := M.val x d hx
    exact ⟨v, hv.step M.fr k nF, r.stepN k sI⟩
  · obtain ⟨vs, m, xs, e0, e1, e2, e3, e4⟩ := M.own x d hx
    exact ⟨vs, m, xs, e0, e1.step M.fr k nF, k.old _ _ e2 kp_list fun q => n _ (q ▸ e2) tr_list, e3.stepN k sI, e4⟩
theorem mut_notI (M : MatchS u N ad env h σ) (n : New h I) : ¬ Mut ad σ env I := by
  rintro (q | ⟨x, d, hx, q⟩)
  · obtain ⟨o, h1, t, _⟩ := M.fr.aliveFA q.fa; exact n o h1 t
  · obtain ⟨vs, m, xs, _, _, e2, _⟩ := M.own x d hx
    exact n _ (q ▸ e2) tr_list
/-- what the names hold after a part of a run, seen from its start -/
theorem Post.full {h1 : Heap} {ad1 : Str → Addr} (P : Post u N ad σ env h ad1 σ1 h1) : ∀ a, Full N ad1 σ1 env a → Full N ad σ env a ∨ New h a := by
  rintro a (q | q | ⟨y, d, hy, rfl⟩)
  · exact .inl (.inl q)
  · exact .inl (.inr (.inl q))
  · exact (P.own y d hy).imp (fun q => .inr (.inr q)) id
theorem LoopT.nil : LoopT u k sc tgt body σ [] .next σ := fun env N ad A s I R he ok wd M it hI h =>
  code_for (it.done ok.handled hI fun h1 t1 k1 => h .next h1 t1 ad trivial (k1.mono fun _ => .inr) fun _ => ⟨fun y d hy => .inl ⟨y, d, hy, rfl⟩, M.iter k1 it.new⟩)
noncomputable def goOn (C : Shared → Prop) (R : Result → Shared → Prop) : Flow → Shared → Prop
  | .next, s => C s
  | .cont, s => C s
  | .brk, s => R (.ok .next) s
  | .ret v, s => R (.ok (.ret v)) s
/-- the target is bound, then the body runs -/
theorem loop_turn {flb : Fl} {A : Around} {s : Shared} {R : Result → Shared → Prop} (a : AsT u sc σ tgt (.py d) σ1) (b : ExT u k sc σ1 body flb σ2) (he : EnvIs sc env) (ok : Ok A k) (wd : Wd u s.heap) (M : MatchS u N ad env s.heap σ) (it : ItRep (Full N ad σ env) s.heap I (d :: ds)) (hI : u.lim ≤ I)
    (h : ∀ f h' tk ad', FlRep u N h' f flb → Keeps u (fun a => Mut ad σ env a ∨ a = I) s.heap h' → New h' I → (flb.goes = true → Post u N ad σ env s.heap ad' σ2 h' ∧ ItRep (Full N ad' σ2 env) h' I ds) →
      goOn (codeAny u.M A (.forLoop tgt (.ref I) body [] env) R) R f { s with heap := h', toks := tk }) : codeAny u.M A (.forLoop tgt (.ref I) body [] env) R s := by
  refine code_for (it.next hI fun v h1 t1 k1 r1 it1 => it1.go (s := { s with heap := h1, toks := t1 }) ?_)
  have M1 := M.iter k1 it.new
  have w1 := k1.wd wd
  refine a.run env N ad A { s with heap := h1, toks := t1 } v _ he ok.handled M1 r1 fun h2 t2 k2 M2 => ?_
  have it2 : ItRep (Full N ad σ env) h2 I ds := it1.step k2 (fun a q => .inl (.inr (.inl q))) fun q => mut_notI M1 it1.new (.inl q)
  refine b env N ad A { s with heap := h2, toks := t2 } _ he ok (k2.wd w1) M2 fun f h3 t3 ad3 fr k3 P3 => ?_
  have nI : ¬ Mut ad σ1 env I := mut_notI M2 it2.new
  have it2' : ItRep (Full N ad σ1 env) h2 I ds := it2.fresh fun b q => .inl (a.own.full q)
  have it3 := it2'.step k3 (fun a q => .inl (.inr q)) nI
  have K : Keeps u (fun a => Mut ad σ env a ∨ a = I) s.heap h3 :=
    ((k1.mono fun _ => .inr).trans (k2.mono fun a q => .inl (.inl q))).trans (k3.mono fun _ q => .inl (a.own.mut q))
  have q := h f h3 t3 ad3 fr K it3.new fun g => by
    have P := P3 g
    refine ⟨⟨fun y e hy => ?_, P.ms⟩, ?_⟩
    · rcases P.own y e hy with q | q
      · exact .inl (a.own.own q)
      · exact .inr (gone ((k1.mono (Y := fun a => Mut ad σ env a ∨ a = I) fun _ => .inr).trans (k2.mono (Y := fun a => Mut ad σ env a ∨ a = I) fun a q => .inl (.inl q))) q)
    · have i4 : ItRep (fun b => Full N ad3 σ2 env b ∨ Full N ad σ1 env b) h2 I ds := it2'.fresh fun b q => q.elim (fun q => P.full b q) .inl
      exact (i4.step k3 (fun b q => .inl (.inr (.inr q))) nI).fresh fun b q => .inl (.inl q)
  cases f <;> exact q
/-- the body runs to its end; the loop goes on -/
theorem LoopT.next {flb : Fl} (a : AsT u sc σ tgt (.py d) σ1) (b : ExT u k sc σ1 body flb σ2) (hf : flb = .next ∨ flb = .cont) (c : LoopT u k sc tgt body σ2 ds fl σ') : LoopT u k sc tgt body σ (d :: ds) fl σ' :=
  fun env N ad A s I R he ok wd M it hI h => by
    refine loop_turn a b he ok wd M it hI fun f h1 t1 ad1 fr k1 n1 P1 => ?_
    obtain ⟨P, i1⟩ := P1 (by rcases hf with rfl | rfl <;> rfl)
    have key : codeAny u.M A (.forLoop tgt (.ref I) body [] env) R { s with heap := h1, toks := t1 } := by
      refine c env N ad1 A { s with heap := h1, toks := t1 } I R he ok (k1.wd wd) P.ms i1 hI fun f h2 t2 ad2 fr k2 P2 => ?_
      refine h f h2 t2 ad2 fr (k1.then k2 fun b o _ e e' q => ?_) fun g => ?_
      · rcases q with q | q
        · refine .inl (Post.mut P b o e e' q)
        · exact .inr q
      · have P2 := P2 g
        refine ⟨fun y e hy => ?_, P2.ms⟩
        rcases P2.own y e hy with ⟨z, e, hz, q⟩ | q
        · rw [← q]; exact P.own z e hz
        · exact .inr (gone k1 q)
    rcases hf with rfl | rfl
    · cases f with
      | next => exact key
      | _ => exact fr.elim
    · cases f with
      | cont => exact key
      | _ => exact fr.elim
theorem LoopT.brk (a : AsT u sc σ tgt (.py d) σ1) (b : ExT u k sc σ1 body .brk σ2) : LoopT u k sc tgt body σ (d :: ds) .next σ2 :=
  fun env N ad A s I R he ok wd M it hI h => by
    refine loop_turn a b he ok wd M it hI fun f h1 t1 ad1 fr k1 n1 P1 => ?_
    cases f with
    | brk => exact h .next h1 t1 ad1 trivial k1 fun _ => (P1 rfl).1
    | _ => exact fr.elim
theorem LoopT.post (t : LoopT u k sc tgt body σ ds fl σ1) (sb : Sub σ2 σ1) : LoopT u k sc tgt body σ ds fl σ2 := fun env N ad A s I R he ok wd M it hI h =>
  t env N ad A s I R he ok wd M it hI fun f h1 t1 ad1 fr k1 P => h f h1 t1 ad1 fr k1 fun g => ⟨fun y d hy => (P g).own y d (sb _ _ hy), (P g).ms.sub sb⟩
theorem LoopT.pre (t : LoopT u k sc tgt body σ1 ds fl σ') (sb : Sub σ1 σ) : LoopT u k sc tgt body σ ds fl σ' := fun env N ad A s I R he ok wd M it hI h =>
  t env N ad A s I R he ok wd (M.sub sb) (it.fresh fun a q => .inl (q.imp id fun q => q.imp id fun q => q.sub sb)) hI fun f h1 t1 ad1 fr k1 P =>
    h f h1 t1 ad1 fr (k1.mono fun a q => q.imp (fun q => q.imp id fun q => q.sub sb) id) fun g => ⟨fun y d hy => ((P g).own y d hy).imp (fun q => q.sub sb) id, (P g).ms⟩
/-- what a loop goes over -/
noncomputable def IterX (u : U) (k : Nat) (sc : Scope) (σ : St) (e : Expr) (ds : List PyData) : Prop :=
  ∀ (env : Env) (N : Addr → Prop) (ad : Str → Addr) (A : Around) (s : Shared) (Q : Value → Shared → Prop), EnvIs sc env → Ok A k → Wd u s.heap → MatchS u N ad env s.heap σ →
    (∀ I h' tk, Keeps u Nil s.heap h' → NewK s.heap I → u.lim ≤ I → ItRep (Full N ad σ env) h' I ds → Q (.ref I) { s with heap := h', toks := tk }) →
    wpAny u.M A (eval e env) (fun x s₁ => wpAny u.M A (pyIter x) Q NoE s₁) NoE s
theorem IterT.x (t : IterT u k sc σ e ds) : IterX u k sc σ e ds := fun env N ad A s Q he ok wd M h => t env _ A s Q (M.here he ok wd) h
theorem IterX.range1 {n : Int} (bl : Bl u sc "range" (.type "range")) (t : EvX u k sc σ e (Mine.I n)) (h1 : -(2 ^ 40) < n) (h2 : n < 2 ^ 40) (hp : plainE e = true := by rfl) :
    IterX u k sc σ (.Call (.Name "range" p) [e] [] pos) (rng 0 1 n.toNat) := fun env N ad A s Q he ok wd M h => by
  refine Call_ (bltN (M.hereP he ok wd) bl.x bl.m bl.b (PySem.callWith_type (noStar (by simp [hp])) (EvXs.args (t.imp (fun t => EvTs.cons t .nil) fun t => ⟨by simpa using t.1, EvTs.cons t.2 .nil⟩) (by simp [hp]) he ok wd M fun vs h1' t1 k1 w1 M1 r1 => ?_)))
  obtain ⟨v, rfl, r2⟩ := RepVs.inv1 r1
  obtain ⟨t', rfl⟩ := RepP.int_inv r2
  refine call_range_1 (s := { s with heap := h1', toks := t1 }) (range_iter (N := Full N ad σ env) (s := { s with heap := h1', toks := t1 }) w1 (by decide) (by decide) h1 h2 (fun I h' tk k2 n2 z2 i2 => ?_) _)
  rw [Int.sub_zero] at i2
  exact h I h' tk (k1.trans k2) (goneK k1 n2) z2 i2
theorem IterX.range2 {a b : Int} (bl : Bl u sc "range" (.type "range")) (hx : EvXs u k sc σ [l, r] [Mine.I a, Mine.I b]) (h1 : -(2 ^ 40) < a) (h2 : a < 2 ^ 40) (h3 : -(2 ^ 40) < b) (h4 : b < 2 ^ 40) (hp : [l, r].all plainE = true := by rfl) :
    IterX u k sc σ (.Call (.Name "range" p) [l, r] [] pos) (rng a 1 (b - a).toNat) := fun env N ad A s Q he ok wd M h => by
  refine Call_ (bltN (M.hereP he ok wd) bl.x bl.m bl.b (PySem.callWith_type (noStar hp) (EvXs.args hx hp he ok wd M fun vs h1' t1 k1 w1 M1 r1 => ?_)))
  obtain ⟨v, v', rfl, r2, r3⟩ := RepVs.inv2 r1
  obtain ⟨t1', rfl⟩ := RepP.int_inv r2
  obtain ⟨t2', rfl⟩ := RepP.int_inv r3
  exact call_range_2 (s := { s with heap := h1', toks := t1 }) (range_iter (s := { s with heap := h1', toks := t1 }) w1 h1 h2 h3 h4 (fun I h' tk k2 n2 z2 i2 => h I h' tk (k1.trans k2) (goneK k1 n2) z2 i2) _)
theorem StT.for_ (t : IterX u k sc σ e ds) (b : LoopT u k sc tgt body σ ds fl σ') (hs : ∀ env x, EnvIs sc env → foldedSetIterable e env x = pure x := by intros; rfl) : StT u k sc σ (.For tgt e body [] pos) fl σ' :=
  fun env N ad A s Q he ok wd M h => by
    refine wpAny_For (t env N ad A s _ he ok wd M fun I h1 t1 k1 n1 z1 i1 => ?_) fun x => hs env x he
    refine b env N ad A { s with heap := h1, toks := t1 } I _ he ok (k1.wd wd) (M.step k1) i1 z1 fun f h2 t2 ad2 fr k2 P2 => ?_
    exact h f h2 t2 ad2 fr (Keeps.then (X := Mut ad σ env) (k1.mono fun _ => nonil) k2 fun a o kp e e' q => q.elim id fun q => (n1 o (q ▸ e) kp).elim) fun g => ⟨fun y d hy => ((P2 g).own y d hy).imp id fun q => gone k1 q, (P2 g).ms⟩
/-! while -/
noncomputable def WhT (u : U) (k : Nat) (sc : Scope) (test : Expr) (body : List Stmt) (σ : St) (fl : Fl) (σ' : St) : Prop :=
  ∀ (env : Env) (N : Addr → Prop) (ad : Str → Addr) (A : Around) (s : Shared) (R : Result → Shared → Prop), EnvIs sc env → Ok A k → Wd u s.heap → MatchS u N ad env s.heap σ →
    (∀ f h' tk ad', FlRep u N h' f fl → Keeps u (Mut ad σ env) s.heap h' → (fl.goes = true → Post u N ad σ env s.heap ad' σ' h') → R (.ok f) { s with heap := h', toks := tk }) →
    codeAny u.M A (.whileLoop test body [] env) R s
theorem WhT.stop {test : Expr} (t : TsT u k sc (allplain σ) test false) : WhT u k sc test body σ .next σ := fun env N ad A s R he ok wd M h =>
  code_while (t.use (M.hereP he ok wd) fun h1 t1 k1 H1 => by
    show R (.ok .next) _
    exact h .next h1 t1 ad trivial (k1.mono fun _ => nonil) fun _ => ⟨fun y d hy => .inl ⟨y, d, hy, rfl⟩, M.step k1⟩)
theorem WhT.turn {test : Expr} {flb : Fl} (t : TsT u k sc (allplain σ) test true) (b : ExT u k sc σ body flb σ1) (hf : flb = .next ∨ flb = .cont) (c : WhT u k sc test body σ1 fl σ2) : WhT u k sc test body σ fl σ2 := fun env N ad A s R he ok wd M h =>
  code_while (t.use (M.hereP he ok wd) fun h1 t1 k1 H1 => by
    show wpAny u.M A (execs body env) _ NoE _
    refine b env N ad A { s with heap := h1, toks := t1 } _ he ok H1.wd (M.step k1) fun f h2 t2 ad2 fr k2 P2 => ?_
    have P := P2 (by rcases hf with rfl | rfl <;> rfl)
    have key : codeAny u.M A (.whileLoop test body [] env) R { s with heap := h2, toks := t2 } := by
      refine c env N ad2 A { s with heap := h2, toks := t2 } R he ok (k2.wd H1.wd) P.ms fun f h3 t3 ad3 fr3 k3 P3 => ?_
      have P' : Post u N ad σ env s.heap ad2 σ1 h2 := ⟨fun y d hy => (P.own y d hy).imp id fun q => gone k1 q, P.ms⟩
      have K : Keeps u (Mut ad σ env) s.heap h2 := (k1.mono fun _ => nonil).trans k2
      exact h f h3 t3 ad3 fr3 (P'.keeps K k3) fun g => P'.trans K (P3 g)
    rcases hf with rfl | rfl
    · cases f with
      | next => exact key
      | _ => exact fr.elim
    · cases f with
      | cont => exact key
      | _ => exact fr.elim)
theorem WhT.pre {test : Expr} (t : WhT u k sc test body σ1 fl σ') (sb : Sub σ1 σ) : WhT u k sc test body σ fl σ' := fun env N ad A s R he ok wd M h =>
  t env N ad A s R he ok wd (M.sub sb) fun f h1 t1 ad1 fr k1 P => h f h1 t1 ad1 fr (k1.mono fun a q => q.imp id fun q => q.sub sb) fun g => ⟨fun y d hy => ((P g).own y d hy).imp (fun q => q.sub sb) id, (P g).ms⟩
theorem StT.while_ {test : Expr} (b : WhT u k sc test body σ fl σ') : StT u k sc σ (.While test body [] pos) fl σ' := fun env N ad A s Q he ok wd M h =>
  wpAny_While (b env N ad A s _ he ok wd M fun f h1 t1 ad1 fr k1 P1 => h f h1 t1 ad1 fr k1 P1)
end
end
end
section
/-! a frame of its own -/
noncomputable def Binds (u : U) (N : Addr → Prop) (h : Heap) : List (Str × Value) → List (Str × Vd) → Prop
  | [], [] => True
  | (x, v) :: r, (y, d) :: t => x = y ∧ Rep u N h v d ∧ Binds u N h r t
  | _, _ => False
noncomputable def start (ps : List (Str × Vd)) : St := ps.map fun p => (p.1, (p.2, false))
theorem bindL_at (kindOf : Str → Option NameKind) {x : Str} {v : Value} (hk : kindOf x = some .local) : ∀ (bs : List (Str × Value)) (m : Str → Option Value), (bs.map (·.1)).Nodup → (x, v) ∈ bs → bindL kindOf bs m x = some v := by
  have keep : ∀ (bs : List (Str × Value)) (m : Str → Option Value), x ∉ bs.map (·.1) → bindL kindOf bs m x = m x := by
    intro bs
    induction bs with
    | nil => intros; rfl
    | cons b r ih =>
      intro m hx
      obtain ⟨y, w⟩ := b
      simp only [List.map_cons, List.mem_cons, not_or] at hx
      unfold bindL
      rw [ih _ hx.2]
      split
      · simp [hx.1]
      · rfl
  intro bs
  induction bs with
  | nil => intro m _ h; cases h
  | cons b r ih =>
    intro m nd hm
    obtain ⟨y, w⟩ := b
    simp only [List.map_cons, List.nodup_cons] at nd
    unfold bindL
    rcases List.mem_cons.mp hm with e | e
    · cases e
      rw [keep r _ nd.1, if_pos hk]; simp
    · exact ih _ nd.2 e
theorem bindC_at (kindOf : Str → Option NameKind) {x : Str} {v : Value} (hk : kindOf x ≠ some .local) : ∀ (bs : List (Str × Value)) (m : Str → Option Value), (bs.map (·.1)).Nodup → (x, v) ∈ bs → bindC kindOf bs m x = some v := by
  have keep : ∀ (bs : List (Str × Value)) (m : Str → Option Value), x ∉ bs.map (·.1) → bindC kindOf bs m x = m x := by
    intro bs
    induction bs with
    | nil => intros; rfl
    | cons b r ih =>
      intro m hx
      obtain ⟨y, w⟩ := b
      simp only [List.map_cons, List.mem_cons, not_or] at hx
      unfold bindC
      rw [ih _ hx.2]
      split
      · rfl
      · simp [hx.1]
  intro bs
  induction bs with
  | nil => intro m _ h; cases h
  | cons b r ih =>
    intro m nd hm
    obtain ⟨y, w⟩ := b
    simp only [List.map_cons, List.nodup_cons] at nd
    unfold bindC
    rcases List.mem_cons.mp hm with e | e
    · cases e
      rw [keep r _ nd.1, if_neg hk]; simp
    · exact ih _ nd.2 e
theorem cells_some {x : Str} : ∀ (names : List (Str × NameKind)) (n : Nat) (acc : List (Str × Addr)), (acc.lookup x).isSome = true ∨ names.lookup x = some .cell → ((cellsFrom n names acc).lookup x).isSome = true
  | [], n, acc, h => by
    rcases h with h | h
    · exact h
    · cases h
  | (y, kd) :: r, n, acc, h => by
    unfold cellsFrom
    by_cases hc : (kd == NameKind.cell) = true
    · rw [if_pos hc]
      refine cells_some r _ _ ?_
      rw [List.lookup_cons] at h
      by_cases q : x = y
      · left; rw [q]; simp
      · rw [beq_eq_false_iff_ne.mpr q] at h
        refine h.imp (fun h => ?_) id
        rw [List.lookup_cons, beq_eq_false_iff_ne.mpr q]; exact h
    · rw [if_neg hc]
      refine cells_some r _ _ ?_
      rw [List.lookup_cons] at h
      by_cases q : x = y
      · rw [beq_iff_eq.mpr q] at h
        refine h.imp id fun h => ?_
        cases h
        exact absurd rfl hc
      · rw [beq_eq_false_iff_ne.mpr q] at h; exact h
section
variable {u : U} {N : Addr → Prop} {h h' : Heap}
theorem Binds.names : ∀ {bs : List (Str × Value)} {ps : List (Str × Vd)}, Binds u N h bs ps → bs.map (·.1) = ps.map (·.1)
  | [], [], _ => rfl
  | (x, v) :: r, (y, d) :: t, b => by simp [b.1, Binds.names b.2.2]
  | [], _ :: _, b => b.elim
  | _ :: _, [], b => b.elim
theorem Binds.at : ∀ {bs : List (Str × Value)} {ps : List (Str × Vd)} {x : Str} {d : Vd} {b : Bool}, Binds u N h bs ps → look (start ps) x = some (d, b) → b = false ∧ ∃ v, (x, v) ∈ bs ∧ Rep u N h v d
  | [], [], x, d, b, _, e => by cases e
  | (y, v) :: r, (z, d') :: t, x, d, b, bb, e => by
    obtain ⟨rfl, r1, r2⟩ := bb
    have e' : look ((y, (d', false)) :: start t) x = some (d, b) := e
    rw [look_cons] at e'
    split at e'
    · rename_i q; subst q; cases e'
      exact ⟨rfl, v, .head _, r1⟩
    · obtain ⟨q, w, hw, rw⟩ := Binds.at r2 e'
      exact ⟨q, w, .tail _ hw, rw⟩
  | [], _ :: _, _, _, _, b, _ => b.elim
  | _ :: _, [], _, _, _, b, _ => b.elim
end
/-- a made frame, seen as a state -/
theorem frame_match {u : U} {N : Addr → Prop} {sc : Scope} {env : Env} {s s₁ : Shared} {bs : List (Str × Value)} {ps : List (Str × Vd)} (he : EnvIs sc env) (wd : Wd u s.heap) (lv : Live N s.heap)
    (x : InCallC s env.locals (bindL env.kindOf bs fun _ => none) env.cells (bindC env.kindOf bs fun _ => none) s₁) (B : Binds u N s.heap bs ps) (nd : (ps.map (·.1)).Nodup) (st : ∀ p ∈ ps, canStore sc p.1 = true) :
    MatchS u N (fun _ => 0) env s₁.heap (start ps) ∧ ∀ a, FA env a → s.heap.objs.size ≤ a := by
  have kp := x.toInCall.keep
  have K : Keeps u Nil s.heap s₁.heap := .ext kp
  have hF : ∀ a, FA env a → s.heap.objs.size ≤ a := by
    rintro a (rfl | ⟨y, hy⟩)
    · exact x.toInCall.fresh
    · exact Nat.le_of_lt (Nat.lt_of_le_of_lt x.toInCall.fresh (x.above y a (mem_of_lookup hy)))
  have noOwn : ∀ y d, look (start ps) y = some (d, true) → False := fun y d hy => by cases (B.at hy).1
  have fs : ∀ a, Full N (fun _ => 0) (start ps) env a → N a ∨ New s.heap a := by
    rintro a (q | q | ⟨y, d, hy, _⟩)
    · exact .inl q
    · exact .inr (.none (Heap.get?_none_of_le (hF a q.fa)))
    · exact (noOwn y d hy).elim
  refine ⟨⟨lv.step K, ⟨⟨_, x.toInCall.ns⟩, fun y c hc => ⟨_, x.cell y c hc⟩, Nat.le_trans wd.size x.toInCall.fresh, fun y c hc => Nat.le_trans wd.size (hF c (.inr ⟨y, hc⟩)), fun y z c hy hz => name_of_addr x.apart (mem_of_lookup hy) (mem_of_lookup hz)⟩,
    fun a q n => ?_, fun y d hy => ?_, fun y d hy => (noOwn y d hy).elim, fun y z d e hy _ => (noOwn y d hy).elim⟩, hF⟩
  · obtain ⟨o, e, _⟩ := lv a n
    exact absurd (Heap.lt_size e) (Nat.not_lt.mpr (hF a q.fa))
  · obtain ⟨_, v, hv, r⟩ := B.at hy
    refine ⟨v, ?_, (r.fresh fs).step K fun _ => nonil⟩
    have hp : ∃ p ∈ ps, p.1 = y := by
      have : y ∈ bs.map (·.1) := List.mem_map.mpr ⟨_, hv, rfl⟩
      rw [B.names] at this
      obtain ⟨p, hp, e⟩ := List.mem_map.mp this
      exact ⟨p, hp, e⟩
    obtain ⟨p, hp, rfl⟩ := hp
    have nd' : (bs.map (·.1)).Nodup := by rw [B.names]; exact nd
    rcases canStore_use (st p hp) he with q | ⟨q, c, hc⟩
    · have hk : env.kindOf p.1 = some .local := by rw [he.kindOf]; exact q
      exact .inl ⟨hk, _, x.toInCall.ns, bindL_at _ hk bs _ nd' hv⟩
    · have hk : env.kindOf p.1 = some .cell := by rw [he.kindOf]; exact q
      refine .inr ⟨.inl hk, c, hc, ?_⟩
      have := x.cell p.1 c hc
      rwa [bindC_at _ (by rw [hk]; decide) bs _ nd' hv] at this
/-- how a run of a body tells a call's value -/
noncomputable def Gives (fl : Fl) (d : Vd) : Prop := fl = .ret d ∨ (fl = .next ∧ d = .py .none)
theorem CaT.of_body {u : U} {k : Nat} {f : Str} {a : Addr} {fd : FuncData} {args kds : List Vd} {names : List Str} {sc : Scope} {bd : List Stmt} {ps : List (Str × Vd)} {fl : Fl} {σ' : St} {d : Vd}
    (F : FnAt u f a fd) (hb : fd.body = .stmts bd) (hs : fd.scope = sc) (hc : fd.closure = []) (hk : sc.kind = .function) (hco : sc.isCoroutine = false) (hgen : sc.isGenerator = false)
    (bind : ∀ N s vs kvs, Wd u s.heap → RepVs u N s.heap vs args → RepVs u N s.heap kvs kds → ∃ bs, BindsTo s fd ⟨vs, names.zip kvs⟩ bs ∧ Binds u N s.heap bs ps)
    (nd : (ps.map (·.1)).Nodup) (st : ∀ p ∈ ps, canStore sc p.1 = true) (body : ExT u k sc (start ps) bd fl σ') (g : Gives fl d) : CaT u (k + 1) f args names kds d := by
  intro N A s R a' vs kvs ok wd lv hm r1 r2 h
  rw [F.mg] at hm; cases hm
  obtain ⟨o, ho, hd⟩ := F.here wd
  obtain ⟨bs, hbs, B⟩ := bind N s vs kvs wd r1 r2
  subst hs
  have hkind : ∀ x ∈ bs, fd.scope.names.lookup x.1 = some .local ∨ (fd.scope.names.lookup x.1 = some .cell ∧ ((cellsFrom (s.heap.objs.size + 1) fd.scope.names []).lookup x.1).isSome = true) := fun x hx => by
    have : x.1 ∈ bs.map (·.1) := List.mem_map.mpr ⟨_, hx, rfl⟩
    rw [B.names] at this
    obtain ⟨p, hp, e⟩ := List.mem_map.mp this
    have c := st p hp
    rw [e] at c
    rcases Bool.or_eq_true_iff.mp c with q | q
    · exact .inl (eq_of_beq q)
    · exact .inr ⟨eq_of_beq q, cells_some _ _ _ (.inr (eq_of_beq q))⟩
  refine codeAny_call_function (by have := ok.depth; omega) ho hd hco hgen hb (F.codeRec wd) (hbs _ _ _ _ ?_)
  rw [hc]
  refine wpAny_newFunctionEnv_cells hk hkind fun env he s' x => ⟨wd.nl.keeps x.toInCall.keep, codeAny_func ?_⟩
  have hE : EnvIs fd.scope env := by
    subst he
    exact ⟨rfl, hk, F.globals, F.builtins, fun y hy => Option.isSome_iff_exists.mp (cells_some _ _ _ (.inr hy))⟩
  obtain ⟨M, hF⟩ := frame_match hE wd lv x B nd st
  obtain ⟨h1, t1, rfl⟩ := x.toInCall.same
  refine wpAny_mono (body env N (fun _ => 0) (A.deeper env) { s with heap := h1, toks := t1 } (fun f s' => R (.ok (.ret (match f with | .ret v => v | _ => .none))) s') hE (ok.deeper env) (wd.ext x.toInCall.keep) M fun f h2 t2 ad2 fr k2 P2 => ?_) (fun _ _ q => q) fun _ _ q => q.elim
  have K : Keeps u Nil s.heap h2 := by
    refine Keeps.then (.ext x.toInCall.keep) k2 fun b o _ e _ q => ?_
    rcases q with q | ⟨y, e', hy, _⟩
    · exact absurd (Heap.lt_size e) (Nat.not_lt.mpr (hF b q.fa))
    · cases (B.at hy).1
  rcases g with rfl | ⟨rfl, rfl⟩
  · cases f with
    | ret v => exact h v h2 t2 K fr
    | _ => exact fr.elim
  · cases f with
    | next => exact h .none h2 t2 K RepP.none
    | _ => exact fr.elim
end
section
/-- f, called with a list (which holds xs) and more, leaves ys in the list and gives None -/
noncomputable def MuT (u : U) (k : Nat) (f : Str) (xs : List PyData) (args : List Vd) (names : List Str) (kds : List Vd) (ys : List PyData) : Prop :=
  ∀ (N : Addr → Prop) (A : Around) (s : Shared) (R : Result → Shared → Prop) (a l : Addr) (ws : Array Value) (n : Nat) (vs kvs : List Value), Ok A k → Wd u s.heap → Live N s.heap → u.mg f = some (.ref a) →
    s.heap.get? l = some (listOf ws n) → u.lim ≤ l → ¬ N l → RepPs (fun b => N b ∨ b = l) s.heap ws.toList xs → RepVs u (fun b => N b ∨ b = l) s.heap vs args → RepVs u (fun b => N b ∨ b = l) s.heap kvs kds →
    (∀ h' tk ws' n', Keeps u (fun b => b = l) s.heap h' → h'.get? l = some (listOf ws' n') → RepPs (fun b => N b ∨ b = l) h' ws'.toList ys → R (.ok (.ret .none)) { s with heap := h', toks := tk }) →
    codeAny u.M A (.call (.ref a) ⟨.ref l :: vs, names.zip kvs⟩) R s
section
variable {u : U} {k : Nat} {sc : Scope} {σ σ' : St} {pos p p' kp : Pos} {e ve : Expr} {f x : Str} {d dv : Vd}
theorem call_mut {env : Env} {N : Addr → Prop} {ad : Str → Addr} {A : Around} {s : Shared} {xs ys : List PyData} {args kds : List Vd} {names : List Str} {vs kvs : List Value} {a : Addr} {Q : Value → Shared → Prop} (c : MuT u k f xs args names kds ys) (hm : u.mg f = some (.ref a)) (ok : Ok A k) (wd : Wd u s.heap) (M : MatchS u N ad env s.heap σ)
    (hx : look σ x = some (Ls xs, true)) (r1 : RepVs u (Full N ad σ env) s.heap vs args) (r2 : RepVs u (Full N ad σ env) s.heap kvs kds)
    (h : ∀ h' tk, Keeps u (Mut ad σ env) s.heap h' → MatchS u N ad env h' ((x, (Ls ys, true)) :: σ) → Q .none { s with heap := h', toks := tk }) : wpAny u.M A (call (.ref a) (.ref (ad x) :: vs) (names.zip kvs)) Q NoE s := by
  obtain ⟨ws, n, xs', e0, e1, e2, e3, e4, e5⟩ := M.own x _ hx
  have e9 := e0.lst
  cases e9
  have fl : Full N ad σ env (ad x) := .inr (.inr ⟨x, _, hx, rfl⟩)
  have f1 : ∀ b, ((Full N ad σ env b ∧ b ≠ ad x) ∨ b = ad x) → Full N ad σ env b := fun b q => q.elim (·.1) fun q => q ▸ fl
  have f2 : ∀ b, Full N ad σ env b → ((Full N ad σ env b ∧ b ≠ ad x) ∨ b = ad x) := fun b q => by
    by_cases z : b = ad x
    · exact .inr z
    · exact .inl ⟨q, z⟩
  refine wpAny_call (c (fun b => Full N ad σ env b ∧ b ≠ ad x) A s _ a (ad x) ws n vs kvs ok wd (fun b q => M.liveF b q.1) hm e2 e4 (fun q => q.2 rfl) (e3.anti f1) (r1.anti f1) (r2.anti f1) fun h' tk ws' n' K ha r => ?_)
  exact h h' tk (K.mono fun b q => .inr ⟨x, _, hx, q.symm⟩) (M.mutateK hx K ha (r.anti f2))
theorem StT.callMut {xs ys : List PyData} {es : List Expr} {ds : List Vd} {a : Addr} {fd : FuncData} (F : FnAt u f a fd) (hx : look σ x = some (Ls xs, true)) (t : EvXs u k sc σ es ds) (c : MuT u k f xs ds [] [] ys) (hg : sc.names.lookup f = some .globalImplicit := by rfl) (hp : es.all plainE = true := by rfl)
    (hd : (f == ("__debug__" : Str)) = false := by decide) (hd' : (x == ("__debug__" : Str)) = false := by decide) (hc' : (x == ("__classdict__" : Str)) = false := by decide) :
    StT u k sc σ (.Expr (.Call (.Name f p) (.Name x p' :: es) [] kp) pos) .next ((x, (Ls ys, true)) :: σ) := fun env N ad A s Q he ok wd M h => by
  obtain ⟨o1, g1, d1, c1⟩ := F.ob
  refine wpAny_Expr (Call_ (globN (M.hereP he ok wd) hg F.mg (Calls.callWith_function (o := o1) (fd := fd) ?_) hd)) (by unfold interactive; rw [he.fn]; rfl) rfl
  obtain ⟨ws, n, q1, q2, q3⟩ := holds_now M hx
  refine evalArgs_plain (wpAny_items_cons (sees_name he q1 ?_ hd' hc') rfl)
  refine t.use hp he ok wd M fun vs h1 t1 k1 w1 M1 r1 => ⟨⟨w1.at g1 c1, d1⟩, ?_⟩
  refine call_mut (s := { s with heap := h1, toks := t1 }) (kvs := []) c F.mg ok w1 M1 hx r1 trivial fun h2 t2 k2 M2 => ?_
  exact h .next h2 t2 ad trivial ((k1.mono fun _ => nonil).trans k2) fun _ => ⟨fun y e hy => .inl (own_swap hx ⟨y, e, hy, rfl⟩), M2⟩
end
/-- a made frame whose first name holds the caller's list -/
theorem frame_matchM {u : U} {N : Addr → Prop} {sc : Scope} {env : Env} {s s₁ : Shared} {bs : List (Str × Value)} {ps : List (Str × Vd)} {p0 : Str} {l : Addr} {ws : Array Value} {n : Nat} {xs : List PyData} (he : EnvIs sc env) (wd : Wd u s.heap) (lv : Live N s.heap)
    (x : InCallC s env.locals (bindL env.kindOf ((p0, .ref l) :: bs) fun _ => none) env.cells (bindC env.kindOf ((p0, .ref l) :: bs) fun _ => none) s₁) (B : Binds u (fun b => N b ∨ b = l) s.heap bs ps) (nd : (p0 :: ps.map (·.1)).Nodup) (st0 : canStore sc p0 = true) (st : ∀ p ∈ ps, canStore sc p.1 = true)
    (hl : s.heap.get? l = some (listOf ws n)) (hsz : u.lim ≤ l) (hN : ¬ N l) (hr : RepPs (fun b => N b ∨ b = l) s.heap ws.toList xs) :
    MatchS u N (fun _ => l) env s₁.heap ((p0, (.lat l xs, true)) :: start ps) ∧ ∀ a, FA env a → s.heap.objs.size ≤ a := by
  have kp := x.toInCall.keep
  have K : Keeps u Nil s.heap s₁.heap := .ext kp
  have hF : ∀ a, FA env a → s.heap.objs.size ≤ a := by
    rintro a (rfl | ⟨y, hy⟩)
    · exact x.toInCall.fresh
    · exact Nat.le_of_lt (Nat.lt_of_le_of_lt x.toInCall.fresh (x.above y a (mem_of_lookup hy)))
  have own0 : ∀ y d, look ((p0, (Vd.lat l xs, true)) :: start ps) y = some (d, true) → y = p0 ∧ d = .lat l xs := fun y d hy => by
    rw [look_cons] at hy
    split at hy
    · rename_i q; cases hy; exact ⟨q, rfl⟩
    · cases (B.at hy).1
  have fs : ∀ a, Full N (fun _ => l) ((p0, (Vd.lat l xs, true)) :: start ps) env a → (N a ∨ a = l) ∨ New s.heap a := by
    rintro a (q | q | ⟨y, d, hy, q⟩)
    · exact .inl (.inl q)
    · exact .inr (.none (Heap.get?_none_of_le (hF a q.fa)))
    · exact .inl (.inr q.symm)
  have nd' : (((p0, Value.ref l) :: bs).map (·.1)).Nodup := by rw [List.map_cons, B.names]; exact nd
  have sees : ∀ y v, (y, v) ∈ (p0, Value.ref l) :: bs → canStore sc y = true → Sees env s₁.heap y v := fun y v hv hc => by
    rcases canStore_use hc he with q | ⟨q, c, hc⟩
    · have hk : env.kindOf y = some .local := by rw [he.kindOf]; exact q
      exact .inl ⟨hk, _, x.toInCall.ns, bindL_at _ hk _ _ nd' hv⟩
    · have hk : env.kindOf y = some .cell := by rw [he.kindOf]; exact q
      refine .inr ⟨.inl hk, c, hc, ?_⟩
      have := x.cell y c hc
      rwa [bindC_at _ (by rw [hk]; decide) _ _ nd' hv] at this
  refine ⟨⟨lv.step K, ⟨⟨_, x.toInCall.ns⟩, fun y c hc => ⟨_, x.cell y c hc⟩, Nat.le_trans wd.size x.toInCall.fresh, fun y c hc => Nat.le_trans wd.size (hF c (.inr ⟨y, hc⟩)), fun y z c hy hz => name_of_addr x.apart (mem_of_lookup hy) (mem_of_lookup hz)⟩,
    fun a q n => ?_, fun y d hy => ?_, fun y d hy => ?_, fun y z d e hy hz _ => (own0 y d hy).1.trans (own0 z e hz).1.symm⟩, hF⟩
  · obtain ⟨o, e, _⟩ := lv a n
    exact absurd (Heap.lt_size e) (Nat.not_lt.mpr (hF a q.fa))
  · rw [look_cons] at hy
    split at hy
    · cases hy
    · obtain ⟨_, v, hv, r⟩ := B.at hy
      have hp : y ∈ ps.map (·.1) := by rw [← B.names]; exact List.mem_map.mpr ⟨_, hv, rfl⟩
      obtain ⟨p, hp', rfl⟩ := List.mem_map.mp hp
      exact ⟨v, sees _ v (.tail _ hv) (st p hp'), (r.fresh fs).step K fun _ => nonil⟩
  · obtain ⟨rfl, rfl⟩ := own0 y d hy
    exact ⟨ws, n, xs, .inr rfl, sees _ _ (.head _) st0, kp _ _ hl, (hr.fresh fs).step K fun _ => nonil, hsz, hN⟩
theorem MuT.of_body {u : U} {k : Nat} {f : Str} {a : Addr} {fd : FuncData} {xs ys : List PyData} {args kds : List Vd} {names : List Str} {sc : Scope} {bd : List Stmt} {p0 : Str} {ps : List (Str × Vd)}
    (F : FnAt u f a fd) (hb : fd.body = .stmts bd) (hs : fd.scope = sc) (hc : fd.closure = []) (hk : sc.kind = .function) (hco : sc.isCoroutine = false) (hgen : sc.isGenerator = false)
    (bind : ∀ N s l vs kvs, Wd u s.heap → RepVs u N s.heap vs args → RepVs u N s.heap kvs kds → ∃ bs, BindsTo s fd ⟨.ref l :: vs, names.zip kvs⟩ ((p0, .ref l) :: bs) ∧ Binds u N s.heap bs ps)
    (nd : (p0 :: ps.map (·.1)).Nodup) (st0 : canStore sc p0 = true) (st : ∀ p ∈ ps, canStore sc p.1 = true) (body : ∀ l, ∃ σ', ExT u k sc ((p0, (.lat l xs, true)) :: start ps) bd .next σ' ∧ look σ' p0 = some (.lat l ys, true)) : MuT u (k + 1) f xs args names kds ys := by
  intro N A s R a' l ws n vs kvs ok wd lv hm hl hsz hN hr r1 r2 h
  rw [F.mg] at hm; cases hm
  obtain ⟨o, ho, hd⟩ := F.here wd
  obtain ⟨bs, hbs, B⟩ := bind _ s l vs kvs wd r1 r2
  obtain ⟨σ', bdy, hσ⟩ := body l
  subst hs
  have hkind : ∀ x ∈ (p0, Value.ref l) :: bs, fd.scope.names.lookup x.1 = some .local ∨ (fd.scope.names.lookup x.1 = some .cell ∧ ((cellsFrom (s.heap.objs.size + 1) fd.scope.names []).lookup x.1).isSome = true) := fun x hx => by
    have c : canStore fd.scope x.1 = true := by
      rcases List.mem_cons.mp hx with rfl | hx
      · exact st0
      · have : x.1 ∈ bs.map (·.1) := List.mem_map.mpr ⟨_, hx, rfl⟩
        rw [B.names] at this
        obtain ⟨p, hp, e⟩ := List.mem_map.mp this
        rw [← e]; exact st p hp
    rcases Bool.or_eq_true_iff.mp c with q | q
    · exact .inl (eq_of_beq q)
    · exact .inr ⟨eq_of_beq q, cells_some _ _ _ (.inr (eq_of_beq q))⟩
  refine codeAny_call_function (by have := ok.depth; omega) ho hd hco hgen hb (F.codeRec wd) (hbs _ _ _ _ ?_)
  rw [hc]
  refine wpAny_newFunctionEnv_cells hk hkind fun env he s' x => ⟨wd.nl.keeps x.toInCall.keep, codeAny_func ?_⟩
  have hE : EnvIs fd.scope env := by
    subst he
    exact ⟨rfl, hk, F.globals, F.builtins, fun y hy => Option.isSome_iff_exists.mp (cells_some _ _ _ (.inr hy))⟩
  obtain ⟨M, hF⟩ := frame_matchM hE wd lv x B nd st0 st hl hsz hN hr
  obtain ⟨h1, t1, rfl⟩ := x.toInCall.same
  refine wpAny_mono (bdy env N (fun _ => l) (A.deeper env) { s with heap := h1, toks := t1 } (fun f s' => R (.ok (.ret (match f with | .ret v => v | _ => .none))) s') hE (ok.deeper env) (wd.ext x.toInCall.keep) M fun f h2 t2 ad2 fr k2 P2 => ?_) (fun _ _ q => q) fun _ _ q => q.elim
  have K : Keeps u (fun b => b = l) s.heap h2 := by
    refine Keeps.then (.ext x.toInCall.keep) k2 fun b o _ e _ q => ?_
    rcases q with q | ⟨y, e', hy, q⟩
    · exact absurd (Heap.lt_size e) (Nat.not_lt.mpr (hF b q.fa))
    · exact q.symm
  cases f with
  | next =>
    obtain ⟨ws', n', ys', e0, e1, e2, e3, e4, e5⟩ := (P2 rfl).ms.own p0 _ hσ
    have hll : l = ad2 p0 ∧ ys = ys' := by
      rcases e0 with e0 | e0
      · cases e0
      · injection e0 with q1 q2; exact ⟨q1, q2⟩
    obtain ⟨q1, rfl⟩ := hll
    refine h h2 t2 ws' n' K (q1 ▸ e2) (e3.anti fun b q => q.elim .inl fun q => .inr (.inr ⟨p0, _, hσ, by rw [q, q1]⟩))
  | _ => exact fr.elim
end
section
structure NestAt (u : U) (q : Nest) : Prop where
  mem : q ∈ u.tabs
  code : CodeHd u.hB q.c q.p
  bl : u.hB.BuiltinsAt u.mg q.p
  tab : u.hB.get? q.p = some (tabObj #[])
  g : mainGlobals ≠ q.p
  st : q.p ≠ cStatics
  apart : ∀ r ∈ u.tabs, r.p = q.p → r = q
theorem NestAt.hd {u : U} {q : Nest} (n : NestAt u q) {h : Heap} (w : Wd u h) : CodeHd h q.c q.p := by
  obtain ⟨o, vs, file, tf, flags, tg, inF, text, tt, e, c, r⟩ := n.code
  exact ⟨o, vs, file, tf, flags, tg, inF, text, tt, w.at e (by rw [c]; nofun), c, r⟩
theorem NestAt.blt {u : U} {q : Nest} (n : NestAt u q) {h : Heap} (w : Wd u h) : h.BuiltinsAt u.mg q.p := by
  obtain ⟨bm, o, h1, h2, h3, h4, h5, h6, r⟩ := n.bl
  exact ⟨bm, o, h1, h2, h3, h4, w.at h5 (by rw [h6]; nofun), h6, r⟩
theorem triples_snoc {a b : Int} {t t' : Tok} {c : Value} : ∀ {l : List Value}, TriplesOk l → TriplesOk (l ++ [.int a t, .int b t', c])
  | [], _ => trivial
  | .int _ _ :: .int _ _ :: _ :: rest, h => triples_snoc (l := rest) h
theorem triples_notCode {h : Heap} {p : Addr} {ps : Array Value} (e : h.get? p = some (tabObj ps)) (ht : TriplesOk ps.toList) : NotCode h p := fun o vs x t e1 e2 e3 => by
  rw [e] at e1; cases e1; cases e2
  have e4 : ps.toList[1]? = some (.str x t) := by simpa using e3
  generalize ps.toList = l at *
  match l, ht with
  | [], _ => cases e4
  | .int _ _ :: .int _ _ :: _ :: _, _ => simp at e4
theorem table_keeps {u : U} {q : Nest} {h h' : Heap} {ps : Array Value} {c' : Addr} {ln cl : Int} (n : NestAt u q) (hx : Heap.ExtBut q.p h h') (e1 : h.get? q.p = some (tabObj ps)) (e2 : TriplesOk ps.toList) (hnf : codeAmong q.pos ps.toList = none)
    (hr : h'.CodeRec (.ref c') q.qual) (ht : h'.get? q.p = some (tabObj (ps ++ #[rawInt q.pos.line, rawInt q.pos.col, .ref c']))) : Keeps u Nil h h' := by
  have nc := triples_notCode e1 e2
  refine ⟨fun b o e kp _ => hx b o (fun z => ?_) e, fun b o e t => ⟨o, hx b o (fun z => ?_) e, t⟩, fun b its m e => hx b _ (fun z => ?_) e, fun w => ⟨?_, ?_, fun r hr' => ?_⟩, fun c x ⟨c'', o, vs, t, h1, h2, h3, h4⟩ => ⟨c'', o, vs, t, h1, hx _ _ (fun z => nc o vs x t (z ▸ h2) h3 h4) h2, h3, h4⟩⟩
  · subst z; rw [e1] at e; cases e
    rcases kp with k | k
    · exact k rfl
    · exact k _ rfl
  · subst z; rw [e1] at e; cases e; exact t _ rfl
  · subst z; rw [e1] at e; cases e
  · have H : CodeHd h' q.c q.p := by
      obtain ⟨o, vs, file, tf, flags, tg, inF, text, tt, e, c, r1, r2, r3, r4, r5, r6, r7, hne⟩ := n.hd w
      exact ⟨o, vs, file, tf, flags, tg, inF, text, tt, hx _ _ hne e, c, r1, r2, r3, r4, r5, r6, r7, hne⟩
    exact w.old.step_table (n.code.tab n.tab) ((n.hd w).tab e1) (H.tab ht) hx n.st
  · exact w.nl.extBut hx (Ne.symm n.st)
  · by_cases z : r.p = q.p
    · have := n.apart r hr' z
      subst this
      have e3 : (ps ++ #[rawInt r.pos.line, rawInt r.pos.col, .ref c']).toList = ps.toList ++ [rawInt r.pos.line, rawInt r.pos.col, .ref c'] := by simp
      refine ⟨_, ht, by rw [e3]; exact triples_snoc e2, fun v hv => ?_⟩
      rw [e3, codeAmong_snoc _ e2 hnf] at hv
      cases hv
      exact ⟨c', rfl, hr⟩
    · exact (w.t r hr').new z nc hx
section
variable {u : U} {A : Around} {s : Shared} {env : Env} {name : Str} {params : Arguments} {body : List Stmt} {scope : Scope} {clos : List (Str × Addr)} {q : Nest}
theorem make_fn {Q : Value → Shared → Prop} (n : NestAt u q) (w : Wd u s.heap) (hcl : closureFor scope env = pure clos) (hge : env.globals = mainGlobals) (hcode : env.code = .ref q.c)
    (h : ∀ f h' tk doc pm ctv cv, Keeps u Nil s.heap h' → NewK s.heap f → u.lim ≤ f → h'.get? f = some { cls := .type "function", data := .func (fnX name q.qual params body scope clos .none .none doc pm none cv ctv) } → h'.CodeRec cv q.qual → Q (.ref f) { s with heap := h', toks := tk }) :
    wpAny u.M A (makeFunction name q.qual params (.stmts body) scope env [] [] [] q.pos q.pos.line) Q NoE s := by
  obtain ⟨ps, e1, e2, e3⟩ := w.t q n.mem
  cases hc : codeAmong q.pos ps.toList with
  | some v =>
    obtain ⟨c', rfl, hr⟩ := e3 v hc
    refine makeFunction_hit hcl hge w.glob hcode (n.hd w) e1 e2 hc (n.blt w) fun ctv doc h' tk hk hsz => ?_
    have k1 : Keeps u Nil s.heap h' := .ext hk
    exact h _ _ tk doc _ ctv (.ref c') (k1.trans (.push _ _)) (goneK k1 (.none (none_size _))) (k1.wd w).size (Heap.get?_push_size _ rfl) ((k1.trans (.push _ _)).code _ _ hr)
  | none =>
    refine makeFunction_K hcl hge w.glob hcode (n.hd w) e1 e2 hc n.g (n.blt w) fun c' ctv doc h' tk hx hge' hlt hr ht => ?_
    have k1 : Keeps u Nil s.heap h' := table_keeps (ln := 0) (cl := 0) n hx e1 e2 hc hr ht
    have k2 : Keeps u Nil h' (h'.push (fnMade name q.qual params body scope clos doc ((u.mg "__name__").getD .none) c' ctv)) := .push _ _
    exact h _ _ tk doc _ ctv (.ref c') (k1.trans k2) (goneK k1 (.none (none_size _))) (k1.wd w).size (Heap.get?_push_size _ rfl) (k2.code _ _ hr)
end
end
section
/-! lists made by a comprehension -/
section
variable {u : U} {A : Around} {s : Shared} {env : Env} {R : Result → Shared → Prop} {tgt elt iter : Expr} {ifs : List Expr} {cs : Scope} {pos : Pos} {it acc : Value}
noncomputable abbrev testsOf (ifs : List Expr) (env : Env) : Sem Bool := forIn ifs true fun c r => if r = true then do let ok ← isTrue c env (eval c env); pure (ForInStep.yield ok) else pure (ForInStep.yield r)
/-- one turn -/
theorem code_comp (turn : wpAny u.M A (pyNext it) (fun r s₁ => match r with
      | none => R (.ok .next) s₁
      | some v => wpAny u.M A (letOwnedTupleGo tgt it v) (fun _ s₁' => wpAny u.M A (assign tgt env v) (fun _ s₂ => wpAny u.M A (testsOf ifs env) (fun ok s₃ =>
          if ok = true then wpAny u.M A (eval elt env) (fun x s₄ => wpAny u.M A (call (.builtin "list.append") [acc, x]) (fun _ s₅ => codeAny u.M A (.compLoop (.ListComp elt [⟨tgt, iter, ifs, 0⟩] cs pos) 0 it acc env) R s₅) NoE s₄) NoE s₃
          else codeAny u.M A (.compLoop (.ListComp elt [⟨tgt, iter, ifs, 0⟩] cs pos) 0 it acc env) R s₃) NoE s₂) NoE s₁') NoE s₁) NoE s) :
    codeAny u.M A (.compLoop (.ListComp elt [⟨tgt, iter, ifs, 0⟩] cs pos) 0 it acc env) R s := by
  refine codeAny_of_tree ?_
  show wpAny _ A ((compTurn (.ListComp elt [⟨tgt, iter, ifs, 0⟩] cs pos) 0 it acc env).onRaise (fun x => do noteFrame x env; theTreesLotGoes x)) _ _ s
  refine wpAny_noted ?_
  rw [compTurn_list]
  refine wpAny_bind (wpAny_standAt (wpAny_bind (wpAny_mono turn (fun r s₁ h₁ => ?_) fun _ _ h' => h'.elim)))
  cases r with
  | none => exact wpAny_pure h₁
  | some v =>
    refine wpAny_bind (wpAny_mono h₁ (fun _ s₁' h₁' => ?_) fun _ _ h' => h'.elim)
    refine wpAny_bind (wpAny_mono h₁' (fun _ s₂ h₂ => wpAny_bind (wpAny_mono h₂ (fun ok s₃ h₃ => ?_) fun _ _ h' => h'.elim)) fun _ _ h' => h'.elim)
    cases ok with
    | false => exact wpAny_pure ⟨rfl, h₃⟩
    | true =>
      exact wpAny_bind (wpAny_bind (wpAny_mono h₃ (fun x s₄ h₄ => wpAny_bind (wpAny_mono h₄ (fun _ s₅ h₅ => wpAny_pure (wpAny_pure ⟨rfl, h₅⟩)) fun _ _ h' => h'.elim)) fun _ _ h' => h'.elim))
end
theorem ItRep.self {u : U} {N : Addr → Prop} {s : Shared} {I : Addr} {ds : List PyData} {A : Around} {Q : Value → Shared → Prop} (r : ItRep N s.heap I ds) (h : Q (.ref I) s) : wpAny u.M A (pyIter (.ref I)) Q NoE s := by
  rcases r with ⟨l, vs, n, i, h1, _⟩ | ⟨x, left, step, h1, _⟩ | ⟨x, t, i, h1, _⟩ | ⟨l, vs, n, i, h1, _⟩
  · exact wpAny_pyIter_listiter h1 h
  · exact wpAny_pyIter_rangeiter h1 h
  · unfold strIterType at h1
    split at h1
    · exact wpAny_pyIter_striter_ascii h1 h
    · exact wpAny_pyIter_striter_wide h1 h
  · exact wpAny_pyIter_revIter h1 h
/-! the closure of a scope within a scope -/
theorem closure_of {scope : Scope} {env : Env} (h : ∀ x, (x, NameKind.free) ∈ scope.names → ∃ c, env.cells.lookup x = some c) :
    ∃ cl, closureFor scope env = pure cl ∧ (∀ x c, cl.lookup x = some c → env.cells.lookup x = some c) ∧ ∀ x, (x, NameKind.free) ∈ scope.names → cl.lookup x = env.cells.lookup x := by
  have key : ∀ (names : List (Str × NameKind)) (acc : List (Str × Addr)), (∀ x, (x, NameKind.free) ∈ names → ∃ c, env.cells.lookup x = some c) → (∀ x c, acc.lookup x = some c → env.cells.lookup x = some c) →
      ∃ cl, (forIn names acc fun x cs => if (x.2 == NameKind.free) = true then (do let a ← cellOf env x.1; pure (ForInStep.yield ((x.1, a) :: cs))) else pure (ForInStep.yield cs) : Sem (List (Str × Addr))) = pure cl ∧
        (∀ x c, cl.lookup x = some c → env.cells.lookup x = some c) ∧ (∀ x c, acc.lookup x = some c → cl.lookup x = some c) ∧ ∀ x, (x, NameKind.free) ∈ names → cl.lookup x = env.cells.lookup x := by
    intro names
    induction names with
    | nil => intro acc _ ha; exact ⟨acc, rfl, ha, fun _ _ e => e, fun x hx => by cases hx⟩
    | cons p r ih =>
      intro acc hf ha
      obtain ⟨y, kd⟩ := p
      rw [List.forIn_cons]
      by_cases hk : (kd == NameKind.free) = true
      · have : kd = .free := eq_of_beq hk
        subst this
        obtain ⟨c, hc⟩ := hf y (.head _)
        obtain ⟨cl, e1, e2, e3, e4⟩ := ih ((y, c) :: acc) (fun x hx => hf x (.tail _ hx)) (fun x c' e => by
          rw [List.lookup_cons] at e
          cases hxy : x == y with
          | true => rw [hxy] at e; cases e; rw [eq_of_beq hxy]; exact hc
          | false => rw [hxy] at e; exact ha x c' e)
        refine ⟨cl, ?_, e2, fun x c' e => ?_, fun x hx => ?_⟩
        · simp only [beq_self_eq_true, if_true, cellOf, hc]
          exact e1
        · by_cases hxy : x = y
          · subst hxy
            rw [e3 x c (by simp), ← ha x c' e, hc]
          · exact e3 x c' (by rw [List.lookup_cons, beq_eq_false_iff_ne.mpr hxy]; exact e)
        · rcases List.mem_cons.mp hx with q | q
          · cases q; rw [e3 y c (by simp), hc]
          · exact e4 x q
      · obtain ⟨cl, e1, e2, e3, e4⟩ := ih acc (fun x hx => hf x (.tail _ hx)) ha
        refine ⟨cl, ?_, e2, e3, fun x hx => ?_⟩
        · simp only [Bool.not_eq_true] at hk
          simp only [hk, Bool.false_eq_true, if_false]
          exact e1
        · rcases List.mem_cons.mp hx with q | q
          · cases q; exact (hk (by decide)).elim
          · exact e4 x q
  obtain ⟨cl, e1, e2, _, e4⟩ := key scope.names [] h (fun x c e => by cases e)
  refine ⟨cl, ?_, e2, e4⟩
  show ((forIn scope.names ([] : List (Str × Addr)) fun (x : Str × NameKind) (cs : List (Str × Addr)) => if (x.2 == NameKind.free) = true then (do let a ← cellOf env x.1; pure (ForInStep.yield ((x.1, a) :: cs))) else pure (ForInStep.yield cs) : Sem (List (Str × Addr))) >>= fun cs => pure cs) = pure cl
  rw [e1]
  rfl
/-- a comprehension's scope, as the frame of scope sc sees it -/
noncomputable def relabelS (cs sc : Scope) : Scope := { cs with names := cs.names.map fun (n, k) => if (k == .free && sc.kind == .function && sc.names.lookup n == some .cell) then (n, .cell) else (n, k) }
theorem relabel_eq {cs sc : Scope} {env : Env} (he : EnvIs sc env) : relabel cs env = relabelS cs sc := by
  unfold relabel relabelS Env.kindOf
  rw [he.scope]
/-- a target takes a value; only names of the frame itself are written -/
structure AsL (u : U) (sc : Scope) (σ : St) (tgt : Expr) (d : Vd) (σ1 : St) : Prop where
  own : OwnSub σ1 σ
  run : ∀ (env : Env) (N : Addr → Prop) (ad : Str → Addr) (A : Around) (s : Shared) (v : Value) (Q : Unit → Shared → Prop), EnvIs sc env → A.handled = none → MatchS u N ad env s.heap σ → Rep u (Full N ad σ env) s.heap v d →
    (∀ h' tk, Keeps u (fun a => a = env.locals) s.heap h' → MatchS u N ad env h' σ1 → Q () { s with heap := h', toks := tk }) → wpAny u.M A (assign tgt env v) Q NoE s
section
variable {u : U} {k : Nat} {sc : Scope} {σ σ1 σ2 : St} {env : Env} {N : Addr → Prop} {ad : Str → Addr} {A : Around} {s : Shared} {p : Pos} {d : Vd} {x : Str} {v : Value}
theorem store_loc {Q : Unit → Shared → Prop} (he : EnvIs sc env) (f : FrOk u env s.heap) (hk : sc.names.lookup x = some .local)
    (h : ∀ h' tk, Keeps u (fun a => a = env.locals) s.heap h' → FrOk u env h' → Sees env h' x v → (∀ y w, y ≠ x → Sees env s.heap y w → Sees env h' y w) → Q () { s with heap := h', toks := tk }) :
    wpAny u.M A (storeName env x v) Q NoE s := by
  obtain ⟨m, hn⟩ := f.ns
  have hl : env.kindOf x = some .local := by rw [he.kindOf]; exact hk
  have hF : ∀ c y, env.cells.lookup y = some c → c ≠ env.locals := fun c y hy q => by
    obtain ⟨v, o, o1, o2⟩ := f.cell y c hy
    obtain ⟨o', es, ep, o3, o4, _⟩ := hn
    rw [← q, o1] at o3; cases o3; rw [o2] at o4; cases o4
  refine wpAny_storeName_local hl hn (fun h' hn' hs => ?_) (by rw [he.fn]; rfl)
  obtain ⟨o', e', _, tr', _⟩ := ns_get hn'
  obtain ⟨o, e, _, _, nt⟩ := ns_get hn
  refine h h' _ (.upd f.nsNew hs rfl ⟨o', e', tr'⟩ (fun its n q => by rw [e] at q; cases q; exact nt _ _ rfl) (ns_notCode hn)) (f.upd hs (fun m q _ => ⟨_, hn'⟩) fun y v hy _ => (hF _ y hy rfl).elim) (.inl ⟨hl, _, hn', by simp⟩) fun y w ne hw => ?_
  rcases hw with ⟨e1, m1, hn1, hm1⟩ | ⟨e1, c, hc, hv⟩
  · refine .inl ⟨e1, _, hn', ?_⟩
    obtain ⟨q1, q2, q3, q4, q5, _, q6⟩ := hn
    obtain ⟨r1, r2, r3, r4, r5, _, r6⟩ := hn1
    rw [q4] at r4; cases r4; rw [q5] at r5; cases r5
    simp only [if_neg ne]
    rw [← q6, r6]; exact hm1
  · exact .inr ⟨e1, c, hc, hv.sameBut hs (hF c y hc)⟩
theorem AsL.name (hk : sc.names.lookup x = some .local) : AsL u sc σ (.Name x p) d ((x, (d, false)) :: σ) :=
  ⟨OwnSub.refl.cons, fun env N ad A s v Q he hh M r h => wpAny_assign_Name (store_loc he M.fr hk fun h' tk K F hv ho => h h' tk K (M.store (K.mono fun a q => .inl q) F hv ho r))⟩
structure AsLs (u : U) (sc : Scope) (σ : St) (tgts : List Expr) (ds : List PyData) (σ1 : St) : Prop where
  own : OwnSub σ1 σ
  len : ∀ env, (assignEach tgts env).length = ds.length
  star : ∀ env, (assignEach tgts env).findIdx? (·.1) = none
  run : ∀ (env : Env) (N : Addr → Prop) (ad : Str → Addr) (A : Around) (s : Shared) (vs : List Value) (Q : Unit → Shared → Prop), EnvIs sc env → A.handled = none → MatchS u N ad env s.heap σ → RepPs (Full N ad σ env) s.heap vs ds →
    (∀ h' tk, Keeps u (fun a => a = env.locals) s.heap h' → MatchS u N ad env h' σ1 → Q () { s with heap := h', toks := tk }) → wpAny u.M A (assignInOrder ((assignEach tgts env).map (·.2)) vs) Q NoE s
theorem AsLs.nil : AsLs u sc σ [] [] σ := ⟨.refl, fun _ => rfl, fun _ => rfl, fun env N ad A s vs Q he hh M r h => by rw [r.inv_nil]; exact assignInOrder_nil (h s.heap s.toks (.refl _) M)⟩
theorem AsLs.cons {t : Expr} {ts : List Expr} {d : PyData} {ds : List PyData} (a : AsL u sc σ t (.py d) σ1) (b : AsLs u sc σ1 ts ds σ2) (hs : noStar' t = true := by rfl) : AsLs u sc σ (t :: ts) (d :: ds) σ2 := by
  refine ⟨b.own.trans a.own, fun env => ?_, fun env => ?_, fun env N ad A s vs Q he hh M r h => ?_⟩
  · rw [assignEach_cons hs]; simp [b.len env]
  · rw [assignEach_cons hs, List.findIdx?_cons]; simp [b.star env]
  · obtain ⟨v, vs', rfl, r1, r2⟩ := r.inv
    rw [assignEach_cons hs]
    refine assignInOrder_cons (a.run env N ad A s v _ he hh M r1 fun h1 t1 k1 M1 => ?_)
    refine b.run env N ad A { s with heap := h1, toks := t1 } vs' Q he hh M1 ((r2.step k1 fun a q => .inr (.inl (.inl q))).anti fun _ => a.own.full) fun h2 t2 k2 M2 => h h2 t2 (k1.trans k2) M2
theorem AsL.tuple {tgts : List Expr} {c : Nat} {ds : List PyData} (a : AsLs u sc σ tgts ds σ1) : AsL u sc σ (.Tuple tgts c p) (Tu ds) σ1 :=
  ⟨a.own, fun env N ad A s v Q he hh M r h => by
    obtain ⟨t, vs, n, rfl, ht, q⟩ := RepP.tuple_inv r
    have e1 := q.length
    simp only [Array.length_toList] at e1
    refine assign_Tuple_tuple (items := vs) hh ⟨_, ht, rfl, n, rfl⟩ (by rw [a.len, e1]) (a.star env) fun h1 he1 => ?_
    have k1 : Keeps u (fun a => a = env.locals) s.heap h1 := .ext fun b o e => he1 b o (Nat.ne_of_lt (Heap.lt_size e)) e
    have k0 : Keeps u Nil s.heap h1 := .ext fun b o e => he1 b o (Nat.ne_of_lt (Heap.lt_size e)) e
    exact a.run env N ad A { s with heap := h1 } vs.toList Q he hh (M.step k0) (q.step k0 fun _ => nonil) fun h2 t2 k2 M2 => h h2 t2 (k1.trans k2) M2⟩
/-- tests one after the other -/
noncomputable def TsTs (u : U) (k : Nat) (sc : Scope) (σ : St) : List Expr → Bool → Prop
  | [], b => b = true
  | [e], b => TsT u k sc σ e b
  | _, _ => False
theorem TsTs.use {ifs : List Expr} {b : Bool} (t : TsTs u k sc σ ifs b) {Q : Bool → Shared → Prop} (H : Here u k sc σ env N A s.heap) (h : ∀ h' tk, Keeps u Nil s.heap h' → Q b { s with heap := h', toks := tk }) : wpAny u.M A (testsOf ifs env) Q NoE s := by
  match ifs, t with
  | [], t =>
    cases t
    exact wpAny_pure (h s.heap s.toks (.refl _))
  | [e], t =>
    show wpAny u.M A (forIn [e] true _) Q NoE s
    rw [List.forIn_cons]
    simp only [if_true]
    refine wpAny_bind (wpAny_bind (TsT.use t H fun h1 t1 k1 H1 => wpAny_pure ?_))
    show wpAny u.M A (forIn [] b _) Q NoE _
    exact wpAny_pure (h h1 t1 k1)
  | _ :: _ :: _, t => exact t.elim
/-- what the comprehension makes of an item: nothing, or y -/
inductive CompR (u : U) (k : Nat) (sc : Scope) (σ : St) (tgt : Expr) (ifs : List Expr) (elt : Expr) : List PyData → List PyData → Prop
  | nil : CompR u k sc σ tgt ifs elt [] []
  | skip {d ds ys σ1} : AsL u sc σ tgt (.py d) σ1 → Sub σ σ1 → TsTs u k sc σ1 ifs false → CompR u k sc σ tgt ifs elt ds ys → CompR u k sc σ tgt ifs elt (d :: ds) ys
  | take {d ds y ys σ1} : AsL u sc σ tgt (.py d) σ1 → Sub σ σ1 → TsTs u k sc σ1 ifs true → EvT u k sc σ1 elt (.py y) → CompR u k sc σ tgt ifs elt ds ys → CompR u k sc σ tgt ifs elt (d :: ds) (y :: ys)
end
end
section
section
variable {u : U} {k : Nat} {sc : Scope} {σ σ1 σ2 : St} {env : Env} {N : Addr → Prop} {ad : Str → Addr} {h h' : Heap}
theorem MatchS.touch {D : Addr} {ws : Array Value} {m : Nat} (M : MatchS u N ad env h σ) (k : Keeps u (fun a => a = D) h h') (hN : N D) (hD : h.get? D = some (listOf ws m)) : MatchS u N ad env h' σ := by
  have nF : ∀ a, FA env a → ¬ (a = D) := fun a q e => by
    obtain ⟨o, h1, _, h2⟩ := M.fr.aliveFA q
    rw [e, hD] at h1; cases h1; exact h2 _ _ rfl
  have sI : ∀ a, a = D → Full N ad σ env a := fun a e => .inl (e ▸ hN)
  refine ⟨M.live.step k, M.fr.step k nF, M.frN, fun x d hx => ?_, fun x d hx => ?_, M.inj⟩
  · obtain ⟨v, hv, r⟩ := M.val x d hx
    exact ⟨v, hv.step M.fr k nF, r.step k sI⟩
  · obtain ⟨vs, n, xs, e0, e1, e2, e3, e4, e5⟩ := M.own x d hx
    exact ⟨vs, n, xs, e0, e1.step M.fr k nF, k.old _ _ e2 kp_list fun q => e5 (q ▸ hN), e3.step k sI, e4, e5⟩
theorem list_app {A : Around} {s : Shared} {D : Addr} {ws : Array Value} {m : Nat} {y : Value} {Q : Value → Shared → Prop} (hD : s.heap.get? D = some (listOf ws m)) (hsz : ws.size ≤ sizeLine) (hB : u.lim ≤ D)
    (h : ∀ h' m', Keeps u (fun a => a = D) s.heap h' → h'.get? D = some (listOf (ws.push y) m') → Q .none { s with heap := h' }) : wpAny u.M A (call (.builtin "list.append") [.ref D, y]) Q NoE s := by
  have hl : IsL s.heap D ws m := hD
  refine call_meets slot_list_append ⟨_, hD, rfl⟩ entry_list_append (args_list_append _ _) (AutoListH.list_append_list_val_0 D ws m y hsz) ⟨hl, h _ _ (.upd hB (Heap.SameBut.update ..) rfl ⟨_, hl.update _, tr_list⟩ (fun its n q => ?_) (seq_notCode hD)) (hl.update _)⟩
  rw [hD] at q
  exact absurd (congrArg Obj.cls (Option.some.inj q)) (by intro h; injection h with h; exact absurd h (by decide))
theorem comp_loop {tgt elt iter : Expr} {ifs : List Expr} {cs0 : Scope} {pos : Pos} {ds ys : List PyData} (c : CompR u k sc σ tgt ifs elt ds ys) (noOwn : ∀ y d, look σ y ≠ some (d, true)) :
    ∀ (env : Env) (N : Addr → Prop) (ad : Str → Addr) (A : Around) (s : Shared) (I D : Addr) (ws : Array Value) (m : Nat) (zs : List PyData) (R : Result → Shared → Prop), EnvIs sc env → Ok A k → Wd u s.heap → MatchS u N ad env s.heap σ →
      ItRep (Full N ad σ env) s.heap I ds → u.lim ≤ I → s.heap.get? D = some (listOf ws m) → N D → u.lim ≤ D → RepPs (Full N ad σ env) s.heap ws.toList zs → zs.length + ds.length ≤ 2 ^ 20 →
      (∀ h' tk ws' m', Keeps u (fun a => a = env.locals ∨ a = I ∨ a = D) s.heap h' → MatchS u N ad env h' σ → h'.get? D = some (listOf ws' m') → RepPs (Full N ad σ env) h' ws'.toList (zs ++ ys) → R (.ok .next) { s with heap := h', toks := tk }) →
      codeAny u.M A (.compLoop (.ListComp elt [⟨tgt, iter, ifs, 0⟩] cs0 pos) 0 (.ref I) (.ref D) env) R s := by
  induction c with
  | nil =>
    intro env N ad A s I D ws m zs R he ok wd M it hI hD hN hDB hr hz hR
    refine code_comp (it.done ok.handled hI fun h1 t1 k1 => ?_)
    have dI : D ≠ I := fun e => it.new _ (e ▸ hD) tr_list
    refine hR h1 t1 ws m (k1.mono fun _ q => .inr (.inl q)) (M.iter k1 it.new) (k1.old _ _ hD kp_list dI) ?_
    rw [List.append_nil]
    exact hr.stepN k1 fun a e => .inr (e ▸ it.new)
  | skip a sb t cr ih =>
    intro env N ad A s I D ws m zs R he ok wd M it hI hD hN hDB hr hz hR
    have n0 := it.new
    have dI : D ≠ I := fun e => n0 _ (e ▸ hD) tr_list
    have up : ∀ {τ : St}, OwnSub τ σ → ∀ b, Full N ad σ env b → Full N ad τ env b := fun _ b q => q.imp id fun q => q.imp id fun ⟨y, d, hy, _⟩ => (noOwn y d hy).elim
    refine code_comp (it.next hI fun v h1 t1 k1 r1 it1 => it1.go (s := { s with heap := h1, toks := t1 }) ?_)
    have M1 := M.iter k1 n0
    have hr1 := hr.stepN k1 fun a e => .inr (e ▸ n0)
    have hD1 := k1.old _ _ hD kp_list dI
    refine a.run env N ad A { s with heap := h1, toks := t1 } v _ he ok.handled M1 r1 fun h2 t2 k2 M2 => ?_
    have dl : D ≠ env.locals := fun e => M1.fr.notList hD1 (.inl e)
    have lF : ∀ a, a = env.locals → Full N ad σ env a := fun a e => .inr (.inl (.inl e))
    have Il : I ≠ env.locals := fun e => by
      obtain ⟨o, q1, q2, _⟩ := M1.fr.aliveFA (a := I) (.inl e)
      exact it1.new o q1 q2
    have hD2 := k2.old _ _ hD1 kp_list dl
    have hr2 := hr1.step k2 lF
    have it2 := it1.step k2 (fun a e => .inl (lF a e)) Il
    refine t.use (s := { s with heap := h2, toks := t2 }) (M2.here he ok (k2.wd (k1.wd wd))) fun h3 t3 k3 => ?_
    have K : Keeps u (fun a => a = env.locals ∨ a = I ∨ a = D) s.heap h3 := ((k1.mono fun _ q => .inr (.inl q)).trans (k2.mono fun _ q => .inl q)).trans (k3.mono fun _ => nonil)
    rw [if_neg (by decide)]
    refine ih env N ad A { s with heap := h3, toks := t3 } I D ws m zs R he ok (k3.wd (k2.wd (k1.wd wd))) ((M2.step k3).sub sb) (it2.step k3 (fun _ => nonil) id) hI (k3.old _ _ hD2 kp_list id) hN hDB (hr2.step k3 fun _ => nonil) (by simp at hz ⊢; omega) fun h4 t4 ws' m' k4 M4 => ?_
    exact hR h4 t4 ws' m' (K.trans k4) M4
  | @take d ds y ys σ1 a sb t el cr ih =>
    intro env N ad A s I D ws m zs R he ok wd M it hI hD hN hDB hr hz hR
    have n0 := it.new
    have dI : D ≠ I := fun e => n0 _ (e ▸ hD) tr_list
    refine code_comp (it.next hI fun v h1 t1 k1 r1 it1 => it1.go (s := { s with heap := h1, toks := t1 }) ?_)
    have M1 := M.iter k1 n0
    have hr1 := hr.stepN k1 fun a e => .inr (e ▸ n0)
    have hD1 := k1.old _ _ hD kp_list dI
    refine a.run env N ad A { s with heap := h1, toks := t1 } v _ he ok.handled M1 r1 fun h2 t2 k2 M2 => ?_
    have dl : D ≠ env.locals := fun e => M1.fr.notList hD1 (.inl e)
    have lF : ∀ a, a = env.locals → Full N ad σ env a := fun a e => .inr (.inl (.inl e))
    have Il : I ≠ env.locals := fun e => by
      obtain ⟨o, q1, q2, _⟩ := M1.fr.aliveFA (a := I) (.inl e)
      exact it1.new o q1 q2
    have hD2 := k2.old _ _ hD1 kp_list dl
    have hr2 := hr1.step k2 lF
    have it2 := it1.step k2 (fun a e => .inl (lF a e)) Il
    refine t.use (s := { s with heap := h2, toks := t2 }) (M2.here he ok (k2.wd (k1.wd wd))) fun h3 t3 k3 => ?_
    rw [if_pos rfl]
    have M3 := M2.step k3
    refine el.use (s := { s with heap := h3, toks := t3 }) (M3.here he ok (k3.wd (k2.wd (k1.wd wd)))) fun w h4 t4 k4 H4 r4 => ?_
    have k34 := k3.trans k4
    have hD4 := k34.old _ _ hD2 kp_list id
    have hlen := hr.length
    simp only [Array.length_toList] at hlen
    simp only [List.length_cons] at hz
    have r4' : RepP (Full N ad σ env) h4 w y := RepP.anti r4 fun b q => q.imp id fun q => q.imp id fun ⟨z, d, hz, _⟩ => (noOwn z d hz).elim
    refine list_app (s := { s with heap := h4, toks := t4 }) hD4 (by rw [hlen, sizeLine_eq]; omega) hDB fun h5 m5 k5 hD5 => ?_
    have dF : ∀ a, a = D → Full N ad σ env a := fun a e => .inl (e ▸ hN)
    have M4 := (M2.step k34).sub sb
    have K : Keeps u (fun a => a = env.locals ∨ a = I ∨ a = D) s.heap h5 := (((k1.mono fun _ q => .inr (.inl q)).trans (k2.mono fun _ q => .inl q)).trans (k34.mono fun _ => nonil)).trans (k5.mono fun _ q => .inr (.inr q))
    refine ih env N ad A { s with heap := h5, toks := t4 } I D (ws.push w) m5 (zs ++ [y]) R he ok (k5.wd H4.wd) (M4.touch k5 hN hD4) ((it2.step k34 (fun _ => nonil) id).step k5 (fun a e => .inl (dF a e)) (Ne.symm dI)) hI hD5 hN hDB ?_ (by simp; omega) fun h6 t6 ws' m' k6 M6 hD6 hr6 => ?_
    · rw [Array.toList_push]
      exact ((hr2.step k34 fun _ => nonil).step k5 dF).append (.cons (r4'.step k5 dF) .nil)
    · exact hR h6 t6 ws' m' (K.trans k6) M6 hD6 (by rw [List.append_assoc] at hr6; exact hr6)
end
end
section
theorem rd_lists2 {h : Heap} : (∀ {v d as}, Rd h v d as → ∀ a ∈ as, ∃ vs n, h.get? a = some (listOf vs n)) ∧ ∀ {vs ds as}, RdAll h vs ds as → ∀ a ∈ as, ∃ vs n, h.get? a = some (listOf vs n) :=
  rd_both (P := fun _ _ as => ∀ a ∈ as, ∃ vs n, h.get? a = some (listOf vs n)) (Q := fun _ _ as => ∀ a ∈ as, ∃ vs n, h.get? a = some (listOf vs n)) nofun (fun _ => nofun) (fun _ _ => nofun) (fun _ _ => nofun) (fun e q a hm => by
    rcases List.mem_cons.mp hm with rfl | hm
    · exact ⟨_, _, e⟩
    · exact q a hm) (fun _ q => q) nofun fun p q a hm => (List.mem_append.mp hm).elim (p a) (q a)
theorem rd_lists {h : Heap} {v : Value} {d : PyData} {as : List Addr} (r : Rd h v d as) : ∀ a ∈ as, ∃ vs n, h.get? a = some (listOf vs n) := rd_lists2.1 r
theorem rdAll_lists {h : Heap} {vs : List Value} {ds : List PyData} {as : List Addr} (r : RdAll h vs ds as) : ∀ a ∈ as, ∃ vs n, h.get? a = some (listOf vs n) := rd_lists2.2 r
/-- no list lies at a -/
noncomputable def NoLs (h : Heap) (a : Addr) : Prop := ∀ vs n, h.get? a ≠ some (listOf vs n)
section
variable {u : U} {N N' X : Addr → Prop} {h h' h'' : Heap} {v : Value} {d : PyData} {vs : List Value} {ds : List PyData} {C I : Addr}
theorem RepP.off (r : RepP N h v d) (s : ∀ a, N' a → N a ∨ NoLs h a) : RepP N' h v d := let ⟨as, r, n⟩ := r
  ⟨as, r, fun a ha q => (s a q).elim (n a ha) fun e => let ⟨_, _, g⟩ := rd_lists r a ha; e _ _ g⟩
theorem RepPs.off (r : RepPs N h vs ds) (s : ∀ a, N' a → N a ∨ NoLs h a) : RepPs N' h vs ds := let ⟨as, r, n⟩ := r
  ⟨as, r, fun a ha q => (s a q).elim (n a ha) fun e => let ⟨_, _, g⟩ := rdAll_lists r a ha; e _ _ g⟩
theorem ItRep.off (r : ItRep N h I ds) (s : ∀ a, N' a → N a ∨ NoLs h a) : ItRep N' h I ds := by
  rcases r with ⟨l, vs, n, i, h1, h3, h4, h5⟩ | r | r | ⟨l, vs, n, i, h1, h3, h4, h5, h6⟩
  · exact .inl ⟨l, vs, n, i, h1, h3, fun q => (s _ q).elim h4 fun z => z _ _ h3, h5.off s⟩
  · exact .inr (.inl r)
  · exact .inr (.inr (.inl r))
  · exact .inr (.inr (.inr ⟨l, vs, n, i, h1, h3, fun q => (s _ q).elim h4 fun z => z _ _ h3, h5, h6.off s⟩))
theorem NoLs.none (e : h.get? C = .none) : NoLs h C := fun _ _ q => by rw [e] at q; cases q
/-- what lies at C alone is changed, and C is new -/
theorem Keeps.drop (k : Keeps u X h h') (hs : Heap.SameBut C h' h'') (hC : NewK h C) (hB : u.lim ≤ C) (hc : NotCode h' C) : Keeps u X h h'' := by
  have ne : ∀ b o, h.get? b = some o → Kp o → b ≠ C := fun b o e kp q => hC o (q ▸ e) kp
  refine ⟨fun b o e kp n => (hs.2 b (ne b o e kp)).trans (k.old b o e kp n), fun b o e t => ?_, fun b its n e => (hs.2 b (ne b _ e (.inl (by nofun)))).trans (k.tup b its n e), fun w => (k.wd w).upd hB hc hs, fun c q r => ?_⟩
  · obtain ⟨o', e', t'⟩ := k.alive b o e t
    exact ⟨o', (hs.2 b (ne b o e (.inr t))).trans e', t'⟩
  · obtain ⟨c', o, vs, t, h1, h2, h3, h4⟩ := k.code c q r
    exact ⟨c', o, vs, t, h1, (hs.2 _ fun e => hc o vs _ t (e ▸ h2) h3 h4).trans h2, h3, h4⟩
theorem rd_same2 (hs : Heap.SameBut C h h') (z : ∀ its n, h.get? C ≠ some (tupOf its n)) : (∀ {v d as}, Rd h v d as → C ∉ as → Rd h' v d as) ∧ ∀ {vs ds as}, RdAll h vs ds as → C ∉ as → RdAll h' vs ds as :=
  rd_both (P := fun v d as => C ∉ as → Rd h' v d as) (Q := fun vs ds as => C ∉ as → RdAll h' vs ds as) (fun _ => .none) (fun b _ => .bool b) (fun i t _ => .int i t) (fun x t _ => .str x t)
    (fun e q n => .list ((hs.2 _ fun e1 => n (e1 ▸ .head _)).trans e) (q fun w => n (.tail _ w))) (fun e q n => .tuple ((hs.2 _ fun e1 => z _ _ (e1 ▸ e)).trans e) (q n)) (fun _ => .nil)
    fun p q n => .cons (p fun w => n (List.mem_append_left _ w)) (q fun w => n (List.mem_append_right _ w))
theorem rd_same (hs : Heap.SameBut C h h') {v : Value} {d : PyData} {as : List Addr} (r : Rd h v d as) (n : C ∉ as) (z : ∀ its n, h.get? C ≠ some (tupOf its n)) : Rd h' v d as := (rd_same2 hs z).1 r n
theorem rdAll_same (hs : Heap.SameBut C h h') {vs : List Value} {ds : List PyData} {as : List Addr} (r : RdAll h vs ds as) (n : C ∉ as) (z : ∀ its n, h.get? C ≠ some (tupOf its n)) : RdAll h' vs ds as := (rd_same2 hs z).2 r n
theorem RepP.same (hs : Heap.SameBut C h h') (hN : N C) (z : ∀ its n, h.get? C ≠ some (tupOf its n)) (r : RepP N h v d) : RepP N h' v d := let ⟨as, r, n⟩ := r; ⟨as, rd_same hs r (fun q => n C q hN) z, n⟩
theorem RepPs.same (hs : Heap.SameBut C h h') (hN : N C) (z : ∀ its n, h.get? C ≠ some (tupOf its n)) (r : RepPs N h vs ds) : RepPs N h' vs ds := let ⟨as, r, n⟩ := r; ⟨as, rdAll_same hs r (fun q => n C q hN) z, n⟩
theorem Rep.same {d : Vd} (hs : Heap.SameBut C h h') (hN : N C) (z : ∀ its n, h.get? C ≠ some (tupOf its n)) (hc : NotCode h C) (r : Rep u N h v d) : Rep u N h' v d := by
  cases d with
  | py d => exact RepP.same hs hN z r
  | fn f => exact r
  | lat l xs => exact ⟨r.1, r.2.same hs hN z⟩
  | big xs => exact let ⟨a, o, vs, n, e1, e2, e3, e4, e5, e6⟩ := r; ⟨a, o, vs, n, e1, (hs.2 a fun e => e5 (e ▸ hN)).trans e2, e3, e4, e5, e6.same hs hN z⟩
  | ws l es =>
    obtain ⟨x, C', dx, od, e1, e2, e3, e4, e5, tr, e6, n1, n2⟩ := r
    exact ⟨x, C', dx, od, e1, e2, (hs.2 x fun e => n1 (e ▸ hN)).trans e3, (hs.2 dx fun e => n2 (e ▸ hN)).trans e4, e5, tr, fun p hp => let ⟨w, hw, rw⟩ := e6 p hp; ⟨w, hw, rw.same hs hN z⟩, n1, n2⟩
  | clo f fd cs hh =>
    obtain ⟨e1, ⟨o, e2, e3⟩, e4, ⟨c, oc, vs, t, g1, g2, g3, g4⟩, e6, e7⟩ := r
    refine ⟨e1, ⟨o, (hs.2 f fun e => e4 (e ▸ hN)).trans e2, e3⟩, e4, ⟨c, oc, vs, t, g1, (hs.2 _ fun e => hc oc vs _ t (e ▸ g2) g3 g4).trans g2, g3, g4⟩, fun p hp => ?_, fun p hp => (e7 p hp).same hs hN z⟩
    obtain ⟨⟨o, h1, h2⟩, h3⟩ := e6 p hp
    exact ⟨⟨o, (hs.2 p.1 fun e => h3 (e ▸ hN)).trans h1, h2⟩, h3⟩
theorem MatchS.off {σ : St} {env : Env} {ad : Str → Addr} {mC : Str → Option Value} (M : MatchS u N' ad env h σ) (hN : N' C) (hs : Heap.SameBut C h h') (hC : h.Ns C mC) (sub : ∀ a, N a → N' a) (nC : ¬ N C) : MatchS u N ad env h' σ := by
  obtain ⟨oC, eC, _, trC, ntC⟩ := ns_get hC
  have z : ∀ its n, h.get? C ≠ some (tupOf its n) := fun its n q => by rw [eC] at q; cases q; exact ntC _ _ rfl
  have lC : env.locals ≠ C := fun e => M.frN _ (.inl rfl) (e ▸ hN)
  have cC : ∀ x c, env.cells.lookup x = some c → c ≠ C := fun x c hx e => by
    obtain ⟨v, o, h1, h2⟩ := M.fr.cell x c hx
    obtain ⟨o', es, ep, h3, h4, _⟩ := hC
    rw [e] at h1; rw [h1] at h3; cases h3; rw [h2] at h4; cases h4
  have sees : ∀ x v, Sees env h x v → Sees env h' x v := fun x v q => by
    rcases q with ⟨e, m, hn, hm⟩ | ⟨e, c, hc, hv⟩
    · exact .inl ⟨e, m, hn.sameBut hs lC, hm⟩
    · exact .inr ⟨e, c, hc, hv.sameBut hs (cC x c hc)⟩
  have fs : ∀ a, Full N ad σ env a → Full N' ad σ env a := fun a q => q.imp (sub a) id
  refine ⟨fun a na => ?_, ⟨?_, fun x c hx => ?_, M.fr.nsNew, M.fr.cellNew, M.fr.cellInj⟩, fun a q n => M.frN a q (sub a n), fun x d hx => ?_, fun x d hx => ?_, M.inj⟩
  · obtain ⟨o, e, t⟩ := M.live a (sub a na)
    exact ⟨o, (hs.2 a fun q => nC (q ▸ na)).trans e, t⟩
  · obtain ⟨m, hm⟩ := M.fr.ns; exact ⟨m, hm.sameBut hs lC⟩
  · obtain ⟨v, hv⟩ := M.fr.cell x c hx; exact ⟨v, hv.sameBut hs (cC x c hx)⟩
  · obtain ⟨v, hv, r⟩ := M.val x d hx
    exact ⟨v, sees x v hv, (r.same hs (.inl hN) z (ns_notCode hC)).anti fs⟩
  · obtain ⟨vs, n, xs, e0, e1, e2, e3, e4, e5⟩ := M.own x d hx
    exact ⟨vs, n, xs, e0, sees _ _ e1, (hs.2 (ad x) fun e => e5 (e ▸ hN)).trans e2, (e3.same hs (.inl hN) z).anti fs, e4, fun q => e5 (sub _ q)⟩
end
end
section
/-- what the scopes must show -/
structure CompOk (cs sc : Scope) (σ σf : St) : Prop where
  kind : cs.kind = .function
  nocell : cs.names.all (fun x => x.2 != .cell) = true
  locs : cs.names.all (fun x => x.2 != .local || cs.names.lookup x.1 == some .local) = true
  frees : cs.names.all (fun x => x.2 != .free || sc.names.lookup x.1 == some .cell) = true
  fv : ∀ y e, look σf y = some e → ∃ d, e = (.py d, false) ∧ look σ y = some (.py d, false) ∧ (y, NameKind.free) ∈ cs.names ∧ (relabelS cs sc).names.lookup y = some .cell ∧ sc.names.lookup y = some .cell
theorem sees_cellG {sc : Scope} {env : Env} {h : Heap} {x : Str} {v : Value} {c : Addr} (he : EnvIs sc env) (hk : sc.names.lookup x = some .cell) (hc : env.cells.lookup x = some c) (s : Sees env h x v) : h.IsCell c (some v) := by
  rcases s with ⟨e, _⟩ | ⟨_, c', h1, h2⟩
  · rw [he.kindOf, hk] at e; cases e
  · rw [hc] at h1; cases h1; exact h2
section
variable {u : U} {k : Nat} {sc cs : Scope} {σ σf : St} {env : Env} {N : Addr → Prop} {A : Around} {s : Shared} {tgt elt iter : Expr} {ifs : List Expr} {pos : Pos} {ds ys : List PyData}
theorem comp_block {I : Addr} {cl : List (Str × Addr)} {RR : Value → Addr → Result → Shared → Prop} (O : CompOk cs sc σ σf) (c : CompR u k (relabelS cs sc) σf tgt ifs elt ds ys) (he : EnvIs sc env) (ok : Ok A k) (wd : Wd u s.heap) (fr : FrOk u env s.heap) (lv : Live N s.heap) (lk : Look u N env s.heap σ)
    (hcl : ∀ x c, cl.lookup x = some c → env.cells.lookup x = some c) (hcl2 : ∀ x, (x, NameKind.free) ∈ cs.names → cl.lookup x = env.cells.lookup x) (it : ItRep N s.heap I ds) (hI : u.lim ≤ I) (hz : ds.length ≤ 2 ^ 20)
    (hRR : ∀ D C h' tk ws m mC, NewK s.heap D → NewK s.heap C → D ≠ C → u.lim ≤ D → u.lim ≤ C → Keeps u (fun a => a = I) s.heap h' → h'.Ns C mC → h'.get? D = some (listOf ws m) → RepPs (fun b => N b ∨ b = D) h' ws.toList ys → RR (.ref D) C (.ok .next) { s with heap := h', toks := tk }) :
    wpAny u.M A (newList []) (fun acc s₃ => wpAny u.M A (newFunctionEnv cs env.globals cl [] env.qual none .none (some env)) (fun cenv s₄ =>
      codeAny u.M A (.compStart (.ListComp elt [⟨tgt, iter, ifs, 0⟩] cs pos) 0 (.ref I) acc { cenv with scope := relabel cs env }) (RR acc cenv.locals) s₄) NoE s₃) NoE s := by
  have hcell : ∀ y ∈ cs.names, y.2 ≠ .cell := fun y hy e => by
    have := List.all_eq_true.mp O.nocell y hy
    rw [e] at this; exact absurd this (by decide)
  refine wpAny_newObj_type (wpAny_newFunctionEnv hcell (by intro y hy; simp at hy) (fun h₁ hns₁ hsb₁ => ?_) O.kind)
  dsimp only at hns₁ hsb₁ ⊢
  generalize hH2 : s.heap.push { cls := .type "list", dict := none, data := .seq ([] : List Value).toArray } = H2 at hns₁ hsb₁ ⊢
  have hC : H2.objs.size = s.heap.objs.size + 1 := by rw [← hH2, Heap.size_push]
  have hDC : s.heap.objs.size ≠ H2.objs.size := by rw [hC]; omega
  have old : ∀ b o, s.heap.get? b = some o → h₁.get? b = some o := fun b o e => hsb₁.extBut b o (by have q := Heap.lt_size e; rw [hC]; exact Nat.ne_of_lt (Nat.lt_succ_of_lt q)) (Heap.get?_push_of_some _ (hH2 ▸ Heap.get?_push_of_some _ e))
  have K1 : Keeps u Nil s.heap h₁ := .ext old
  have hD1 : h₁.get? s.heap.objs.size = some (listOf #[] 0) := hsb₁.extBut _ _ hDC (Heap.get?_push_of_some _ (hH2 ▸ Heap.get?_push_size _ rfl))
  have nD : s.heap.get? s.heap.objs.size = none := none_size _
  have nC : s.heap.get? H2.objs.size = none := Heap.get?_none_of_le (by rw [hC]; omega)
  have hDB := wd.size
  have hCB : u.lim ≤ H2.objs.size := by rw [hC]; omega
  -- the frame of the comprehension
  let cenv : Env := { newEnv cs H2.objs.size env.globals cl env.qual none .none (some env) 0 with scope := relabel cs env }
  have hloc : cenv.locals = H2.objs.size := rfl
  have hcells : cenv.cells = cl := rfl
  have hE : EnvIs (relabelS cs sc) cenv := by
    refine ⟨relabel_eq he, O.kind, he.globals, he.builtins, fun x hx => ?_⟩
    have q := mem_of_lookup hx
    obtain ⟨p, hp, e⟩ := List.mem_map.mp q
    obtain ⟨n', k'⟩ := p
    dsimp only at e
    split at e
    · rename_i hk
      cases e
      simp only [Bool.and_eq_true] at hk
      have hk1 : k' = .free := eq_of_beq hk.1.1
      subst hk1
      obtain ⟨c, hc⟩ := he.cells x (eq_of_beq hk.2)
      exact ⟨c, by rw [hcells, hcl2 x hp]; exact hc⟩
    · cases e
      exact absurd rfl (hcell _ hp)
  have fr1 := fr.step K1 fun _ _ => id
  have hF : FrOk u cenv h₁ := ⟨⟨_, hns₁⟩, fun x c hx => fr1.cell x c (hcl x c hx), hCB, fun x c hx => fr.cellNew x c (hcl x c hx), fun x y c hx hy => fr.cellInj x y c (hcl x c hx) (hcl y c hy)⟩
  have noOwn : ∀ y d, look σf y ≠ some (d, true) := fun y d hy => by
    obtain ⟨d', e, _⟩ := O.fv y _ hy
    cases e
  have fwNo : ∀ a, FW cenv a → NoLs s.heap a := by
    rintro a (rfl | ⟨x, _, hx⟩)
    · exact .none nC
    · intro vs n e
      obtain ⟨v, o, e1, e2⟩ := fr.cell x a (hcl x a hx)
      rw [e] at e1; cases e1; cases e2
  have fs : ∀ a, Full (fun a => (N a ∧ ¬ FW cenv a) ∨ a = s.heap.objs.size) (fun _ => 0) σf cenv a → N a ∨ NoLs s.heap a := by
    rintro a ((q | rfl) | q | ⟨y, d, hy, _⟩)
    · exact .inl q.1
    · exact .inr (.none nD)
    · exact .inr (fwNo a q)
    · exact (noOwn y d hy).elim
  have M : MatchS u (fun a => (N a ∧ ¬ FW cenv a) ∨ a = s.heap.objs.size) (fun _ => 0) cenv h₁ σf := by
    refine ⟨fun a q => ?_, hF, fun a q nn => ?_, fun y d hy => ?_, fun y d hy => (noOwn y d hy).elim, fun y z d e hy => (noOwn y d hy).elim⟩
    · rcases q with q | rfl
      · exact (lv.step K1) a q.1
      · exact ⟨_, hD1, tr_list⟩
    · rcases nn with nn | rfl
      · exact nn.2 q
      · exact hF.notList hD1 q.fa
    · obtain ⟨d', e, hσ, hfree, hrc, hsc⟩ := O.fv y _ hy
      cases e
      obtain ⟨v, hv, r⟩ := lk y _ hσ
      obtain ⟨c, hc⟩ := he.cells y hsc
      have cc := sees_cellG he hsc hc (hv.step fr K1 fun _ _ => id)
      exact ⟨v, .inr ⟨.inl (by rw [hE.kindOf]; exact hrc), c, by rw [hcells, hcl2 y hfree]; exact hc, cc⟩, (RepP.off r fs).step K1 fun _ => nonil⟩
  have it1 : ItRep (Full (fun a => (N a ∧ ¬ FW cenv a) ∨ a = s.heap.objs.size) (fun _ => 0) σf cenv) h₁ I ds := (it.off fs).step K1 (fun _ => nonil) id
  have loop : codeAny u.M A (.compLoop (.ListComp elt [⟨tgt, iter, ifs, 0⟩] cs pos) 0 (.ref I) (.ref s.heap.objs.size) cenv) (RR (.ref s.heap.objs.size) H2.objs.size) { s with heap := h₁, toks := s.toks + ([] : List (Str × Value)).length } := by
    refine comp_loop c noOwn cenv _ (fun _ => 0) A { s with heap := h₁, toks := s.toks + ([] : List (Str × Value)).length } I s.heap.objs.size #[] 0 [] _ hE ok (K1.wd wd) M it1 hI hD1 (.inr rfl) hDB RepPs.nil (by simpa using hz) fun h' tk ws' m' K M' hD' hr' => ?_
    obtain ⟨mC, hmC⟩ := M'.fr.ns
    refine hRR s.heap.objs.size H2.objs.size h' tk ws' m' mC (.none nD) (.none nC) hDC hDB hCB (Keeps.then (X := fun a => a = I) (K1.mono fun _ => nonil) K fun b o _ e _ q => ?_) hmC hD' (hr'.anti fun b q => ?_)
    · rcases q with rfl | q | rfl
      · rw [hloc, nC] at e; cases e
      · exact q
      · rw [nD] at e; cases e
    · rcases q with q | q
      · by_cases w : FW cenv b
        · exact .inr (.inl w)
        · exact .inl (.inl ⟨q, w⟩)
      · exact .inl (.inr q)
  exact codeAny_compStart_list loop (it1.self (s := { s with heap := h₁, toks := s.toks + ([] : List (Str × Value)).length }) loop |> up)
end
end
section
section
variable {u : U} {k : Nat} {sc cs : Scope} {σ σf : St} {tgt elt iter : Expr} {ifs : List Expr} {pos : Pos} {ds ys : List PyData}
theorem CompOk.clos {env : Env} (O : CompOk cs sc σ σf) (he : EnvIs sc env) : ∀ x, (x, NameKind.free) ∈ cs.names → ∃ c, env.cells.lookup x = some c := fun x hx => by
  have q := List.all_eq_true.mp O.frees _ hx
  have q2 : (sc.names.lookup x == some NameKind.cell) = true := by simpa using q
  exact he.cells x (eq_of_beq q2)
theorem CompOk.locals (O : CompOk cs sc σ σf) : ∀ y ∈ cs.names, y.2 = .local → cs.names.lookup y.1 = some .local := fun y hy e => by
  have q := List.all_eq_true.mp O.locs _ hy
  rw [e] at q
  exact eq_of_beq (by simpa using q)
theorem ns_nols {h : Heap} {C : Addr} {m : Str → Option Value} (x : h.Ns C m) : NoLs h C := fun vs n e => by
  obtain ⟨o, es, ep, h1, h2, _⟩ := x
  rw [e] at h1; cases h1; cases h2
theorem ns_notup {h : Heap} {C : Addr} {m : Str → Option Value} (x : h.Ns C m) : ∀ its n, h.get? C ≠ some (tupOf its n) := fun vs n e => by
  obtain ⟨o, es, ep, h1, h2, _⟩ := x
  rw [e] at h1; cases h1; cases h2
theorem EvFr.comp (O : CompOk cs sc σ σf) (ti : IterT u k sc σ iter ds) (c : CompR u k (relabelS cs sc) σf tgt ifs elt ds ys) (hz : ds.length ≤ 2 ^ 20) (hs : ∀ env x, EnvIs sc env → foldedSetIterable iter env x = pure x := by intros; rfl) :
    EvFr u k sc σ (.ListComp elt [⟨tgt, iter, ifs, 0⟩] cs pos) ys := fun env N A s Q H h => by
  obtain ⟨cl, e1, e2, e3⟩ := closure_of (scope := cs) (env := env) (O.clos H.is)
  rw [eval_ListComp]
  refine wpAny_comprehension_free (use := none) rfl (fun x => hs env x H.is) e1 O.kind O.locals (ti env N A s _ H fun I h1 t1 k1 n1 z1 i1 => ?_)
  have H1 := H.step k1
  refine comp_block (s := { s with heap := h1, toks := t1 }) (RR := fun acc C => compPost u.M A NoE none Q acc C) O c H1.is H1.ok H1.wd H1.fr H1.live H1.lk e2 e3 i1 z1 hz fun D C h' tk ws m mC nD nC ne dB cB K hC hD hr => ?_
  refine ⟨mC, hC, fun h'' hs'' => ?_⟩
  have kT : Keeps u Nil s.heap h' := Keeps.then (X := Nil) k1 K fun b o kp e _ q => (n1 o (q ▸ e) kp).elim
  have kF := kT.drop hs'' (goneK k1 nC) cB (ns_notCode hC)
  refine h D ws m h'' tk kF (goneK k1 nD).new dB ((hs''.2 D ne).trans hD) ?_
  have r1 : RepPs (fun b => (N b ∨ b = D) ∨ b = C) h' ws.toList ys := hr.off fun b q => q.elim (fun q => .inl q) fun e => .inr (by subst e; exact ns_nols hC)
  exact (r1.same hs'' (.inr rfl) (ns_notup hC)).anti fun b q => .inl q
theorem MatchS.addNew {N : Addr → Prop} {ad : Str → Addr} {env : Env} {h h' : Heap} {C : Addr} (M : MatchS u N ad env h σ) (k : Keeps u Nil h h') (hC : New h C) (hl : ∃ o, h'.get? C = some o ∧ Tr o) : MatchS u (fun a => N a ∨ a = C) ad env h' σ := by
  have M1 := M.step k
  have fs : ∀ a, Full (fun a => N a ∨ a = C) ad σ env a → Full N ad σ env a ∨ New h a := fun a q => by
    rcases q with (q | rfl) | q
    · exact .inl (.inl q)
    · exact .inr hC
    · exact .inl (.inr q)
  refine ⟨fun a q => q.elim (M1.live a) fun e => e ▸ hl, M1.fr, fun a q n => n.elim (M1.frN a q) fun e => ?_, fun x d hx => ?_, fun x d hx => ?_, M.inj⟩
  · obtain ⟨o, e1, t, _⟩ := M.fr.aliveFA q.fa
    exact hC o (e ▸ e1) t
  · obtain ⟨v, hv, r⟩ := M.val x d hx
    exact ⟨v, hv.step M.fr k fun _ _ => id, (r.fresh fs).step k fun _ => nonil⟩
  · obtain ⟨vs, n, xs, e0, e1, e2, e3, e4, e5⟩ := M.own x d hx
    exact ⟨vs, n, xs, e0, e1.step M.fr k fun _ _ => id, k.old _ _ e2 kp_list id, (e3.fresh fs).step k fun _ => nonil, e4, fun q => q.elim e5 fun e => hC _ (e ▸ e2) tr_list⟩
/-- y = [comprehension], where the text's own road hands the list on before the names go -/
theorem StT.assignC {y : Str} {py spos : Pos} (O : CompOk cs sc σ σf) (ti : IterT u k sc σ iter ds) (c : CompR u k (relabelS cs sc) σf tgt ifs elt ds ys) (hz : ds.length ≤ 2 ^ 20) (hk : canStore sc y = true)
    (hsw : ∀ env, EnvIs sc env → swapsWith (.ListComp elt [⟨tgt, iter, ifs, 0⟩] cs pos) (some (.Name y py)) spos.line env = pure true := by rintro ⟨sc', _, _, _, _, _, _, _, _⟩ he; have h9 : sc' = _ := he.scope; subst h9; rfl)
    (hs : ∀ env x, EnvIs sc env → foldedSetIterable iter env x = pure x := by intros; rfl) :
    StT u k sc σ (.Assign [.Name y py] (.ListComp elt [⟨tgt, iter, ifs, 0⟩] cs pos) spos) .next ((y, (Ls ys, false)) :: σ) := fun env N ad A s Q he ok wd M h => by
  obtain ⟨cl, e1, e2, e3⟩ := closure_of (scope := cs) (env := env) (O.clos he)
  rw [exec_Assign_Name_used _ _ _ _ (hsw env he)]
  refine wpAny_bind (wpAny_standAt (wpAny_bind ?_))
  show wpAny _ A (do let _ ← comprehension (.ListComp elt [⟨tgt, iter, ifs, 0⟩] cs pos) cs env _ (newList []) false (eval iter env) (some (PySem.assign (.Name y py) env))) _ _ s
  have H := M.here he ok wd
  refine wpAny_bind (wpAny_mono (wpAny_comprehension_free (use := some (PySem.assign (.Name y py) env)) (Q := fun _ s' => Q .next s') rfl (fun x => hs env x he) e1 O.kind O.locals (ti env _ A s _ H fun I h1 t1 k1 n1 z1 i1 => ?_)) (fun _ s' hq => wpAny_pure (wpAny_pure hq)) fun _ _ e => e)
  have H1 := H.step k1
  refine comp_block (s := { s with heap := h1, toks := t1 }) (RR := fun acc C => compPost u.M A NoE (some (PySem.assign (.Name y py) env)) (fun _ s' => Q .next s') acc C) O c H1.is H1.ok H1.wd H1.fr H1.live H1.lk e2 e3 i1 z1 hz fun D C h' tk ws m mC nD nC ne dB cB K hC hD hr => ?_
  have kT : Keeps u Nil s.heap h' := Keeps.then (X := Nil) k1 K fun b o kp e _ q => (n1 o (q ▸ e) kp).elim
  have nC0 := goneK k1 nC
  have nD0 := goneK k1 nD
  obtain ⟨oC, gC, _, trC, _⟩ := ns_get hC
  have M' := M.addNew kT nC0.new ⟨oC, gC, trC⟩
  have dF : ¬ Full (fun a => N a ∨ a = C) ad σ env D := fun q => by
    rcases q with (q | q) | q | ⟨x, d, hx, q⟩
    · obtain ⟨o, e, t⟩ := M.live D q
      exact nD0.new o e t
    · exact ne q
    · obtain ⟨o, e, t, _⟩ := M.fr.aliveFA q.fa
      exact nD0.new o e t
    · obtain ⟨vs, n, xs, _, _, g, _⟩ := M.own x d hx
      exact nD0.new _ (q ▸ g) tr_list
  have rD : Rep u (Full (fun a => N a ∨ a = C) ad σ env) h' (.ref D) (Ls ys) := RepP.list_mk hD dF (hr.off fun b q => by
    rcases q with (q | rfl) | q
    · exact .inl (.inl (.inl q))
    · exact .inr (ns_nols hC)
    · exact .inl (.inl (.inr q)))
  show wpAny _ A (PySem.assign (.Name y py) env (.ref D)) _ _ _
  refine wpAny_assign_Name (store_use (s := { s with heap := h', toks := tk }) hk he M' rD fun h2 t2 k2 M2 => ?_)
  have hC2 : h2.Ns C mC := ns_step hC k2 fun q => by
    obtain ⟨o, e, t, _⟩ := M.fr.aliveFA q.fa
    exact nC0.new o e t
  refine ⟨mC, hC2, fun h3 hs3 => ?_⟩
  have nNC : ¬ N C := fun q => by
    obtain ⟨o, e, t⟩ := M.live C q
    exact nC0.new o e t
  have M3 : MatchS u N ad env h3 ((y, (Ls ys, false)) :: σ) := M2.off (.inr rfl) hs3 hC2 (fun a q => .inl q) nNC
  have k3 : Keeps u (Mut ad σ env) s.heap h3 := ((kT.mono fun _ => nonil).trans (k2.mono fun a q => .inl q)).drop hs3 nC0 cB (ns_notCode hC2)
  exact h .next h3 t2 ad trivial k3 fun _ => ⟨fun x d hx => .inl ⟨x, d, OwnSub.refl.cons x d hx, rfl⟩, M3⟩
end
end
section
open PySem.Builtin.Str (partsBetween occurrences)
section
variable {u : U} {k : Nat} {sc : Scope} {σ : St} {pos p ap cp : Pos} {e : Expr} {x : Str}
theorem strs_rep {N : Addr → Prop} {h : Heap} : ∀ (l : List (Str × Tok)), RepPs N h (strValues l) ((l.map (·.1)).map .str)
  | [] => .nil
  | (y, t) :: l => .cons (RepP.str y t) (strs_rep l)
/-- x.split(e) -/
theorem EvT.split {a y : Str} (hx : look σ x = some (S a, false)) (t : EvT u k sc σ e (S y)) (hy : (y.length == 0) = false) (hz : a.length + 2 ≤ sizeLine) (hp : plainE e = true := by rfl)
    (hline : (ap.endLine == cp.line) = true := by rfl)
    (hd : (x == ("__debug__" : Str)) = false := by decide) (hc : (x == ("__classdict__" : Str)) = false := by decide) :
    EvT u k sc σ (.Call (.Attribute (.Name x p) "split" ap) [e] [] cp) (Ls ((Txt.split a y).map .str)) :=
  EvT.mk fun env N A s Q H h => by
    obtain ⟨v, hv, r⟩ := H.lk x _ hx
    obtain ⟨tt, rfl⟩ := RepP.str_inv r
    refine wpAny_Call_method_lateS rfl (by rw [starEach_plain hp]; rfl) hline (sees_name H.is hv ?_ hd hc)
    refine ⟨"str", _, PySem.F.plainAttrs_str, PySem.F.slot_str_split, PySem.F.type_str_split, typeIs_str _ _ _, (fun _ e => nomatch e), ?_⟩
    refine Calls.callWith_builtin (noStar (by simp [hp])) (evalArgs_use (EvTs.cons t .nil) (by simp [hp]) H fun vs h1 t1 k1 H1 r1 => ?_)
    obtain ⟨w, rfl, rw1⟩ := RepVs.inv1 r1
    obtain ⟨t2, rfl⟩ := RepP.str_inv rw1
    have hn : (partsBetween a (occurrences a y 0 a.length (a.length + 1)) y.length).length ≤ sizeLine := by
      have e1 := StrLaws.occ_length_le a y 0 a.length (a.length + 1)
      rw [PySem.length_partsBetween]; omega
    have fin : ∀ (l : List (Str × Tok)) (tk : Nat), l.map (·.1) = Txt.split a y → Q (.ref h1.objs.size) { s with toks := tk, heap := h1.push { cls := .type "list", data := .seq (strValues l).toArray } } := fun l tk hl => by
      refine h _ _ tk (k1.trans (.push _ _)) ?_
      have nN : ¬ N h1.objs.size := fun z => by
        obtain ⟨o, e, _⟩ := H1.live _ z
        exact absurd (Heap.lt_size e) (Nat.lt_irrefl _)
      have rr := strs_rep (N := N) (h := h1.push { cls := .type "list", data := .seq (strValues l).toArray }) l
      rw [hl] at rr
      exact RepP.list_mk (vs := (strValues l).toArray) (n := 0) (Heap.get?_push_size _ rfl) nN (by simpa using rr)
    cases h1' : (decide (a.length < y.length) || decide (PySem.Builtin.Str.strKind a < PySem.Builtin.Str.strKind y))
    · cases hf : (occurrences a y 0 a.length (a.length + 1)).isEmpty
      · refine call_meets PySem.F.slot_str_split (typeIs_str _ _ _) PySem.F.entry_str_split (PySem.F.args_str_split_2 _ _) (meets_str_split_sep a y tt t2 h1' hy hf (by omega) hn) ?_
        have := fin (numbered t1 (partsBetween a (occurrences a y 0 a.length (a.length + 1)) y.length)) (t1 + (partsBetween a (occurrences a y 0 a.length (a.length + 1)) y.length).length) ((numbered_texts _ _).trans ((if_neg (ne_true_of_eq_false h1')).trans (if_neg (ne_true_of_eq_false hf))).symm)
        rw [← strsFrom_eq] at this
        exact this
      · exact call_meets PySem.F.slot_str_split (typeIs_str _ _ _) PySem.F.entry_str_split (PySem.F.args_str_split_2 _ _) (meets_str_split_not_found a y tt t2 h1' hy hf)
          (fin [(a, tt)] t1 ((if_neg (ne_true_of_eq_false h1')).trans (if_pos hf)).symm)
    · exact call_meets PySem.F.slot_str_split (typeIs_str _ _ _) PySem.F.entry_str_split (PySem.F.args_str_split_2 _ _) (meets_str_split_cannot_occur a y tt t2 h1')
        (fin [(a, tt)] t1 (if_pos h1').symm)
end
end
section
set_option maxRecDepth 100000
open PySem.F PySem.Builtin PySem.Builtin.Re PySem.Builtin.Str
/-- the machine, run by turns, n turns at most -/
noncomputable def drv : Nat → Sre.M → Option Sre.M
  | 0, _ => none
  | n + 1, m => let m' := m.runFor reTurnSteps; if m'.outcome.isSome then some m' else drv n m'
noncomputable def runEnd (m : Sre.M) : Option (Option Sre.M) :=
  match drv 2000 m with
  | some m' => match m'.outcome with
    | some .matched => some (some m')
    | some .failed => some none
    | _ => none
  | none => none
noncomputable def joinT : List Str → Str
  | [x] => x
  | l => glued ⟨#[]⟩ l
noncomputable def subEnd (acc : List Str) : Option Str :=
  if tooLong (acc.toArray.foldl (· + ·.length + (⟨#[]⟩ : Str).length) 0) then none else
  if acc.isEmpty then some ⟨#[]⟩ else if (joinT acc).length ≤ sizeLine then some (joinT acc) else none
noncomputable def cut (x : Str) (a b : Nat) : Str := ⟨x.cps.extract a b⟩
noncomputable def subRun (code : Array Nat) (x y : Str) : Nat → Nat → Bool → List Str → Option Str
  | 0, _, _, _ => none
  | n + 1, start, must, acc =>
    match runEnd (Sre.forSearch code x.cps 0 start x.cps.size must) with
    | none => none
    | some (some m) => subRun code x y n m.handed (m.handed == m.start) ((if start < m.start then acc ++ [cut x start m.start] else acc) ++ [y])
    | some none => subEnd (if start < x.cps.size then acc ++ [cut x start x.cps.size] else acc)
section
variable {prog : Program} {w : World} {A : Around} {E : Value → Shared → Prop} {s : Shared}
theorem drv_wp {m' : Sre.M} {Q : Sre.M → Shared → Prop} : ∀ (n N : Nat) (m : Sre.M), n ≤ N → drv n m = some m' → Q m' s → wpAny (model prog w) A (reDrive N m) Q E s := by
  intro n
  induction n with
  | zero => intro N m _ h _; cases h
  | succ n ih =>
    intro N m hn h hq
    obtain ⟨N', rfl⟩ : ∃ N', N = N' + 1 := ⟨N - 1, by omega⟩
    unfold reDrive
    unfold drv at h
    by_cases c : (m.runFor reTurnSteps).outcome.isSome = true
    · simp only [c, if_true] at h ⊢
      cases h
      exact wpAny_pure hq
    · simp only [c] at h ⊢
      exact wpAny_bind (wpAny_rule (ih N' _ (by omega) h hq))
theorem rules_wp {β : Type} {b : β → Bool} {g : β → String} {Q : PUnit → Shared → Prop} (l : List β) (h : Q ⟨⟩ s) :
    wpAny (model prog w) A (forIn l PUnit.unit fun i _ => do
      if b i then rule (g i)
      pure (ForInStep.yield PUnit.unit)) Q E s := by
  induction l with
  | nil => exact wpAny_pure h
  | cons i l ih =>
    rw [List.forIn_cons]
    refine wpAny_bind ?_
    cases b i
    · exact wpAny_pure ih
    · exact wpAny_bind (wpAny_rule (wpAny_pure ih))
theorem runEnd_wp {m : Sre.M} {r : Option Sre.M} {Q : Option Sre.M → Shared → Prop} (h : runEnd m = some r) (hq : Q r s) : wpAny (model prog w) A (reRunToEnd m) Q E s := by
  unfold runEnd at h
  cases hd : drv 2000 m with
  | none => rw [hd] at h; cases h
  | some m' =>
    rw [hd] at h
    unfold reRunToEnd
    refine wpAny_bind (drv_wp 2000 _ m (by decide) hd ?_)
    refine wpAny_bind (rules_wp _ ?_)
    dsimp only at h
    cases ho : m'.outcome with
    | none => rw [ho] at h; cases h
    | some o =>
      rw [ho] at h
      cases o with
      | matched => cases h; exact wpAny_pure hq
      | failed => cases h; exact wpAny_pure hq
      | stuck why => cases h
/-- a pattern for text, without groups, lies at P: its words -/
noncomputable def PatAt (h : Heap) (P : Addr) (code : Array Nat) : Prop := ∃ o fs ct vs n, h.get? P = some o ∧ (o.cls = .type "re.Pattern" ∧ o.dict = none) ∧ o.data = .fields fs ∧ reRawNat (fs.getD 6 .none) = 0 ∧
  fs.getD 5 .none = .ref ct ∧ h.get? ct = some (tupOf vs n) ∧ (vs.map reRawOf).map (·.toNat) = code ∧ reRawNat (fs.getD 2 .none) = 0
theorem PatAt.ext {h h' : Heap} {P : Addr} {code : Array Nat} (p : PatAt h P code) (k : ∀ b o, h.get? b = some o → h'.get? b = some o) : PatAt h' P code := by
  obtain ⟨o, fs, ct, vs, n, h1, h2, h3, h4, h5, h6, h7⟩ := p
  exact ⟨o, fs, ct, vs, n, k _ _ h1, h2, h3, h4, h5, k _ _ h6, h7⟩
theorem whole_wp {P : Addr} {code : Array Nat} {x : Str} {t : Tok} {Q : ReTarget → Shared → Prop} (p : PatAt s.heap P code)
    (h : Q { pattern := .ref P, string := .str x t, code := code, text := x.cps, kind := 0, groups := 0, pos := 0, lim := x.cps.size } s) :
    wpAny (model prog w) A (reWholeTarget (.ref P) (.str x t)) Q E s := by
  obtain ⟨o, fs, ct, vs, n, h1, h2, h3, h4, h5, h6, h7, h8⟩ := p
  unfold reWholeTarget
  refine wpAny_bind (wpAny_fieldsOf h1 h3 ?_)
  rw [h4, h8, h5]
  show wpAny _ _ (do
    let c ← reRawItems (.ref ct)
    (pure ({ pattern := .ref P, string := .str x t, code := c.map (·.toNat), text := x.cps, kind := 0, groups := 0, pos := 0, lim := x.cps.size } : ReTarget) : Sem ReTarget)) _ _ _
  refine wpAny_bind (wpAny_bind (wpAny_seqItems h6 rfl (wpAny_pure (wpAny_pure ?_))))
  rw [← h7] at h
  exact h
theorem next_wp {T : ReTarget} {start : Nat} {must : Bool} {r : Option Sre.M} {Q : Option Sre.M → Shared → Prop} (h : runEnd (Sre.forSearch T.code T.text T.groups start T.lim must) = some r) (hq : Q r s) :
    wpAny (model prog w) A (reNextFound T start must) Q E s := runEnd_wp h hq
theorem joinT_made (l : List (Str × Tok)) (y : Str) (h : subEnd (l.map (·.1)) = some y) (hne : l ≠ []) {Q : Value → Shared → Prop} (hq : ∀ t tk, Q (.str y t) { s with toks := tk }) :
    tooLong ((l.map (·.1)).toArray.foldl (· + ·.length + (⟨#[]⟩ : Str).length) 0) = false ∧ (joinMade ⟨#[]⟩ l).post Q s := by
  unfold subEnd at h
  split at h
  · cases h
  · rename_i c
    refine ⟨by simpa using c, ?_⟩
    have e : (l.map (·.1)).isEmpty = false := by cases l with
      | nil => exact absurd rfl hne
      | cons => rfl
    rw [e] at h
    simp only [Bool.false_eq_true, if_false] at h
    split at h
    · rename_i c2
      cases h
      cases l with
      | nil => exact absurd rfl hne
      | cons p l => cases l with
        | nil => exact hq p.2 s.toks
        | cons q l => exact ⟨c2, hq _ _⟩
    · cases h
end
end
section
set_option maxRecDepth 100000
open PySem.F PySem.Builtin PySem.Builtin.Re PySem.Builtin.Str
section
variable {prog : Program} {w : World} {A : Around} {R : Result → Shared → Prop} {E : Value → Shared → Prop}
theorem PatAt.upd {h h' : Heap} {P L : Addr} {code : Array Nat} {vs : Array Value} {n : Nat} (p : PatAt h P code) (hL : h.get? L = some (listOf vs n)) (k : ∀ b o, b ≠ L → h.get? b = some o → h'.get? b = some o) : PatAt h' P code := by
  obtain ⟨o, fs, ct, vs', n', h1, h2, h3, h4, h5, h6, h7⟩ := p
  refine ⟨o, fs, ct, vs', n', k _ _ (fun e => ?_) h1, h2, h3, h4, h5, k _ _ (fun e => ?_) h6, h7⟩
  · rw [e, hL] at h1; cases h1; injection h2.1 with h2; exact absurd h2 (by decide)
  · rw [e, hL] at h6; injection h6 with h6; injection h6 with h6; injection h6 with h6; exact absurd h6 (by decide)
theorem cut_le {x : Str} (hx : x.length ≤ sizeLine) (a b : Nat) : (cut x a b).length ≤ sizeLine := by
  have : (cut x a b).length ≤ x.length := by
    show (x.cps.extract a b).size ≤ x.cps.size
    rw [Array.size_extract]; omega
  omega
theorem push_wp {L : Addr} {acc : List (Str × Tok)} {c : Nat} {s : Shared} {y : Str} {t : Tok} {Q : Unit → Shared → Prop} (hL : s.heap.get? L = some (listOf (strValues acc).toArray c)) (hz : acc.length ≤ sizeLine)
    (h : ∀ h' c', h'.get? L = some (listOf (strValues (acc ++ [(y, t)])).toArray c') → (∀ b o, b ≠ L → s.heap.get? b = some o → h'.get? b = some o) → Q () { s with heap := h' }) :
    wpAny (model prog w) A (updateSeq L (·.push (.str y t))) Q E s := by
  have e : (strValues acc).toArray.size = acc.length := by simp [strValues]
  refine wpAny_updateSeq hL rfl ?_ (by omega) (by rw [Array.size_push]; omega)
  refine h _ (PySem.Obj.mapSeq (·.push (.str y t)) (listOf (strValues acc).toArray c) |>.data |> fun d => match d with | .seq _ n => n | _ => 0) ?_ fun b o hb e => (Heap.get?_update_other _ _ (fun h : L = b => hb h.symm)).trans e
  rw [Heap.get?_update_self _ hL rfl]
  simp [Obj.mapSeq, strValues]
noncomputable def subMore (P L : Addr) (x y : Str) (t t' : Tok) (n : Int) (m : Sre.M) : Sem Fin := do
  updateSeq L (·.push (.str y t'))
  again (.builtin "re.Pattern.sub.loop" ⟨[.ref P, .str x t, .str y t', rawInt 0, rawInt 0, rawInt (n + 1), rawInt m.handed, rawInt m.handed, .bool (m.handed == m.start), .ref L, .bool false], []⟩)
noncomputable def subJoin (T : ReTarget) (L : Addr) : Sem Fin := do
  let joiner ← reSlice T.text T.kind 0 0
  let text ← if ((← seqItems? (.ref L)).getD #[]).isEmpty then pure joiner
      else call (.builtin (if T.kind == 0 then "str.join" else "bytes.join")) [joiner, .ref L]
  ret text
theorem sub_tree (P L : Addr) (x y : Str) (t t' : Tok) (n d : Int) (must : Bool) :
    «re.Pattern.sub.loop» ⟨[.ref P, .str x t, .str y t', rawInt 0, rawInt 0, rawInt n, rawInt d, rawInt d, .bool must, .ref L, .bool false], []⟩ = (do
      let T ← reWholeTarget (.ref P) (.str x t)
      let r ← reNextFound T d.toNat must
      match r with
      | some m =>
        if d.toNat < m.start then (do
          let v ← reSlice T.text T.kind d.toNat m.start
          updateSeq L (·.push v)
          subMore P L x y t t' n m)
        else subMore P L x y t t' n m
      | none =>
        if d.toNat < T.lim then (do
          let v ← reSlice T.text T.kind d.toNat T.lim
          updateSeq L (·.push v)
          subJoin T L)
        else subJoin T L) := rfl
end
end
section
set_option maxRecDepth 100000
open PySem.F PySem.Builtin PySem.Builtin.Re PySem.Builtin.Str
section
variable {prog : Program} {w : World} {A : Around} {R : Result → Shared → Prop} {E : Value → Shared → Prop}
noncomputable abbrev finQ (prog : Program) (w : World) (A : Around) (R : Result → Shared → Prop) : Fin → Shared → Prop := fun fin s' => match fin with | .done f => R (.ok f) s' | .again c' => c'.quiet = true ∧ codeAny (model prog w) A c' R s'
noncomputable abbrev finE (R : Result → Shared → Prop) : Value → Shared → Prop := fun e s' => R (.error e) s'
theorem slice_wp {x : Str} {a b : Nat} {s : Shared} {Q : Value → Shared → Prop} (hx : x.length ≤ sizeLine) (h : ∀ t tk, Q (.str (cut x a b) t) { s with toks := tk }) : wpAny (model prog w) A (reSlice x.cps 0 a b) Q E s :=
  wpAny_mkStr (h _ _) (cut_le hx a b)
theorem join_wp {A' : Around} {L : Addr} {x : Str} {acc : List (Str × Tok)} {s : Shared} {c : Nat} {z : Str} {T : ReTarget} (hT : T.text = x.cps) (hk : T.kind = 0) (hx : x.length ≤ sizeLine) (h : subEnd (acc.map (·.1)) = some z)
    (hL : s.heap.get? L = some (listOf (strValues acc).toArray c)) (hR : ∀ u tk, R (.ok (.ret (.str z u))) { s with toks := tk }) :
    wpAny (model prog w) A (subJoin T L) (finQ prog w A' R) (finE R) s := by
  unfold subJoin
  rw [hT, hk]
  refine wpAny_bind (slice_wp hx fun t tk => ?_)
  refine wpAny_bind (wpAny_seqItems (s := { s with toks := tk }) hL rfl ?_)
  have e0 : cut x 0 0 = ⟨#[]⟩ := by unfold cut; simp
  rw [e0]
  by_cases hn : acc = []
  · subst hn
    have : z = ⟨#[]⟩ := by
      unfold subEnd at h
      split at h
      · cases h
      · simpa using h.symm
    subst this
    exact wpAny_pure (hR _ _)
  · have e1 : ((some (strValues acc).toArray).getD #[]).isEmpty = false := by
      cases acc with
      | nil => exact absurd rfl hn
      | cons p l => rfl
    rw [e1]
    have jm := joinT_made (s := { s with toks := tk }) acc z h hn (Q := fun v s' => wpAny (model prog w) A (ret v) (finQ prog w A' R) (finE R) s') (fun t tk => wpAny_pure (hR t tk))
    refine wpAny_bind (call_meets (Q := fun v s' => wpAny (model prog w) A (ret v) (finQ prog w A' R) (finE R) s') slot_str_join (typeIs_str _ _ _) entry_str_join (args_str_join_2 _ _) (meets_str_join_list ⟨#[]⟩ t L acc jm.1) ⟨⟨_, hL, rfl, c, rfl⟩, ?_⟩)
    exact jm.2
theorem sub_loop {P L : Addr} {code : Array Nat} {x y : Str} {t t' : Tok} (hx : x.length ≤ sizeLine) : ∀ (fuel start n : Nat) (must : Bool) (acc : List (Str × Tok)) (s : Shared) (c : Nat) (z : Str),
    subRun code x y fuel start must (acc.map (·.1)) = some z → PatAt s.heap P code → s.heap.get? L = some (listOf (strValues acc).toArray c) → acc.length + 2 * fuel + 2 ≤ sizeLine →
    (∀ h' u tk, (∀ b o, b ≠ L → s.heap.get? b = some o → h'.get? b = some o) → R (.ok (.ret (.str z u))) { s with heap := h', toks := tk }) →
    codeAny (model prog w) A (.builtin "re.Pattern.sub.loop" ⟨[.ref P, .str x t, .str y t', rawInt 0, rawInt 0, rawInt n, rawInt start, rawInt start, .bool must, .ref L, .bool false], []⟩) R s := by
  intro fuel
  induction fuel with
  | zero => intro start n must acc s c z h; cases h
  | succ fuel ih =>
    intro start n must acc s c z h hP hL hz hR
    refine codeAny_builtin entry_rp_loop ?_
    rw [Around.under_plainId plain_rp_loop, sub_tree, Int.toNat_natCast]
    refine wpAny_bind (whole_wp hP ?_)
    unfold subRun at h
    cases hr : runEnd (Sre.forSearch code x.cps 0 start x.cps.size must) with
    | none => rw [hr] at h; cases h
    | some r =>
      rw [hr] at h
      refine wpAny_bind (next_wp (r := r) hr ?_)
      cases r with
      | some m =>
        dsimp only at h ⊢
        have fin : ∀ (acc' : List (Str × Tok)) (s' : Shared) (c' : Nat), acc'.map (·.1) = (if start < m.start then acc.map (·.1) ++ [cut x start m.start] else acc.map (·.1)) → acc'.length ≤ acc.length + 1 → s'.heap.get? L = some (listOf (strValues acc').toArray c') → PatAt s'.heap P code →
            (∀ b o, b ≠ L → s.heap.get? b = some o → s'.heap.get? b = some o) → (∃ h' tk, s' = { s with heap := h', toks := tk }) →
            wpAny (model prog w) A.in1 (subMore P L x y t t' n m) (finQ prog w A R) (finE R) s' := by
          intro acc' s' c' ha hl hL' hP' hk ⟨h', tk, e⟩
          subst e
          unfold subMore
          refine wpAny_bind (push_wp hL' (by omega) fun h2 c2 e2 k2 => ?_)
          refine wpAny_pure ⟨plainId_quiet plain_rp_loop _, ?_⟩
          refine ih m.handed (n + 1) (m.handed == m.start) (acc' ++ [(y, t')]) _ c2 z ?_ (hP'.upd hL' k2) e2 (by simp; omega) fun h3 u tk3 k3 => ?_
          · rw [List.map_append, ha]; exact h
          · exact hR h3 u tk3 fun b o hb e => k3 b o hb (k2 b o hb (hk b o hb e))
        by_cases c1 : start < m.start
        · simp only [c1, if_true] at fin ⊢
          refine wpAny_bind (slice_wp hx fun t1 tk => ?_)
          refine wpAny_bind (push_wp (s := { s with toks := tk }) hL (by omega) fun h2 c2 e2 k2 => ?_)
          exact fin (acc ++ [(cut x start m.start, t1)]) _ c2 (by simp) (by simp) e2 (hP.upd hL k2) k2 ⟨h2, tk, rfl⟩
        · simp only [c1, if_false] at fin ⊢
          exact fin acc s c rfl (by omega) hL hP (fun _ _ _ e => e) ⟨s.heap, s.toks, rfl⟩
      | none =>
        dsimp only at h ⊢
        by_cases c1 : start < x.cps.size
        · simp only [c1, if_true] at h ⊢
          refine wpAny_bind (slice_wp hx fun t1 tk => ?_)
          refine wpAny_bind (push_wp (s := { s with toks := tk }) hL (by omega) fun h2 c2 e2 k2 => ?_)
          refine join_wp (s := { s with heap := h2, toks := tk }) (T := { pattern := .ref P, string := .str x t, code := code, text := x.cps, kind := 0, groups := 0, pos := 0, lim := x.cps.size }) rfl rfl hx (acc := acc ++ [(cut x start x.cps.size, t1)]) (by simpa using h) e2 fun u tk' => hR h2 u tk' k2
        · simp only [c1, if_false] at h ⊢
          exact join_wp (T := { pattern := .ref P, string := .str x t, code := code, text := x.cps, kind := 0, groups := 0, pos := 0, lim := x.cps.size }) rfl rfl hx h hL fun u tk' => hR s.heap u tk' fun _ _ _ e => e
end
end
section
set_option maxRecDepth 100000
open PySem.F PySem.Builtin PySem.Builtin.Re PySem.Builtin.Str
noncomputable def subStart (P : Addr) (x y : Str) (t t' : Tok) : Sem Fin := do
  let _ ← holding [.str y t'] (reWholeTarget (.ref P) (.str x t))
  let l ← newList []
  again (.builtin "re.Pattern.sub.loop" ⟨[.ref P, .str x t, .str y t', rawInt 0, rawInt 0, rawInt 0, rawInt 0, rawInt 0, .bool false, l, .bool false], []⟩)
theorem named_sub (a b : Value) : reNamed "re.Pattern.sub" "sub" ["repl", "string", "count"] 2 [a, b] [] = pure [some a, some b, none] := rfl
noncomputable def subP (code : Array Nat) (x y : Str) : Option Str := if x.length ≤ sizeLine then subRun code x y 1000 0 false [] else none
section
variable {prog : Program} {w : World} {A : Around} {E : Value → Shared → Prop} {s : Shared}
theorem rp_typeIs {P : Addr} {code : Array Nat} (p : PatAt s.heap P code) : s.TypeIs (.ref P) "re.Pattern" := by
  obtain ⟨o, fs, ct, vs, n, h1, h2, _⟩ := p
  exact ⟨o, h1, h2.1⟩
/-- P.sub(y, x) -/
theorem call_sub {P : Addr} {code : Array Nat} {x y z : Str} {t t' : Tok} {Q : Value → Shared → Prop} (hy : y.cps.contains 92 = false) (p : PatAt s.heap P code) (hz : subP code x y = some z)
    (hQ : ∀ h' u tk, (∀ b o, s.heap.get? b = some o → h'.get? b = some o) → Q (.str z u) { s with heap := h', toks := tk }) :
    wpAny (model prog w) A (call (.builtin "re.Pattern.sub") [.ref P, .str y t', .str x t]) Q E s := by
  unfold subP at hz
  split at hz
  case isFalse => cases hz
  case isTrue hx =>
  refine call_meets (S := fun A R s' => s' = s ∧ ∀ h' u tk, (∀ b o, s.heap.get? b = some o → h'.get? b = some o) → R (.ok (.ret (.str z u))) { s with heap := h', toks := tk }) slot_rp_sub (rp_typeIs p) entry_rp_sub (args_rp_sub_3 _ _ _) (fun prog w A R s' hs => ?_) ⟨rfl, fun h' u tk k => hQ h' u tk k⟩
  obtain ⟨rfl, hR⟩ := hs
  unfold «re.Pattern.sub» reSubstitute
  refine wpAny_bind (wpAny_of_eq (named_sub _ _) ?_)
  refine wpAny_bind (wpAny_pure ?_)
  refine wpAny_bind (wpAny_specialOf (typeIs_str _ _ _) call_str ?_)
  refine wpAny_bind (wpAny_bind (wpAny_pure (wpAny_pure ?_)))
  simp only [hy, Option.isSome_none, Bool.false_eq_true, if_false, Bool.not_false, if_true]
  show wpAny _ _ (subStart P x y t t') _ _ _
  unfold subStart
  refine wpAny_bind (wpAny_holding (whole_wp p ?_))
  refine wpAny_bind (wpAny_newList ?_)
  refine wpAny_pure ⟨plainId_quiet plain_rp_loop _, ?_⟩
  refine sub_loop hx 1000 0 0 false [] _ 0 z hz (p.ext fun b o e => Heap.get?_push_of_some _ e) (Heap.get?_push_size _ rfl) (by simp [sizeLine]) fun h' u tk k => ?_
  exact hR h' u tk fun b o e => k b o (Nat.ne_of_lt (Heap.lt_size e)) (Heap.get?_push_of_some _ e)
end
end
/-- f is the function that the text's statement i makes; no defaults -/
noncomputable def Fn (u : U) (f : Str) (i : Nat) : Prop := ∃ a doc pm an cd ct, FnAt u f a (fnX f f (paramsAt i) (bodyAt i) (scopeAt i) [] .none .none doc pm an cd ct)
noncomputable def Has (u : U) (f : Str) : Prop := ∃ a fd, FnAt u f a fd
theorem Fn.has {u : U} {f : Str} {i : Nat} (F : Fn u f i) : Has u f := let ⟨a, _, _, _, _, _, F⟩ := F; ⟨a, _, F⟩
section
variable {u : U} {k : Nat} {sc : Scope} {σ σ' : St} {pos p kp : Pos} {e : Expr} {f : Str} {i : Nat} {fl : Fl} {d : Vd}
theorem EvT.callF {es : List Expr} {ds : List Vd} (F : Has u f) (ts : EvTs u k sc σ es ds) (c : CaT u k f ds [] [] d) (hx : sc.names.lookup f = some .globalImplicit := by rfl)
    (hp : es.all plainE = true := by rfl) (hd : (f == ("__debug__" : Str)) = false := by decide) : EvT u k sc σ (.Call (.Name f p) es [] pos) d :=
  let ⟨_, _, F⟩ := F; EvT.call F hx ts c hp hd
theorem CaT.fn1 {n1 : Str} {a1 : Vd} (F : Fn u f i) (body : ExT u k (scopeAt i) [(n1, (a1, false))] (bodyAt i) fl σ') (g : Gives fl d)
    (hb : ∀ doc pm an cd ct v1, bindArgs (fnX f f (paramsAt i) (bodyAt i) (scopeAt i) [] .none .none doc pm an cd ct) ⟨[v1], []⟩ = pure [(n1, v1)] := by intros; rfl)
    (hk : (scopeAt i).kind = .function := by rfl) (hco : (scopeAt i).isCoroutine = false := by rfl) (hgen : (scopeAt i).isGenerator = false := by rfl)
    (st : [n1].all (canStore (scopeAt i)) = true := by rfl) (nd : [n1].Nodup := by decide) : CaT u (k + 1) f [a1] [] [] d := by
  obtain ⟨a, doc, pm, an, cd, ct, F⟩ := F
  refine CaT.of_body (ps := [(n1, a1)]) F rfl rfl rfl hk hco hgen (fun N s vs kvs wd r1 r2 => ?_) nd (by simpa using st) body g
  obtain ⟨v, rfl, q1⟩ := RepVs.inv1 r1
  exact ⟨_, .of_eq (hb ..), rfl, q1, trivial⟩
theorem CaT.fn2 {n1 n2 : Str} {a1 a2 : Vd} (F : Fn u f i) (body : ExT u k (scopeAt i) [(n1, (a1, false)), (n2, (a2, false))] (bodyAt i) fl σ') (g : Gives fl d)
    (hb : ∀ doc pm an cd ct v1 v2, bindArgs (fnX f f (paramsAt i) (bodyAt i) (scopeAt i) [] .none .none doc pm an cd ct) ⟨[v1, v2], []⟩ = pure [(n1, v1), (n2, v2)] := by intros; rfl)
    (hk : (scopeAt i).kind = .function := by rfl) (hco : (scopeAt i).isCoroutine = false := by rfl) (hgen : (scopeAt i).isGenerator = false := by rfl)
    (st : [n1, n2].all (canStore (scopeAt i)) = true := by rfl) (nd : [n1, n2].Nodup := by decide) : CaT u (k + 1) f [a1, a2] [] [] d := by
  obtain ⟨a, doc, pm, an, cd, ct, F⟩ := F
  refine CaT.of_body (ps := [(n1, a1), (n2, a2)]) F rfl rfl rfl hk hco hgen (fun N s vs kvs wd r1 r2 => ?_) nd (by simpa using st) body g
  obtain ⟨v, v', rfl, q1, q2⟩ := RepVs.inv2 r1
  exact ⟨_, .of_eq (hb ..), rfl, q1, rfl, q2, trivial⟩
theorem RepVs.invc {N : Addr → Prop} {h : Heap} {vs : List Value} {d : Vd} {ds : List Vd} (r : RepVs u N h vs (d :: ds)) : ∃ v ws, vs = v :: ws ∧ Rep u N h v d ∧ RepVs u N h ws ds := by
  match vs, r with
  | v :: ws, r => exact ⟨v, ws, rfl, r.1, r.2⟩
theorem CaT.fn3 {n1 n2 n3 : Str} {a1 a2 a3 : Vd} (F : Fn u f i) (body : ExT u k (scopeAt i) [(n1, (a1, false)), (n2, (a2, false)), (n3, (a3, false))] (bodyAt i) fl σ') (g : Gives fl d)
    (hb : ∀ doc pm an cd ct v1 v2 v3, bindArgs (fnX f f (paramsAt i) (bodyAt i) (scopeAt i) [] .none .none doc pm an cd ct) ⟨[v1, v2, v3], []⟩ = pure [(n1, v1), (n2, v2), (n3, v3)] := by intros; rfl)
    (hk : (scopeAt i).kind = .function := by rfl) (hco : (scopeAt i).isCoroutine = false := by rfl) (hgen : (scopeAt i).isGenerator = false := by rfl)
    (st : [n1, n2, n3].all (canStore (scopeAt i)) = true := by rfl) (nd : [n1, n2, n3].Nodup := by decide) : CaT u (k + 1) f [a1, a2, a3] [] [] d := by
  obtain ⟨a, doc, pm, an, cd, ct, F⟩ := F
  refine CaT.of_body (ps := [(n1, a1), (n2, a2), (n3, a3)]) F rfl rfl rfl hk hco hgen (fun N s vs kvs wd r1 r2 => ?_) nd (by simpa using st) body g
  obtain ⟨v1, ws, rfl, q1, r1⟩ := RepVs.invc r1
  obtain ⟨v2, v3, rfl, q2, q3⟩ := RepVs.inv2 r1
  exact ⟨_, .of_eq (hb ..), rfl, q1, rfl, q2, rfl, q3, trivial⟩
theorem CaT.fn6 {n1 n2 n3 n4 n5 n6 : Str} {a1 a2 a3 a4 a5 a6 : Vd} (F : Fn u f i) (body : ExT u k (scopeAt i) [(n1, (a1, false)), (n2, (a2, false)), (n3, (a3, false)), (n4, (a4, false)), (n5, (a5, false)), (n6, (a6, false))] (bodyAt i) fl σ') (g : Gives fl d)
    (hb : ∀ doc pm an cd ct v1 v2 v3 v4 v5 v6, bindArgs (fnX f f (paramsAt i) (bodyAt i) (scopeAt i) [] .none .none doc pm an cd ct) ⟨[v1, v2, v3, v4, v5, v6], []⟩ = pure [(n1, v1), (n2, v2), (n3, v3), (n4, v4), (n5, v5), (n6, v6)] := by intros; rfl)
    (hk : (scopeAt i).kind = .function := by rfl) (hco : (scopeAt i).isCoroutine = false := by rfl) (hgen : (scopeAt i).isGenerator = false := by rfl)
    (st : [n1, n2, n3, n4, n5, n6].all (canStore (scopeAt i)) = true := by rfl) (nd : [n1, n2, n3, n4, n5, n6].Nodup := by decide) : CaT u (k + 1) f [a1, a2, a3, a4, a5, a6] [] [] d := by
  obtain ⟨a, doc, pm, an, cd, ct, F⟩ := F
  refine CaT.of_body (ps := [(n1, a1), (n2, a2), (n3, a3), (n4, a4), (n5, a5), (n6, a6)]) F rfl rfl rfl hk hco hgen (fun N s vs kvs wd r1 r2 => ?_) nd (by simpa using st) body g
  obtain ⟨v1, ws, rfl, q1, r1⟩ := RepVs.invc r1
  obtain ⟨v2, ws, rfl, q2, r1⟩ := RepVs.invc r1
  obtain ⟨v3, ws, rfl, q3, r1⟩ := RepVs.invc r1
  obtain ⟨v4, ws, rfl, q4, r1⟩ := RepVs.invc r1
  obtain ⟨v5, v6, rfl, q5, q6⟩ := RepVs.inv2 r1
  exact ⟨_, .of_eq (hb ..), rfl, q1, rfl, q2, rfl, q3, rfl, q4, rfl, q5, rfl, q6, trivial⟩
theorem CaT.up {args kds : List Vd} {names : List Str} {k j : Nat} (c : CaT u k f args names kds d) (h : k ≤ j) : CaT u j f args names kds d := fun N A s R a vs kvs ok wd lv hm r1 r2 q => c N A s R a vs kvs (ok.le h) wd lv hm r1 r2 q
theorem gives : Gives (.ret d) d := .inl rfl
end
theorem EvT.toI {u : U} {k : Nat} {sc : Scope} {σ : St} {e : Expr} {a b : Int} (t : EvT u k sc σ e (I a)) (h : a = b) : EvT u k sc σ e (I b) := h ▸ t
theorem EvT.to {u : U} {k : Nat} {sc : Scope} {σ : St} {e : Expr} {a b : Vd} (t : EvT u k sc σ e a) (h : a = b) : EvT u k sc σ e b := h ▸ t
theorem TsT.to {u : U} {k : Nat} {sc : Scope} {σ : St} {e : Expr} {a b : Bool} (t : TsT u k sc σ e a) (h : a = b) : TsT u k sc σ e b := h ▸ t
section
variable {u : U} {k : Nat} {sc : Scope} {σ : St} {e1 e2 e3 e4 e5 e6 : Expr} {d1 d2 d3 d4 d5 d6 : Vd}
theorem EvTs.of1 (a : EvT u k sc σ e1 d1) : EvTs u k sc σ [e1] [d1] := ⟨a, trivial⟩
theorem EvTs.of2 (a : EvT u k sc σ e1 d1) (b : EvT u k sc σ e2 d2) : EvTs u k sc σ [e1, e2] [d1, d2] := ⟨a, b, trivial⟩
theorem EvTs.of3 (a : EvT u k sc σ e1 d1) (b : EvT u k sc σ e2 d2) (c : EvT u k sc σ e3 d3) : EvTs u k sc σ [e1, e2, e3] [d1, d2, d3] := ⟨a, b, c, trivial⟩
theorem EvTs.of6 (a : EvT u k sc σ e1 d1) (b : EvT u k sc σ e2 d2) (c : EvT u k sc σ e3 d3) (d : EvT u k sc σ e4 d4) (e : EvT u k sc σ e5 d5) (f : EvT u k sc σ e6 d6) : EvTs u k sc σ [e1, e2, e3, e4, e5, e6] [d1, d2, d3, d4, d5, d6] := ⟨a, b, c, d, e, f, trivial⟩
theorem EvT.tup2 {a b : PyData} {j : Nat} {pos : Pos} (t1 : EvT u k sc σ e1 (.py a)) (t2 : EvT u k sc σ e2 (.py b)) (hp : [e1, e2].all plainE = true := by rfl) : EvT u k sc σ (.Tuple [e1, e2] j pos) (Tu [a, b]) := EvT.tuple (ds := [a, b]) ⟨t1, t2, trivial⟩ hp
end
theorem Sub.nil {σ : St} : Sub [] σ := fun x e h => by cases h
theorem Sub.cons {x : Str} {e : Vd × Bool} {σ σ' : St} (h : look σ x = some e) (s : Sub σ' σ) : Sub ((x, e) :: σ') σ := fun y f hy => by
  rw [look_cons] at hy
  split at hy
  · rename_i q; subst q; cases hy; exact h
  · exact s y f hy
/-- the builtins that the text asks for -/
structure Tops (u : U) : Prop where
  b : ∀ x ∈ [(("len" : Str), Value.builtin "len"), ("sum", .builtin "sum"), ("max", .builtin "max"), ("divmod", .builtin "divmod"), ("sorted", .builtin "sorted"), ("list", .type "list"), ("range", .type "range"), ("reversed", .type "reversed"), ("tuple", .type "tuple"), ("set", .type "set")], u.mg x.1 = none ∧ u.mb x.1 = some x.2
theorem Tops.bl {u : U} (T : Tops u) {sc : Scope} {f : Str} {v : Value} (h : (f, v) ∈ [(("len" : Str), Value.builtin "len"), ("sum", .builtin "sum"), ("max", .builtin "max"), ("divmod", .builtin "divmod"), ("sorted", .builtin "sorted"), ("list", .type "list"), ("range", .type "range"), ("reversed", .type "reversed"), ("tuple", .type "tuple"), ("set", .type "set")])
    (hx : sc.names.lookup f = some .globalImplicit) : Bl u sc f v := ⟨hx, (T.b _ h).1, (T.b _ h).2⟩
local macro_rules | `(tactic| walk_at "mine side") => `(tactic| (fail_if_success (show EvT _ _ _ _ _ _)); (fail_if_success (show EvTs _ _ _ _ _ _)); (fail_if_success (show TsT _ _ _ _ _ _)); (fail_if_success (show CmpR _ _ _ _ _ _)); skip)
local macro_rules | `(tactic| walk_at "mine e") => `(tactic| first
  | exact EvT.int
  | exact EvT.str
  | exact EvT.bool
  | exact EvT.nonev
  | exact EvT.name rfl
  | (refine' EvT.add ?_ ?_ <;> walk_at "mine e")
  | (refine' EvT.sub ?_ ?_ <;> walk_at "mine e")
  | (refine' EvT.mul ?_ ?_ ?_ <;> walk_at "mine e")
  | (refine' EvT.mod ?_ ?_ ?_ <;> walk_at "mine e")
  | (refine' EvT.fdiv ?_ ?_ ?_ ?_ <;> walk_at "mine e")
  | (refine' EvT.shl ?_ ?_ ?_ ?_ <;> walk_at "mine e")
  | (refine' EvT.shr ?_ ?_ ?_ <;> walk_at "mine e")
  | (refine' EvT.pow ?_ ?_ ?_ ?_ <;> walk_at "mine e")
  | (refine' EvT.band ?_ ?_ <;> walk_at "mine e")
  | (refine' EvT.bor ?_ ?_ <;> walk_at "mine e")
  | (refine' EvT.bxor ?_ ?_ <;> walk_at "mine e")
  | (refine' EvT.neg ?_ <;> walk_at "mine e")
  | (refine' EvT.inv ?_ <;> walk_at "mine e")
  | (refine' EvT.ladd ?_ ?_ ?_ <;> walk_at "mine e")
  | (refine' EvT.sadd ?_ ?_ ?_ <;> walk_at "mine e")
  | (refine' EvT.item ?_ ?_ ?_ ?_ ?_ <;> walk_at "mine e")
  | (refine' EvT.titem ?_ ?_ ?_ ?_ ?_ <;> walk_at "mine e")
  | (refine' EvT.tuple (ds := _ :: _ :: []) ⟨?_, ?_, trivial⟩ <;> walk_at "mine e")
  | (refine' TsT.cmp ?_ ?_ ?_ <;> walk_at "mine e")
  | (refine' EvT.cmp ?_ ?_ ?_ <;> walk_at "mine e")
  | exact CmpR.lt
  | exact CmpR.le
  | exact CmpR.gt
  | exact CmpR.ge
  | exact CmpR.nonenone
  | exact CmpR.isnone nofun
  | (refine' CmpR.eq ?_ ?_ <;> walk_at "mine e")
  | (refine' CmpR.ne ?_ ?_ <;> walk_at "mine e")
  | walk_at "mine side")
local macro_rules | `(tactic| walk_at "mine E") => `(tactic| (walk_at "mine e") <;> first | decide | omega | assumption | rfl)
local macro_rules | `(tactic| walk_at "mine sub") => `(tactic| first | exact Sub.nil | (refine Sub.cons rfl ?_; walk_at "mine sub"))
section
/-! functions with defaults lo=0, hi=None, *, key=None -/
structure DfOk (u : U) (dV kV : Value) : Prop where
  d : ∃ T t n, dV = .ref T ∧ u.hB.get? T = some (tupOf #[.int 0 t, .none] n)
  k : ∃ D m o, kV = .ref D ∧ u.hB.get? D = some o ∧ o.cls ≠ .none ∧ u.hB.Ns D m ∧ m "key" = some .none
noncomputable def FnD (u : U) (f : Str) (i : Nat) : Prop := ∃ a dV kV doc pm an cd ct, FnAt u f a (fnX f f (paramsAt i) (bodyAt i) (scopeAt i) [] dV kV doc pm an cd ct) ∧ DfOk u dV kV
theorem FnD.has {u : U} {f : Str} {i : Nat} (F : FnD u f i) : Has u f := let ⟨a, _, _, _, _, _, _, _, F, _⟩ := F; ⟨a, _, F⟩
theorem DfOk.here {u : U} {dV kV : Value} (D : DfOk u dV kV) {h : Heap} (w : Wd u h) : ∃ T t n K m, dV = .ref T ∧ kV = .ref K ∧ h.get? T = some (tupOf #[.int 0 t, .none] n) ∧ h.Ns K m ∧ m "key" = some .none := by
  obtain ⟨T, t, n, rfl, h1⟩ := D.d
  obtain ⟨K, m, o, rfl, h2, h3, h4, h5⟩ := D.k
  refine ⟨T, t, n, K, m, rfl, rfl, w.at h1 (by nofun), ?_, h5⟩
  exact ns_old h4 h2 (w.at h2 h3)
theorem bind_d2 {u : U} {f : Str} {dV kV doc pm cd ct v1 v2 : Value} {an : Option Addr} {s : Shared} (i : Nat) (hi : i = 11 ∨ i = 12 ∨ i = 13) (D : DfOk u dV kV) (w : Wd u s.heap) :
    ∃ t, BindsTo s (fnX f f (paramsAt i) (bodyAt i) (scopeAt i) [] dV kV doc pm an cd ct) ⟨[v1, v2], []⟩ [("a", v1), ("x", v2), ("lo", .int 0 t), ("hi", .none), ("key", .none)] := by
  obtain ⟨T, t, n, K, m, rfl, rfl, h1, h2, h3⟩ := D.here w
  refine ⟨t, fun M A E Q hq => ?_⟩
  rcases hi with rfl | rfl | rfl
  all_goals
    show wpAny M A (seqItems? (.ref T) >>= _) _ _ _
    refine wpAny_bind (wpAny_seqItems h1 rfl ?_)
    show wpAny M A (((nsGet K "key" >>= _) >>= _) >>= _) _ _ _
    refine wpAny_bind (wpAny_bind (wpAny_bind (wpAny_nsGet h2 ?_)))
    rw [h3]
    exact wpAny_pure (wpAny_pure (wpAny_pure hq))
theorem bind_d4 {u : U} {f : Str} {dV kV doc pm cd ct v1 v2 v3 v4 : Value} {an : Option Addr} {s : Shared} (i : Nat) (hi : i = 11 ∨ i = 12 ∨ i = 13) (D : DfOk u dV kV) (w : Wd u s.heap) :
    BindsTo s (fnX f f (paramsAt i) (bodyAt i) (scopeAt i) [] dV kV doc pm an cd ct) ⟨[v1, v2, v3, v4], []⟩ [("a", v1), ("x", v2), ("lo", v3), ("hi", v4), ("key", .none)] := by
  obtain ⟨T, t, n, K, m, rfl, rfl, h1, h2, h3⟩ := D.here w
  refine fun M A E Q hq => ?_
  rcases hi with rfl | rfl | rfl
  all_goals
    show wpAny M A (seqItems? (.ref T) >>= _) _ _ _
    refine wpAny_bind (wpAny_seqItems h1 rfl ?_)
    show wpAny M A (((nsGet K "key" >>= _) >>= _) >>= _) _ _ _
    refine wpAny_bind (wpAny_bind (wpAny_bind (wpAny_nsGet h2 ?_)))
    rw [h3]
    exact wpAny_pure (wpAny_pure (wpAny_pure hq))
variable {u : U} {k : Nat}
noncomputable abbrev ps5 (a x lo hi key : Vd) : List (Str × Vd) := [("a", a), ("x", x), ("lo", lo), ("hi", hi), ("key", key)]
noncomputable abbrev st5 (a x lo hi key : Vd) : St := [("a", (a, false)), ("x", (x, false)), ("lo", (lo, false)), ("hi", (hi, false)), ("key", (key, false))]
theorem n5 : ([("a" : Str), "x", "lo", "hi", "key"]).Nodup := by decide
theorem s5 {ps : List (Str × Vd)} (i : Nat) (hi : i = 11 ∨ i = 12 ∨ i = 13) (h : ps.map (·.1) = [("a" : Str), "x", "lo", "hi", "key"] := by rfl) : ∀ p ∈ ps, canStore (scopeAt i) p.1 = true := fun p hp => by
  have q : p.1 ∈ ps.map (·.1) := List.mem_map_of_mem hp
  rw [h] at q
  have : ∀ y ∈ [("a" : Str), "x", "lo", "hi", "key"], canStore (scopeAt i) y = true := by rcases hi with rfl | rfl | rfl <;> decide
  exact this _ q
theorem CaT.d2 {f : Str} {i : Nat} {a x d : Vd} {fl : Fl} {σ' : St} (F : FnD u f i) (hi : i = 11 ∨ i = 12 ∨ i = 13) (body : ExT u k (scopeAt i) (st5 a x (I 0) (.py .none) (.py .none)) (bodyAt i) fl σ') (g : Gives fl d) : CaT u (k + 1) f [a, x] [] [] d := by
  obtain ⟨ad, dV, kV, doc, pm, an, cd, ct, F, D⟩ := F
  refine CaT.of_body (ps := ps5 a x (I 0) (.py .none) (.py .none)) F rfl rfl rfl (by rcases hi with rfl | rfl | rfl <;> rfl) (by rcases hi with rfl | rfl | rfl <;> rfl) (by rcases hi with rfl | rfl | rfl <;> rfl) (fun N s vs kvs wd r1 r2 => ?_) n5 (s5 i hi) body g
  obtain ⟨v, v', rfl, q1, q2⟩ := RepVs.inv2 r1
  obtain ⟨t, b⟩ := bind_d2 (f := f) (doc := doc) (pm := pm) (cd := cd) (ct := ct) (v1 := v) (v2 := v') (an := an) i hi D wd
  exact ⟨_, b, rfl, q1, rfl, q2, rfl, RepP.int _ _, rfl, RepP.none, rfl, RepP.none, trivial⟩
theorem CaT.d4 {f : Str} {i : Nat} {a x lo h d : Vd} {fl : Fl} {σ' : St} (F : FnD u f i) (hi : i = 11 ∨ i = 12 ∨ i = 13) (body : ExT u k (scopeAt i) (st5 a x lo h (.py .none)) (bodyAt i) fl σ') (g : Gives fl d) : CaT u (k + 1) f [a, x, lo, h] [] [] d := by
  obtain ⟨ad, dV, kV, doc, pm, an, cd, ct, F, D⟩ := F
  refine CaT.of_body (ps := ps5 a x lo h (.py .none)) F rfl rfl rfl (by rcases hi with rfl | rfl | rfl <;> rfl) (by rcases hi with rfl | rfl | rfl <;> rfl) (by rcases hi with rfl | rfl | rfl <;> rfl) (fun N s vs kvs wd r1 r2 => ?_) n5 (s5 i hi) body g
  obtain ⟨v1, ws, rfl, q1, r1⟩ := RepVs.invc r1
  obtain ⟨v2, ws, rfl, q2, r1⟩ := RepVs.invc r1
  obtain ⟨v3, v4, rfl, q3, q4⟩ := RepVs.inv2 r1
  exact ⟨_, bind_d4 i hi D wd, rfl, q1, rfl, q2, rfl, q3, rfl, q4, rfl, RepP.none, trivial⟩
/-! the search by halves -/
noncomputable def bis (up : Nat → Bool) : Nat → Nat × Nat → Nat × Nat
  | 0, p => p
  | f + 1, (lo, hi) => if lo < hi then (if up ((lo + hi) / 2) then bis up f ((lo + hi) / 2 + 1, hi) else bis up f (lo, (lo + hi) / 2)) else (lo, hi)
theorem WhT.bis {sc : Scope} {test : Expr} {body : List Stmt} (st : Nat → Nat → St) (up : Nat → Bool) (n : Nat)
    (stop : ∀ lo hi, ¬ lo < hi → TsT u k sc (allplain (st lo hi)) test false) (go : ∀ lo hi, lo < hi → hi ≤ n → TsT u k sc (allplain (st lo hi)) test true)
    (bT : ∀ lo hi, lo < hi → hi ≤ n → up ((lo + hi) / 2) = true → ∃ σ, ExT u k sc (st lo hi) body .next σ ∧ Sub (st ((lo + hi) / 2 + 1) hi) σ)
    (bF : ∀ lo hi, lo < hi → hi ≤ n → up ((lo + hi) / 2) = false → ∃ σ, ExT u k sc (st lo hi) body .next σ ∧ Sub (st lo ((lo + hi) / 2)) σ) :
    ∀ f lo hi, hi - lo < f → hi ≤ n → WhT u k sc test body (st lo hi) .next (st (bis up f (lo, hi)).1 (bis up f (lo, hi)).2) := by
  intro f
  induction f with
  | zero => intro lo hi h; omega
  | succ f ih =>
    intro lo hi hf hn
    unfold Mine.bis
    by_cases h : lo < hi
    · simp only [if_pos h]
      cases hu : up ((lo + hi) / 2) with
      | true =>
        simp only [if_true]
        obtain ⟨σ, b, sb⟩ := bT lo hi h hn hu
        exact WhT.turn (go lo hi h hn) b (.inl rfl) ((ih _ _ (by omega) hn).pre sb)
      | false =>
        simp only [Bool.false_eq_true, if_false]
        obtain ⟨σ, b, sb⟩ := bF lo hi h hn hu
        exact WhT.turn (go lo hi h hn) b (.inl rfl) ((ih _ _ (by omega) (by omega)).pre sb)
    · simp only [if_neg h]
      exact WhT.stop (stop lo hi h)
end
section
variable {u : U} {k : Nat}
theorem fdiv2 (a b : Nat) : ((a : Int) + (b : Int)).fdiv 2 = (((a + b) / 2 : Nat) : Int) := by
  rw [Int.fdiv_eq_ediv_of_nonneg _ (by decide)]; omega
theorem half_lt {lo hi n : Nat} (h : lo < hi) (hn : hi ≤ n) : (lo + hi) / 2 < n := by omega
noncomputable abbrev stb (a x : Vd) (lo hi : Nat) : St := [("a", (a, false)), ("x", (x, false)), ("lo", (I lo, false)), ("hi", (I hi, false))]
theorem bisR_none (T : Tops u) {xs : List PyData} {dx : Vd} {g : Str} {lt : Nat → Bool} (hz : xs.length ≤ 2 ^ 20) (R : ∀ i d, xs[i]? = some d → CmpR u k .Lt dx (.py d) (lt i)) :
    ExT u k (scopeAt 12) (st5 (Ls xs) dx (I 0) (.py .none) (.py .none)) (bodyAt 12) (.ret (I (bis (fun i => !lt i) (xs.length + 1) (0, xs.length)).1)) [] := by
  refine ExT.cons (StT.ifF (by walk_at "mine E") .nil) ?_
  refine ExT.cons (StT.ifT (by walk_at "mine E") (.cons (StT.assign (.inl (EvT.lenl (T.bl (by decide) rfl) (EvT.name rfl) (by omega))) rfl) .nil)) ?_
  refine ExT.cons (StT.ifT (by walk_at "mine E") (.cons (StT.while_ ((WhT.bis (stb (Ls xs) dx) (fun i => !lt i) xs.length (fun lo hi h => ?_) (fun lo hi h hn => ?_) (fun lo hi h hn e => ?_) (fun lo hi h hn e => ?_) (xs.length + 1) 0 xs.length (by omega) (Nat.le_refl _)).pre (by walk_at "mine sub"))) .nil)) ?_
  · exact .to (by walk_at "mine E") (decide_eq_false (by omega))
  · exact .to (by walk_at "mine E") (decide_eq_true (by omega))
  · obtain ⟨d, hd⟩ : ∃ d, xs[(lo + hi) / 2]? = some d := ⟨_, List.getElem?_eq_getElem (half_lt h hn)⟩
    exact ⟨_, ExT.cons (StT.assign (.inl (.toI (by walk_at "mine E") (fdiv2 lo hi))) rfl) (.cons (StT.ifF (.to (TsT.cmp (EvT.name rfl) (EvT.item (EvT.name rfl) (EvT.name rfl) (by omega) (by omega) (by rw [Int.toNat_natCast]; exact hd)) (R _ d hd)) (by simpa using e))
      (.cons (StT.assign (.inl (.toI (by walk_at "mine E") (b := ((lo + hi) / 2 + 1 : Nat)) (by omega))) rfl) .nil)) .nil), by walk_at "mine sub"⟩
  · obtain ⟨d, hd⟩ : ∃ d, xs[(lo + hi) / 2]? = some d := ⟨_, List.getElem?_eq_getElem (half_lt h hn)⟩
    exact ⟨_, ExT.cons (StT.assign (.inl (.toI (by walk_at "mine E") (fdiv2 lo hi))) rfl) (.cons (StT.ifT (.to (TsT.cmp (EvT.name rfl) (EvT.item (EvT.name rfl) (EvT.name rfl) (by omega) (by omega) (by rw [Int.toNat_natCast]; exact hd)) (R _ d hd)) (by simpa using e))
      (.cons (StT.assign (.inl (EvT.name rfl)) rfl) .nil)) .nil), by walk_at "mine sub"⟩
  · exact ExT.stop (StT.ret (.inl (EvT.name rfl))) nofun
theorem bisL_none (T : Tops u) {xs : List PyData} {dx : Vd} {g : Str} {lt : Nat → Bool} (hz : xs.length ≤ 2 ^ 20) (R : ∀ i d, xs[i]? = some d → CmpR u k .Lt (.py d) dx (lt i)) :
    ExT u k (scopeAt 13) (st5 (Ls xs) dx (I 0) (.py .none) (.py .none)) (bodyAt 13) (.ret (I (bis (lt) (xs.length + 1) (0, xs.length)).1)) [] := by
  refine ExT.cons (StT.ifF (by walk_at "mine E") .nil) ?_
  refine ExT.cons (StT.ifT (by walk_at "mine E") (.cons (StT.assign (.inl (EvT.lenl (T.bl (by decide) rfl) (EvT.name rfl) (by omega))) rfl) .nil)) ?_
  refine ExT.cons (StT.ifT (by walk_at "mine E") (.cons (StT.while_ ((WhT.bis (stb (Ls xs) dx) (lt) xs.length (fun lo hi h => ?_) (fun lo hi h hn => ?_) (fun lo hi h hn e => ?_) (fun lo hi h hn e => ?_) (xs.length + 1) 0 xs.length (by omega) (Nat.le_refl _)).pre (by walk_at "mine sub"))) .nil)) ?_
  · exact .to (by walk_at "mine E") (decide_eq_false (by omega))
  · exact .to (by walk_at "mine E") (decide_eq_true (by omega))
  · obtain ⟨d, hd⟩ : ∃ d, xs[(lo + hi) / 2]? = some d := ⟨_, List.getElem?_eq_getElem (half_lt h hn)⟩
    exact ⟨_, ExT.cons (StT.assign (.inl (.toI (by walk_at "mine E") (fdiv2 lo hi))) rfl) (.cons (StT.ifT (.to (TsT.cmp (EvT.item (EvT.name rfl) (EvT.name rfl) (by omega) (by omega) (by rw [Int.toNat_natCast]; exact hd)) (EvT.name rfl) (R _ d hd)) (by simpa using e))
      (.cons (StT.assign (.inl (.toI (by walk_at "mine E") (b := ((lo + hi) / 2 + 1 : Nat)) (by omega))) rfl) .nil)) .nil), by walk_at "mine sub"⟩
  · obtain ⟨d, hd⟩ : ∃ d, xs[(lo + hi) / 2]? = some d := ⟨_, List.getElem?_eq_getElem (half_lt h hn)⟩
    exact ⟨_, ExT.cons (StT.assign (.inl (.toI (by walk_at "mine E") (fdiv2 lo hi))) rfl) (.cons (StT.ifF (.to (TsT.cmp (EvT.item (EvT.name rfl) (EvT.name rfl) (by omega) (by omega) (by rw [Int.toNat_natCast]; exact hd)) (EvT.name rfl) (R _ d hd)) (by simpa using e))
      (.cons (StT.assign (.inl (EvT.name rfl)) rfl) .nil)) .nil), by walk_at "mine sub"⟩
  · exact ExT.stop (StT.ret (.inl (EvT.name rfl))) nofun
end
section
variable {u : U} {k : Nat}
noncomputable def insAt (i : Nat) (d : PyData) (xs : List PyData) : List PyData := xs.take i ++ d :: xs.drop i
/-- reading a located list as a list -/
theorem EvT.loc {sc : Scope} {σ : St} {e : Expr} {l : Addr} {xs : List PyData} (t : EvT u k sc σ e (.lat l xs)) : EvT u k sc σ e (Ls xs) :=
  fun env N A s Q a b c d e f h => t env N A s Q a b c d e f fun v h' tk K r => h v h' tk K r.2
theorem insort_none (F : FnD u "insort_right" 11) (G : Has u "bisect_right") {xs : List PyData} {d : PyData} {i : Nat} (hi : i ≤ xs.length) (hz : xs.length < 2 ^ 20)
    (c : CaT u k "bisect_right" [Ls xs, .py d, I 0, .py .none] [] [] (I i)) : MuT u (k + 1) "insort_right" xs [.py d] [] [] (insAt i d xs) := by
  obtain ⟨a, dV, kV, doc, pm, an, cd, ct, F, D⟩ := F
  refine MuT.of_body (p0 := "a") (ps := [("x", .py d), ("lo", I 0), ("hi", .py .none), ("key", .py .none)]) F rfl rfl rfl rfl rfl rfl (fun N s l vs kvs wd r1 r2 => ?_) n5 rfl (fun p hp => s5 (ps := ps5 (I 0) (.py d) (I 0) (.py .none) (.py .none)) 11 (.inl rfl) rfl p (.tail _ hp)) fun l => ?_
  · obtain ⟨v, rfl, q⟩ := RepVs.inv1 r1
    obtain ⟨t, b⟩ := bind_d2 (f := "insort_right") (doc := doc) (pm := pm) (cd := cd) (ct := ct) (v1 := .ref l) (v2 := v) (an := an) 11 (.inl rfl) D wd
    exact ⟨_, b, rfl, q, rfl, RepP.int _ _, rfl, RepP.none, rfl, RepP.none, trivial⟩
  · exact ⟨_, ExT.cons (StT.ifT (by walk_at "mine E") (.cons (StT.assign (.inr ⟨rfl, EvT.callF G (EvTs.cons (.loc (EvT.name rfl)) (EvTs.cons (EvT.name rfl) (EvTs.cons (EvT.name rfl) (EvTs.cons (EvT.name rfl) .nil)))) c⟩) rfl) .nil))
      (.cons (StT.insert rfl rfl (.inl (EvTs.cons (EvT.name rfl) (EvTs.cons (EvT.name rfl) .nil))) hi hz) .nil), rfl⟩
end
section
/-! whole numbers, with what a rule asks for looked at -/
noncomputable def shlO (a b : Int) : Option Int := if 0 ≤ b ∧ (Builtin.Int.intBits a : Int) + b ≤ 134217728 then some (a * ((2 ^ b.toNat : Nat) : Int)) else none
noncomputable def shrO (a b : Int) : Option Int := if 0 ≤ b then some (a.fdiv ((2 ^ b.toNat : Nat) : Int)) else none
noncomputable def mulB (a b : Int) : Bool := !(decide (Builtin.Int.intBits a > shortFactorBits) && decide (Builtin.Int.intBits b > shortFactorBits) && Builtin.Int.intTooBig (Builtin.Int.intBits a + Builtin.Int.intBits b))
noncomputable def mulO (a b : Int) : Option Int := if mulB a b then some (a * b) else none
noncomputable def dmO (a b : Int) : Option (Int × Int) := if b ≠ 0 ∧ Builtin.divisionGoesByPylong a b = false then some (a.fdiv b, a.fmod b) else none
noncomputable def divO (a b : Int) : Option Int := if b ≠ 0 ∧ Builtin.divisionGoesByPylong a b = false then some (a.fdiv b) else none
noncomputable def powO (a b : Int) : Option Int := if 0 ≤ b ∧ (Builtin.Int.intBits a : Int) * b ≤ 134217728 then some (a ^ b.toNat) else none
theorem cast_pow2 (n : Nat) : ((2 ^ n : Nat) : Int) = (2 : Int) ^ n := by
  induction n with
  | zero => rfl
  | succ n ih => rw [Nat.pow_succ, Int.pow_succ, ← ih]; push_cast; rfl
section
variable {u : U} {k : Nat} {sc : Scope} {σ : St} {pos p : Pos} {l r e : Expr} {a b c : Int}
theorem mulB_ok (h : mulB a b = true) : IntMulOk a b := by
  unfold IntMulOk
  unfold mulB at h
  intro q
  rw [q] at h
  exact absurd h (by decide)
theorem EvT.shlO (h : shlO a b = some c) (tl : EvT u k sc σ l (I a)) (tr : EvT u k sc σ r (I b)) : EvT u k sc σ (.BinOp l .LShift r pos) (I c) := by
  unfold Mine.shlO at h
  split at h
  · rename_i q; cases h; rw [cast_pow2]; exact EvT.shl tl tr q.1 (by have := q.2; omega)
  · cases h
theorem EvT.shrO (h : shrO a b = some c) (tl : EvT u k sc σ l (I a)) (tr : EvT u k sc σ r (I b)) : EvT u k sc σ (.BinOp l .RShift r pos) (I c) := by
  unfold Mine.shrO at h
  split at h
  · rename_i q; cases h; rw [cast_pow2]; exact EvT.shr tl tr q
  · cases h
theorem EvT.mulO (h : mulO a b = some c) (tl : EvT u k sc σ l (I a)) (tr : EvT u k sc σ r (I b)) : EvT u k sc σ (.BinOp l .Mult r pos) (I c) := by
  unfold Mine.mulO at h
  split at h
  · rename_i q; cases h; exact EvT.mul tl tr (mulB_ok q)
  · cases h
theorem EvT.divO (h : divO a b = some c) (tl : EvT u k sc σ l (I a)) (tr : EvT u k sc σ r (I b)) : EvT u k sc σ (.BinOp l .FloorDiv r pos) (I c) := by
  unfold Mine.divO at h
  split at h
  · rename_i q; cases h; exact EvT.fdiv tl tr q.1 q.2
  · cases h
theorem EvT.powO (h : powO a b = some c) (tl : EvT u k sc σ l (I a)) (tr : EvT u k sc σ r (I b)) : EvT u k sc σ (.BinOp l .Pow r pos) (I c) := by
  unfold Mine.powO at h
  split at h
  · rename_i q; cases h; exact EvT.pow tl tr q.1 (by have := q.2; omega)
  · cases h
theorem EvT.dmO (T : Tops u) {x : Int × Int} (h : dmO a b = some x) (tl : EvT u k sc σ l (I a)) (tr : EvT u k sc σ r (I b)) (hx : sc.names.lookup (Str.ofString "divmod") = some .globalImplicit := by rfl) (hp : [l, r].all plainE = true := by rfl) : EvT u k sc σ (.Call (.Name "divmod" p) [l, r] [] pos) (Tu [.int x.1, .int x.2]) := by
  unfold Mine.dmO at h
  split at h
  · rename_i q; cases h; exact EvT.divmod (T.bl (by decide) hx) tl tr q.1 q.2 hp
  · cases h
noncomputable def bits (a : Int) : Int := (Builtin.Int.intBits a : Int)
theorem EvT.bits {ap : Pos} (t : EvT u k sc σ e (I a)) (hbase : ∀ env, attributeBase e "bit_length" env (eval e env) = eval e env := by intros; rfl) (hline : (ap.endLine == pos.line) = true := by rfl) :
    EvT u k sc σ (.Call (.Attribute e "bit_length" ap) [] [] pos) (I (bits a)) :=
  EvT.mk fun env N A s Q H h => Call_method0 (hbase env) hline (t.use H fun v h1 t1 k1 H1 r1 => by
    obtain ⟨t', rfl⟩ := RepP.int_inv r1
    refine ⟨"int", "int.bit_length", F.plainAttrs_int, F.slot_int_bit_length, F.type_int_bit_length, typeIs_int _ _ _, nofun, ?_⟩
    exact Calls.callWith_builtin rfl (PySem.evalArgs_none (call_int_bit_length (h _ h1 _ k1 (RepP.int _ _)))))
/-- a number that the text keeps under a name of its own -/
noncomputable def Num (u : U) (x : Str) (i : Int) : Prop := ∃ t, u.mg x = some (.int i t)
theorem EvT.num {x : Str} (n : Num u x a) (hx : sc.names.lookup x = some .globalImplicit := by rfl) (hd : (x == ("__debug__" : Str)) = false := by decide) : EvT u k sc σ (.Name x pos) (I a) :=
  EvT.mk fun env N A s Q H h => let ⟨t, e⟩ := n; globN H hx e (h _ s.heap s.toks (.refl _) (RepP.int _ t)) hd
end
/-! _div2n1n, _div3n2n -/
noncomputable def fixup (b : Int) : Nat → Int → Int → Option (Int × Int)
  | 0, _, _ => none
  | f + 1, q, r => if r < 0 then fixup b f (q - 1) (r + b) else some (q, r)
noncomputable def d3a (d2 : Int → Int → Int → Option (Int × Int)) (x b1 a12 n : Int) : Option (Int × Int) :=
  if x = b1 then (shlO 1 n).bind fun s => (shlO b1 n).bind fun t => some (s - 1, a12 - t + b1) else d2 a12 b1 n
noncomputable def d3 (d2 : Int → Int → Int → Option (Int × Int)) (a12 a3 b b1 b2 n : Int) : Option (Int × Int) :=
  (shrO a12 n).bind fun x => (d3a d2 x b1 a12 n).bind fun qr => (shlO qr.2 n).bind fun y => (mulO qr.1 b2).bind fun z => fixup b 20 qr.1 (Builtin.bitOr y a3 - z)
noncomputable def opt (c : Bool) (a : Int) (b : Option Int) : Option Int := if c then b else some a
noncomputable def d2 : Nat → Int → Int → Int → Option (Int × Int)
  | 0, _, _, _ => none
  | f + 1, a, b, n =>
    if bits a - n ≤ 4000 then dmO a b else
      (opt (Builtin.bitAnd n 1 != 0) a (shlO a 1)).bind fun a' => (opt (Builtin.bitAnd n 1 != 0) b (shlO b 1)).bind fun b' => (opt (Builtin.bitAnd n 1 != 0) n (some (n + 1))).bind fun n' =>
      (shrO n' 1).bind fun half => (shlO 1 half).bind fun m => (shrO b' half).bind fun b1 => (shrO a' n').bind fun x => (shrO a' half).bind fun y =>
      (d3 (d2 f) x (Builtin.bitAnd y (m - 1)) b' b1 (Builtin.bitAnd b' (m - 1)) half).bind fun qr =>
      (d3 (d2 f) qr.2 (Builtin.bitAnd a' (m - 1)) b' b1 (Builtin.bitAnd b' (m - 1)) half).bind fun qr2 =>
      (opt (Builtin.bitAnd n 1 != 0) qr2.2 (shrO qr2.2 1)).bind fun r => (shlO qr.1 half).bind fun q => some (Builtin.bitOr q qr2.1, r)
section
variable {u : U} {k : Nat} {sc : Scope} {σ σ' : St} {pos p : Pos} {e : Expr} {a b c : Int} {x : Str} {fl : Fl}
theorem StT.post {st : Stmt} {σ1 σ2 : St} (t : StT u k sc σ st fl σ1) (sb : Sub σ2 σ1) : StT u k sc σ st fl σ2 := fun env N ad A s Q he ok wd M h =>
  t env N ad A s Q he ok wd M fun f h1 t1 ad1 fr k1 P => h f h1 t1 ad1 fr k1 fun g => ⟨fun y d hy => (P g).own y d (sb _ _ hy), (P g).ms.sub sb⟩
theorem StT.augShl (h : shlO a b = some c) (hx : look σ x = some (I a, false)) (t : EvX u k sc σ e (I b)) (hk : canStore sc x = true := by rfl) (hc : (x == ("__classdict__" : Str)) = false := by decide) :
    StT u k sc σ (.AugAssign (.Name x p) .LShift e pos) .next ((x, (I c, false)) :: σ) := by
  unfold shlO at h
  split at h
  · rename_i q; cases h; rw [cast_pow2]; exact StT.aug hx t hk (fun A s t1 t2 Q h => ilshift_int q.1 (by have := q.2; omega) h) hc
  · cases h
theorem StT.augShr (h : shrO a b = some c) (hx : look σ x = some (I a, false)) (t : EvX u k sc σ e (I b)) (hk : canStore sc x = true := by rfl) (hc : (x == ("__classdict__" : Str)) = false := by decide) :
    StT u k sc σ (.AugAssign (.Name x p) .RShift e pos) .next ((x, (I c, false)) :: σ) := by
  unfold shrO at h
  split at h
  · rename_i q; cases h; rw [cast_pow2]; exact StT.aug hx t hk (fun A s t1 t2 Q h => irshift_int q h) hc
  · cases h
theorem StT.augAdd (hx : look σ x = some (I a, false)) (t : EvX u k sc σ e (I b)) (hk : canStore sc x = true := by rfl) (hc : (x == ("__classdict__" : Str)) = false := by decide) :
    StT u k sc σ (.AugAssign (.Name x p) .Add e pos) .next ((x, (I (a + b), false)) :: σ) := StT.aug hx t hk (fun A s t1 t2 Q h => iadd_int h) hc
theorem StT.augSub (hx : look σ x = some (I a, false)) (t : EvX u k sc σ e (I b)) (hk : canStore sc x = true := by rfl) (hc : (x == ("__classdict__" : Str)) = false := by decide) :
    StT u k sc σ (.AugAssign (.Name x p) .Sub e pos) .next ((x, (I (a - b), false)) :: σ) := StT.aug hx t hk (fun A s t1 t2 Q h => isub_int h) hc
/-- a test of a number by itself -/
theorem TsT.num {b : Bool} (t : EvT u k sc σ e (I a)) (h : (a != 0) = b) (he : ∀ env whole, isTrue e env whole = (do let v ← whole; standAt e.pos; holding [v] (truthy v)) := by intros; rfl) : TsT u k sc σ e b := h ▸ TsT.vint t he
end
variable {u : U} {k : Nat}
theorem fix_while {sc : Scope} {test : Expr} {body : List Stmt} {b : Int} (st : Int → Int → St) (go : ∀ q r, TsT u k sc (allplain (st q r)) test (decide (r < 0))) (bd : ∀ q r, ∃ σ, ExT u k sc (st q r) body .next σ ∧ Sub (st (q - 1) (r + b)) σ) :
    ∀ f q r x, fixup b f q r = some x → WhT u k sc test body (st q r) .next (st x.1 x.2) := by
  intro f
  induction f with
  | zero => intro q r x h; cases h
  | succ f ih =>
    intro q r x h
    unfold fixup at h
    by_cases hr : r < 0
    · rw [if_pos hr] at h
      obtain ⟨σ, bb, sb⟩ := bd q r
      exact WhT.turn (.to (go q r) (decide_eq_true hr)) bb (.inl rfl) ((ih _ _ _ h).pre sb)
    · rw [if_neg hr] at h
      cases h
      exact WhT.stop (.to (go q r) (decide_eq_false hr))
theorem law_d3 (F3 : Fn u "_div3n2n" 5) (H2 : Has u "_div2n1n") {g : Int → Int → Int → Option (Int × Int)} (c2 : ∀ a b n x, g a b n = some x → CaT u k "_div2n1n" [I a, I b, I n] [] [] (Tu [.int x.1, .int x.2]))
    {a12 a3 b b1 b2 n : Int} {x : Int × Int} (h : d3 g a12 a3 b b1 b2 n = some x) : CaT u (k + 1) "_div3n2n" [I a12, I a3, I b, I b1, I b2, I n] [] [] (Tu [.int x.1, .int x.2]) := by
  unfold d3 at h
  simp only [Option.bind_eq_some_iff] at h
  obtain ⟨y, hy, qr, hqr, y2, hy2, z, hz, hf⟩ := h
  refine CaT.fn6 (n1 := "a12") (n2 := "a3") (n3 := "b") (n4 := "b1") (n5 := "b2") (n6 := "n") (σ' := []) F3 ?_ gives
  refine ExT.cons (σ' := [("a12", (I a12, false)), ("a3", (I a3, false)), ("b", (I b, false)), ("b1", (I b1, false)), ("b2", (I b2, false)), ("n", (I n, false)), ("q", (I qr.1, false)), ("r", (I qr.2, false))]) ?_ ?_
  · unfold d3a at hqr
    by_cases e : y = b1
    · rw [if_pos e] at hqr
      simp only [Option.bind_eq_some_iff] at hqr
      obtain ⟨s, hs, t, ht, hqr⟩ := hqr
      cases hqr
      exact .post (StT.ifT (.to (TsT.cmp (EvT.shrO hy (EvT.name rfl) (EvT.name rfl)) (EvT.name rfl) (CmpR.eq rfl rfl)) (by simp [PyData.eqv, e]))
        (.cons (StT.swap2 (.inl (EvT.tup2 (EvT.sub (EvT.shlO hs EvT.int (EvT.name rfl)) EvT.int) (EvT.add (EvT.sub (EvT.name rfl) (EvT.shlO ht (EvT.name rfl) (EvT.name rfl))) (EvT.name rfl)))) rfl rfl) .nil)) (by walk_at "mine sub")
    · rw [if_neg e] at hqr
      exact .post (StT.ifF (.to (TsT.cmp (EvT.shrO hy (EvT.name rfl) (EvT.name rfl)) (EvT.name rfl) (CmpR.eq rfl rfl)) (by simp [PyData.eqv, e]))
        (.cons (StT.assignT (.inl (EvT.callF H2 (.of3 (EvT.name rfl) (EvT.name rfl) (EvT.name rfl)) (c2 _ _ _ _ hqr))) (AsT.tuple (.cons (AsT.name rfl) (.cons (AsT.name rfl) .nil)))) .nil)) (by walk_at "mine sub")
  refine ExT.cons (StT.assign (.inl (EvT.sub (EvT.bor (EvT.shlO hy2 (EvT.name rfl) (EvT.name rfl)) (EvT.name rfl)) (EvT.mulO hz (EvT.name rfl) (EvT.name rfl)))) rfl) ?_
  refine ExT.cons (StT.while_ ((fix_while (fun q r => [("b", (I b, false)), ("q", (I q, false)), ("r", (I r, false))]) (fun q r => ?_) (fun q r => ?_) 20 qr.1 _ x hf).pre (by walk_at "mine sub"))) ?_
  · walk_at "mine E"
  · exact ⟨_, .cons (StT.augSub rfl (.inl EvT.int)) (.cons (StT.augAdd rfl (.inl (EvT.name rfl))) .nil), by walk_at "mine sub"⟩
  · exact .stop (StT.ret (.inl (EvT.tup2 (EvT.name rfl) (EvT.name rfl)))) nofun
theorem law_d2 (T : Tops u) (F2 : Fn u "_div2n1n" 4) (F3 : Fn u "_div3n2n" 5) (L : Num u "_DIV_LIMIT" 4000) : ∀ f a b n x, d2 f a b n = some x → CaT u (k + 2 * f) "_div2n1n" [I a, I b, I n] [] [] (Tu [.int x.1, .int x.2]) := by
  intro f
  induction f with
  | zero => intro a b n x h; cases h
  | succ f ih =>
    intro a b n x h
    unfold d2 at h
    rw [show k + 2 * (f + 1) = (k + 2 * f + 1) + 1 from by omega]
    by_cases hl : bits a - n ≤ 4000
    · rw [if_pos hl] at h
      refine CaT.fn3 (n1 := "a") (n2 := "b") (n3 := "n") (σ' := []) F2 ?_ gives
      exact .stop (StT.ifT (.to (TsT.cmp (EvT.sub (EvT.bits (EvT.name rfl)) (EvT.name rfl)) (EvT.num L) CmpR.le) (decide_eq_true hl)) (.stop (StT.ret (.inl (EvT.dmO T h (EvT.name rfl) (EvT.name rfl)))) nofun)) nofun
    · rw [if_neg hl] at h
      simp only [Option.bind_eq_some_iff] at h
      obtain ⟨a', ha, b', hb, n', hn, half, hhalf, m, hm, b1, hb1, y1, hy1, y2, hy2, qr, hqr, qr2, hqr2, r, hr, q, hq, hx⟩ := h
      cases hx
      have c3 : ∀ {a12 a3 b b1 b2 n : Int} {x : Int × Int}, d3 (d2 f) a12 a3 b b1 b2 n = some x → CaT u (k + 2 * f + 1) "_div3n2n" [I a12, I a3, I b, I b1, I b2, I n] [] [] (Tu [.int x.1, .int x.2]) := fun h => law_d3 F3 F2.has (fun a b n x => ih a b n x) h
      generalize hpad : Builtin.bitAnd n 1 = pad at *
      refine CaT.fn3 (n1 := "a") (n2 := "b") (n3 := "n") (σ' := []) F2 ?_ gives
      refine .cons (StT.ifF (.to (TsT.cmp (EvT.sub (EvT.bits (EvT.name rfl)) (EvT.name rfl)) (EvT.num L) CmpR.le) (decide_eq_false hl)) .nil) ?_
      refine .cons (StT.assign (.inl (.toI (EvT.band (EvT.name rfl) EvT.int) hpad)) rfl) ?_
      refine .cons (σ' := [("a", (I a', false)), ("b", (I b', false)), ("n", (I n', false)), ("pad", (I pad, false))]) ?_ ?_
      · cases hp : pad != 0 with
        | true =>
          rw [hp] at ha hb hn
          simp only [opt, if_true] at ha hb hn
          cases hn
          exact .post (StT.ifT (TsT.num (EvT.name rfl) hp) (.cons (StT.augShl ha rfl (.inl EvT.int)) (.cons (StT.augShl hb rfl (.inl EvT.int)) (.cons (StT.augAdd rfl (.inl EvT.int)) .nil)))) (by walk_at "mine sub")
        | false =>
          rw [hp] at ha hb hn
          simp only [opt, Bool.false_eq_true, if_false] at ha hb hn
          cases ha; cases hb; cases hn
          exact .post (StT.ifF (TsT.num (EvT.name rfl) hp) .nil) (by walk_at "mine sub")
      refine .cons (StT.assign (.inl (EvT.shrO hhalf (EvT.name rfl) EvT.int)) rfl) ?_
      refine .cons (StT.assign (.inl (EvT.sub (EvT.shlO hm EvT.int (EvT.name rfl)) EvT.int)) rfl) ?_
      refine .cons (StT.swap2 (.inl (EvT.tup2 (EvT.shrO hb1 (EvT.name rfl) (EvT.name rfl)) (EvT.band (EvT.name rfl) (EvT.name rfl)))) rfl rfl) ?_
      refine .cons (StT.assignT (.inl (EvT.callF F3.has (.of6 (EvT.shrO hy1 (EvT.name rfl) (EvT.name rfl)) (EvT.band (EvT.shrO hy2 (EvT.name rfl) (EvT.name rfl)) (EvT.name rfl)) (EvT.name rfl) (EvT.name rfl) (EvT.name rfl) (EvT.name rfl)) (c3 hqr))) (AsT.tuple (.cons (AsT.name rfl) (.cons (AsT.name rfl) .nil)))) ?_
      refine .cons (StT.assignT (.inl (EvT.callF F3.has (.of6 (EvT.name rfl) (EvT.band (EvT.name rfl) (EvT.name rfl)) (EvT.name rfl) (EvT.name rfl) (EvT.name rfl) (EvT.name rfl)) (c3 hqr2))) (AsT.tuple (.cons (AsT.name rfl) (.cons (AsT.name rfl) .nil)))) ?_
      refine .cons (σ' := [("q1", (I qr.1, false)), ("q2", (I qr2.1, false)), ("r", (I r, false)), ("half_n", (I half, false))]) ?_ ?_
      · cases hp : pad != 0 with
        | true =>
          rw [hp] at hr
          simp only [opt, if_true] at hr
          exact .post (StT.ifT (TsT.num (EvT.name rfl) hp) (.cons (StT.augShr hr rfl (.inl EvT.int)) .nil)) (by walk_at "mine sub")
        | false =>
          rw [hp] at hr
          simp only [opt, Bool.false_eq_true, if_false] at hr
          cases hr
          exact .post (StT.ifF (TsT.num (EvT.name rfl) hp) .nil) (by walk_at "mine sub")
      exact .stop (StT.ret (.inl (EvT.tup2 (EvT.bor (EvT.shlO hq (EvT.name rfl) (EvT.name rfl)) (EvT.name rfl)) (EvT.name rfl)))) nofun
end
section
/-! a call of a function made within a run -/
section
variable {u : U} {k : Nat} {N : Addr → Prop} {A : Around} {s : Shared} {f : Addr} {nm qual : Str} {params : Arguments} {body : List Stmt} {scope : Scope} {clos : List (Str × Addr)} {doc pm cv ctv : Value} {cs : List (Addr × Value)} {hs : List (Value × PyData)} {vs : List Value} {binds : List (Str × Value)} {R : Result → Shared → Prop}
theorem clo_call (ok : Ok A (k + 1)) (wd : Wd u s.heap) (r : Rep u N s.heap (.ref f) (.clo f (fnX nm qual params body scope clos .none .none doc pm none cv ctv) cs hs)) (hb : BindsTo s (fnX nm qual params body scope clos .none .none doc pm none cv ctv) ⟨vs, []⟩ binds)
    (hk : scope.kind = .function) (hco : scope.isCoroutine = false) (hgen : scope.isGenerator = false) (hc : scope.names.all (fun x => x.2 != .cell) = true) (hl : ∀ x ∈ binds, scope.names.lookup x.1 = some .local)
    (hcl : ∀ x c, clos.lookup x = some c → (∃ v, (c, v) ∈ cs) ∧ u.lim ≤ c) (inj : ∀ x y c, clos.lookup x = some c → clos.lookup y = some c → x = y)
    (h : ∀ env h1 tk, EnvIs scope env → FrOk u env h1 → env.cells = clos → s.heap.objs.size ≤ env.locals → (∀ b o, s.heap.get? b = some o → h1.get? b = some o) → h1.Ns env.locals (fun x => binds.reverse.lookup x) →
      wpAny u.M (A.deeper env) (execs body env) (fun fl s' => R (.ok (.ret (match fl with | .ret v => v | _ => .none))) s') NoE { s with heap := h1, toks := tk }) : codeAny u.M A (.call (.ref f) ⟨vs, []⟩) R s := by
  obtain ⟨_, ⟨o, ho, hd⟩, _, hr, hcs, _⟩ := r
  have hc' : ∀ x ∈ scope.names, x.2 ≠ .cell := fun x hx e => by
    have := List.all_eq_true.mp hc x hx
    rw [e] at this; exact absurd this (by decide)
  refine codeAny_call_function (by have := ok.depth; omega) ho hd hco hgen rfl hr (hb _ _ _ _ ?_)
  refine wpAny_newFunctionEnv hc' hl (fun h' hn hsb => ?_) hk
  have hkp : ∀ b o, s.heap.get? b = some o → h'.get? b = some o := fun b o e => (hsb.2 b (Nat.ne_of_lt (Heap.lt_size e))).trans (Heap.get?_push_of_some _ e)
  refine ⟨wd.nl.keeps hkp, codeAny_func (wpAny_mono (h _ h' _ ⟨rfl, hk, rfl, rfl, fun x q => absurd rfl (hc' _ (mem_of_lookup q))⟩ ⟨⟨_, hn⟩, fun x c q => ?_, wd.size, fun x c q => (hcl x c q).2, inj⟩ rfl (Nat.le_refl _) hkp hn) (fun _ _ q => q) fun _ _ q => q.elim)⟩
  obtain ⟨⟨v, hv⟩, _⟩ := hcl x c q
  obtain ⟨o', e1, e2⟩ := (hcs _ hv).1
  exact ⟨_, o', hkp _ _ e1, e2⟩
end
end
section
noncomputable def inS (i j : Nat) : Scope := match (bodyAt i)[j]? with
  | some (.FunctionDef _ _ _ _ _ _ s _ _ _) => s
  | _ => default
noncomputable def inP (i j : Nat) : Arguments := match (bodyAt i)[j]? with
  | some (.FunctionDef _ a _ _ _ _ _ _ _ _) => a
  | _ => default
noncomputable def inB (i j : Nat) : List Stmt := match (bodyAt i)[j]? with
  | some (.FunctionDef _ _ b _ _ _ _ _ _ _) => b
  | _ => []
noncomputable def inPos (i j : Nat) : Pos := match (bodyAt i)[j]? with
  | some (.FunctionDef _ _ _ _ _ _ _ _ _ p) => p
  | _ => default
/-- fa, called, changes the list at l from xs to ys; all items are plain -/
noncomputable def InC (u : U) (k : Nat) (fa : Addr) (fd : FuncData) (cs : List (Addr × Value)) (l : Addr) (args : List Vd) (xs ys : List PyData) : Prop :=
  ∀ (A : Around) (s : Shared) (R : Result → Shared → Prop) (ws : Array Value) (m : Nat) (vs : List Value), Ok A k → Wd u s.heap → s.heap.get? l = some (listOf ws m) → RepPs Nil s.heap ws.toList xs → RepVs u Nil s.heap vs args →
    Rep u Nil s.heap (.ref fa) (.clo fa fd cs []) →
    (∀ h' tk ws' m', Keeps u (fun b => b = l) s.heap h' → h'.get? l = some (listOf ws' m') → RepPs Nil h' ws'.toList ys → R (.ok (.ret .none)) { s with heap := h', toks := tk }) → codeAny u.M A (.call (.ref fa) ⟨vs, []⟩) R s
section
variable {u : U} {k : Nat} {sc : Scope} {σ : St} {pos p cp : Pos} {x o : Str} {fa l : Addr} {fd : FuncData} {cs : List (Addr × Value)} {xs ys : List PyData}
theorem StT.callClo {es : List Expr} {args : List Vd} (hx : look σ x = some (.clo fa fd cs [], false)) (ho : look σ o = some (.lat l xs, true)) (t : EvXs u k sc σ es args) (c : InC u k fa fd cs l args xs ys) (fx : xs.all flat = true) (fy : ys.all flat = true)
    (hp : es.all plainE = true := by rfl) (hd : (x == ("__debug__" : Str)) = false := by decide) (hc : (x == ("__classdict__" : Str)) = false := by decide) :
    StT u k sc σ (.Expr (.Call (.Name x p) es [] cp) pos) .next ((o, (.lat l ys, true)) :: σ) := fun env N ad A s Q he ok wd M h => by
  obtain ⟨v, hv, r⟩ := M.val x _ hx
  obtain ⟨rfl, _⟩ := id r
  obtain ⟨v1, hv1, _, ⟨ob, _, hob2⟩, _⟩ := M.val x _ hx
  obtain ⟨ob, hob, hdat⟩ := r.2.1
  refine wpAny_Expr (Call_ (sees_name he hv (Calls.callWith_function (o := ob) (fd := fd) (t.args hp he ok wd M fun vs h1 t1 k1 w1 M1 r1 => ⟨⟨?_, hdat⟩, ?_⟩)) hd hc)) (by unfold interactive; rw [he.fn]; rfl) rfl
  · exact k1.old _ _ hob (.inr fun ps e => by rw [hdat] at e; cases e) id
  · obtain ⟨ws, m, xs', e0, e1, e2, e3, e4, e5⟩ := M1.own o _ ho
    have hl : l = ad o ∧ xs = xs' := by
      rcases e0 with e0 | e0
      · cases e0
      · injection e0 with q1 q2; exact ⟨q1, q2⟩
    obtain ⟨hl, rfl⟩ := hl
    have r2 : Rep u Nil h1 (.ref fa) (.clo fa fd cs []) := (r.step k1 fun _ => nonil).anti fun _ => nonil
    refine wpAny_call (c A { s with heap := h1, toks := t1 } _ ws m vs ok w1 (hl ▸ e2) (e3.anti fun _ => nonil) (r1.anti fun _ => nonil) r2 fun h2 t2 ws' m' K ha r3 => ?_)
    subst hl
    have M2 := M1.mutateK ho K ha (flat_reps fy r3)
    exact h .next h2 t2 ad trivial ((k1.mono fun _ => nonil).trans (K.mono fun b q => .inr ⟨o, _, ho, q.symm⟩)) fun _ => ⟨fun y e hy => .inl (own_swap ho ⟨y, e, hy, rfl⟩), M2⟩
end
/-! _int2digits -/
noncomputable def digs (n : Int) : Nat → Int → Int → Int → List PyData → Option (List PyData)
  | 0, _, _, _, _ => none
  | f + 1, x, l, r, xs =>
    if l + 1 = r then (if 0 ≤ l ∧ l < xs.length then some (xs.set l.toNat (.int x)) else none)
    else (shrO (l + r) 1).bind fun mid => (mulO (mid - l) n).bind fun shift => (shrO x shift).bind fun upper => (shlO upper shift).bind fun t =>
      (digs n f (Builtin.bitXor x t) l mid xs).bind fun ys => digs n f upper mid r ys
theorem digs_flat {n : Int} : ∀ {f x l r xs ys}, digs n f x l r xs = some ys → xs.all flat = true → ys.all flat = true := by
  intro f
  induction f with
  | zero => intro x l r xs ys h; cases h
  | succ f ih =>
    intro x l r xs ys h hx
    unfold digs at h
    split at h
    · split at h
      · cases h
        rw [List.all_eq_true] at hx ⊢
        intro y hy
        rcases List.mem_or_eq_of_mem_set hy with q | q
        · exact hx y q
        · rw [q]; rfl
      · cases h
    · simp only [Option.bind_eq_some_iff] at h
      obtain ⟨_, _, _, _, _, _, _, _, ys', h1, h2⟩ := h
      exact ih h2 (ih h1 hx)
theorem digs_len {n : Int} : ∀ {f x l r xs ys}, digs n f x l r xs = some ys → ys.length = xs.length := by
  intro f
  induction f with
  | zero => intro x l r xs ys h; cases h
  | succ f ih =>
    intro x l r xs ys h
    unfold digs at h
    split at h
    · split at h
      · cases h; simp
      · cases h
    · simp only [Option.bind_eq_some_iff] at h
      obtain ⟨_, _, _, _, _, _, _, _, ys', h1, h2⟩ := h
      rw [ih h2, ih h1]
section
variable {u : U} {k : Nat} {fa l cn ci ca : Addr} {qual : Str} {doc pm cv ctv : Value} {n : Int} {t : Tok}
noncomputable abbrev dClos (cn ci ca : Addr) : List (Str × Addr) := [("n", cn), ("inner", ci), ("a_digits", ca)]
noncomputable abbrev dFd (qual : Str) (cn ci ca : Addr) (doc pm cv ctv : Value) : FuncData := fnX "inner" qual (inP 6 1) (inB 6 1) (inS 6 1) (dClos cn ci ca) .none .none doc pm none cv ctv
noncomputable abbrev dCs (cn ci ca fa l : Addr) (n : Int) (t : Tok) : List (Addr × Value) := [(cn, .int n t), (ci, .ref fa), (ca, .ref l)]
noncomputable abbrev dSt (qual : Str) (fa l cn ci ca : Addr) (doc pm cv ctv : Value) (n : Int) (t : Tok) (xs : List PyData) (x L R : Int) : St :=
  [("a_digits", (.lat l xs, true)), ("x", (I x, false)), ("L", (I L, false)), ("R", (I R, false)), ("n", (I n, false)), ("inner", (.clo fa (dFd qual cn ci ca doc pm cv ctv) (dCs cn ci ca fa l n t) [], false))]
theorem digs_body {f : Nat} (ih : ∀ x L R xs ys, digs n f x L R xs = some ys → xs.length < 2 ^ 62 → xs.all flat = true → InC u k fa (dFd qual cn ci ca doc pm cv ctv) (dCs cn ci ca fa l n t) l [I x, I L, I R] xs ys)
    {x L R : Int} {xs ys : List PyData} (h : digs n (f + 1) x L R xs = some ys) (hz : xs.length < 2 ^ 62) (hf : xs.all flat = true) :
    ∃ fl σ', ExT u k (inS 6 1) (dSt qual fa l cn ci ca doc pm cv ctv n t xs x L R) (inB 6 1) fl σ' ∧ (fl = .next ∨ fl = .retk) ∧ look σ' "a_digits" = some (.lat l ys, true) := by
  unfold digs at h
  by_cases e : L + 1 = R
  · rw [if_pos e] at h
    split at h
    · rename_i q
      cases h
      refine ⟨.retk, _, .stop (StT.ifT (.to (TsT.cmp (EvT.add (EvT.name rfl) EvT.int) (EvT.name rfl) (CmpR.eq rfl rfl)) (by simp [PyData.eqv, e])) (.cons (StT.storeLat rfl (.inl (EvT.name rfl)) (EvT.name rfl) q.1 q.2 hz) (.stop StT.retk nofun))) nofun, .inr rfl, rfl⟩
    · cases h
  · rw [if_neg e] at h
    simp only [Option.bind_eq_some_iff] at h
    obtain ⟨mid, h1, shift, h2, upper, h3, t', h4, zs, h5, h6⟩ := h
    have z1 := digs_len h5
    have f1 := digs_flat h5 hf
    refine ⟨.next, _, .cons (StT.ifF (.to (TsT.cmp (EvT.add (EvT.name rfl) EvT.int) (EvT.name rfl) (CmpR.eq rfl rfl)) (by simp [PyData.eqv, e])) .nil)
      (.cons (StT.assign (.inl (EvT.shrO h1 (EvT.add (EvT.name rfl) (EvT.name rfl)) EvT.int)) rfl)
      (.cons (StT.assign (.inl (EvT.mulO h2 (EvT.sub (EvT.name rfl) (EvT.name rfl)) (EvT.name rfl))) rfl)
      (.cons (StT.assign (.inl (EvT.shrO h3 (EvT.name rfl) (EvT.name rfl))) rfl)
      (.cons (StT.assign (.inl (EvT.bxor (EvT.name rfl) (EvT.shlO h4 (EvT.name rfl) (EvT.name rfl)))) rfl)
      (.cons (StT.callClo (o := "a_digits") rfl rfl (.inl (.of3 (EvT.name rfl) (EvT.name rfl) (EvT.name rfl))) (ih _ _ _ _ _ h5 hz hf) hf f1)
      (.cons (StT.callClo (o := "a_digits") rfl rfl (.inl (.of3 (EvT.name rfl) (EvT.name rfl) (EvT.name rfl))) (ih _ _ _ _ _ h6 (by omega) f1) f1 (digs_flat h6 f1)) .nil)))))), .inl rfl, rfl⟩
structure DCells (u : U) (fa l cn ci ca : Addr) : Prop where
  hl : u.lim ≤ l
  hn : u.lim ≤ cn
  hi : u.lim ≤ ci
  ha : u.lim ≤ ca
  ni : cn ≠ ci
  na : cn ≠ ca
  ia : ci ≠ ca
theorem digs_call (D : DCells u fa l cn ci ca) : ∀ f x L R xs ys, digs n f x L R xs = some ys → xs.length < 2 ^ 62 → xs.all flat = true → InC u (k + f) fa (dFd qual cn ci ca doc pm cv ctv) (dCs cn ci ca fa l n t) l [I x, I L, I R] xs ys := by
  intro f
  induction f with
  | zero => intro x L R xs ys h; cases h
  | succ f ih =>
    intro x L R xs ys h hz hf A s Rr ws m vs ok wd hlst hr rv r hpost
    obtain ⟨fl, σ', bdy, hfl, hσ⟩ := digs_body (fun x L R xs ys => ih x L R xs ys) h hz hf
    obtain ⟨vx, vs1, rfl, rx, rv1⟩ := RepVs.invc rv
    obtain ⟨vL, vR, rfl, rL, rR⟩ := RepVs.inv2 rv1
    obtain ⟨o, ho, hod⟩ := r.2.1
    have hcs := r.2.2.2.2.1
    have cell_l : ∀ c v, s.heap.IsCell c v → c ≠ l := fun c v hc e => by
      obtain ⟨o', e1, e2⟩ := hc
      rw [e, hlst] at e1; cases e1; cases e2
    have r1 : Rep u (fun a => a = l) s.heap (.ref fa) (.clo fa (dFd qual cn ci ca doc pm cv ctv) (dCs cn ci ca fa l n t) []) :=
      ⟨rfl, ⟨o, ho, hod⟩, (fun e => by rw [e, hlst] at ho; cases ho; cases hod), r.2.2.2.1, fun p hp => ⟨(hcs p hp).1, cell_l _ _ (hcs p hp).1⟩, fun p hp => by cases hp⟩
    refine clo_call (binds := [("x", vx), ("L", vL), ("R", vR)]) ok wd r (.of_eq rfl) rfl rfl rfl (by rfl) (fun x hx => ?_) (fun x c hx => ?_) (fun x y c hx hy => ?_) fun env h1 tk he hfr hcells hloc hkp hns => ?_
    · simp only [List.mem_cons, List.mem_nil_iff, or_false] at hx
      rcases hx with rfl | rfl | rfl <;> rfl
    · have q := mem_of_lookup hx
      simp only [List.mem_cons, List.mem_nil_iff, or_false, Prod.mk.injEq] at q
      rcases q with ⟨_, rfl⟩ | ⟨_, rfl⟩ | ⟨_, rfl⟩
      · exact ⟨⟨_, .head _⟩, D.hn⟩
      · exact ⟨⟨_, .tail _ (.head _)⟩, D.hi⟩
      · exact ⟨⟨_, .tail _ (.tail _ (.head _))⟩, D.ha⟩
    · have q := mem_of_lookup hx
      have q' := mem_of_lookup hy
      simp only [List.mem_cons, List.mem_nil_iff, or_false, Prod.mk.injEq] at q q'
      rcases q with ⟨rfl, rfl⟩ | ⟨rfl, rfl⟩ | ⟨rfl, rfl⟩ <;> rcases q' with ⟨rfl, q'⟩ | ⟨rfl, q'⟩ | ⟨rfl, q'⟩ <;>
        first | rfl | exact absurd q' D.ni | exact absurd q'.symm D.ni | exact absurd q' D.na | exact absurd q'.symm D.na | exact absurd q' D.ia | exact absurd q'.symm D.ia
    have K : Keeps u Nil s.heap h1 := .ext hkp
    have nocell : ∀ y, env.kindOf y ≠ some .cell := fun y q => by
      rw [he.kindOf] at q
      have q2 := mem_of_lookup q
      have : (inS 6 1).names.all (fun x => x.2 != .cell) = true := by rfl
      exact absurd (List.all_eq_true.mp this _ q2) (by show ¬ ((NameKind.cell != NameKind.cell) = true); decide)
    have fw : ∀ a, FW env a → New s.heap a := by
      rintro a (rfl | ⟨y, q, _⟩)
      · exact .none (Heap.get?_none_of_le hloc)
      · exact (nocell y q).elim
    have loc : ∀ y v, (inS 6 1).names.lookup y = some .local → ([("x", vx), ("L", vL), ("R", vR)] : List (Str × Value)).reverse.lookup y = some v → Sees env h1 y v := fun y v q q2 => .inl ⟨by rw [he.kindOf]; exact q, _, hns, q2⟩
    have fre : ∀ y c v, (inS 6 1).names.lookup y = some .free → (dClos cn ci ca).lookup y = some c → (c, v) ∈ dCs cn ci ca fa l n t → Sees env h1 y v := fun y c v q q2 q3 => by
      obtain ⟨o', e1, e2⟩ := (hcs _ q3).1
      exact .inr ⟨.inr (by rw [he.kindOf]; exact q), c, by rw [hcells]; exact q2, o', hkp _ _ e1, e2⟩
    have own0 : ∀ y d, look (dSt qual fa l cn ci ca doc pm cv ctv n t xs x L R) y = some (d, true) → y = "a_digits" ∧ d = .lat l xs := fun y d hy => by
      unfold dSt at hy
      simp only [look_cons] at hy
      repeat' split at hy
      all_goals first | (cases hy; exact ⟨‹_›, rfl⟩) | cases hy
    have fs : ∀ a, Full Nil (fun _ => l) (dSt qual fa l cn ci ca doc pm cv ctv n t xs x L R) env a → a = l ∨ New s.heap a := by
      rintro a (q | q | ⟨y, d, hy, q⟩)
      · exact q.elim
      · exact .inr (fw a q)
      · exact .inl q.symm
    have M : MatchS u Nil (fun _ => l) env h1 (dSt qual fa l cn ci ca doc pm cv ctv n t xs x L R) := by
      refine ⟨fun a q => q.elim, hfr, fun a _ q => q, fun y d hy => ?_, fun y d hy => ?_, fun y z d e hy hz _ => (own0 y d hy).1.trans (own0 z e hz).1.symm⟩
      · unfold dSt at hy
        simp only [look_cons] at hy
        repeat' split at hy
        all_goals first | cases hy | skip
        · rename_i q; subst q; exact ⟨vx, loc _ _ (by rfl) (by rfl), flat_rep (d := I x) rfl rx⟩
        · rename_i q; subst q; exact ⟨vL, loc _ _ (by rfl) (by rfl), flat_rep (d := I L) rfl rL⟩
        · rename_i q; subst q; exact ⟨vR, loc _ _ (by rfl) (by rfl), flat_rep (d := I R) rfl rR⟩
        · rename_i q; subst q; exact ⟨_, fre _ cn _ (by rfl) (by rfl) (.head _), RepP.int _ _⟩
        · rename_i q; subst q; exact ⟨_, fre _ ci _ (by rfl) (by rfl) (.tail _ (.head _)), (r1.fresh fs).step K fun _ => nonil⟩
      · obtain ⟨rfl, rfl⟩ := own0 y d hy
        exact ⟨ws, m, xs, .inr rfl, fre _ ca _ (by rfl) (by rfl) (.tail _ (.tail _ (.head _))), hkp _ _ hlst, flat_reps hf hr, D.hl, id⟩
    refine bdy env Nil (fun _ => l) (A.deeper env) { s with heap := h1, toks := tk } _ he (ok.deeper env) (wd.ext hkp) M fun f2 h2 t2 ad2 fr k2 P2 => ?_
    have P := P2 (by rcases hfl with rfl | rfl <;> rfl)
    have K2 : Keeps u (fun b => b = l) s.heap h2 := by
      refine Keeps.then (.ext hkp) k2 fun b o kp e e' q => ?_
      rcases q with q | ⟨y, d, hy, q⟩
      · exact (fw b q o e (by
          rcases q with rfl | ⟨y, q, _⟩
          · exact absurd (Heap.lt_size e) (Nat.not_lt.mpr hloc)
          · exact (nocell y q).elim)).elim
      · exact q.symm
    obtain ⟨ws', m', ys', e0, e1, e2, e3, e4, e5⟩ := P.ms.own "a_digits" _ hσ
    have hll : l = ad2 "a_digits" ∧ ys = ys' := by
      rcases e0 with e0 | e0
      · cases e0
      · injection e0 with q1 q2; exact ⟨q1, q2⟩
    obtain ⟨q1, rfl⟩ := hll
    have fin := hpost h2 t2 ws' m' K2 (q1 ▸ e2) (e3.anti fun _ => nonil)
    rcases hfl with rfl | rfl
    · cases f2 with
      | next => exact fin
      | _ => exact fr.elim
    · cases f2 with
      | ret v => cases fr; exact fin
      | _ => exact fr.elim
end
end
section
/-- f is the text's function i, which makes a function of its own at statement j -/
noncomputable def FnN (u : U) (f : Str) (i j : Nat) : Prop := ∃ a doc pm an ct q, FnAt u f a (fnX f f (paramsAt i) (bodyAt i) (scopeAt i) [] .none .none doc pm an (.ref q.c) ct) ∧ NestAt u q ∧ q.pos = inPos i j ∧ q.qual = f ++ ".<locals>." ++ "inner"
theorem FnN.has {u : U} {f : Str} {i j : Nat} (F : FnN u f i j) : Has u f := let ⟨a, _, _, _, _, _, F, _⟩ := F; ⟨a, _, F⟩
theorem CaT.of_bodyE {u : U} {k : Nat} {f : Str} {a : Addr} {fd : FuncData} {args kds : List Vd} {names : List Str} {sc : Scope} {bd : List Stmt} {ps : List (Str × Vd)} {d : Vd}
    (F : FnAt u f a fd) (hb : fd.body = .stmts bd) (hs : fd.scope = sc) (hc : fd.closure = []) (hk : sc.kind = .function) (hco : sc.isCoroutine = false) (hgen : sc.isGenerator = false)
    (bind : ∀ N s vs kvs, Wd u s.heap → RepVs u N s.heap vs args → RepVs u N s.heap kvs kds → ∃ bs, BindsTo s fd ⟨vs, names.zip kvs⟩ bs ∧ Binds u N s.heap bs ps)
    (nd : (ps.map (·.1)).Nodup) (st : ∀ p ∈ ps, canStore sc p.1 = true)
    (body : ∀ (env : Env) (N : Addr → Prop) (A : Around) (s : Shared) (Q : Flow → Shared → Prop), EnvIs sc env → env.code = fd.code → env.qual = fd.qualname ++ ".<locals>." → Ok A k → Wd u s.heap → MatchS u N (fun _ => 0) env s.heap (start ps) →
      (∀ v h' tk, Rep u N h' v d → Keeps u (FW env) s.heap h' → Q (.ret v) { s with heap := h', toks := tk }) → wpAny u.M A (execs bd env) Q NoE s) : CaT u (k + 1) f args names kds d := by
  intro N A s R a' vs kvs ok wd lv hm r1 r2 h
  rw [F.mg] at hm; cases hm
  obtain ⟨o, ho, hd⟩ := F.here wd
  obtain ⟨bs, hbs, B⟩ := bind N s vs kvs wd r1 r2
  subst hs
  have hkind : ∀ x ∈ bs, fd.scope.names.lookup x.1 = some .local ∨ (fd.scope.names.lookup x.1 = some .cell ∧ ((cellsFrom (s.heap.objs.size + 1) fd.scope.names []).lookup x.1).isSome = true) := fun x hx => by
    have : x.1 ∈ bs.map (·.1) := List.mem_map.mpr ⟨_, hx, rfl⟩
    rw [B.names] at this
    obtain ⟨p, hp, e⟩ := List.mem_map.mp this
    have c := st p hp
    rw [e] at c
    rcases Bool.or_eq_true_iff.mp c with q | q
    · exact .inl (eq_of_beq q)
    · exact .inr ⟨eq_of_beq q, cells_some _ _ _ (.inr (eq_of_beq q))⟩
  refine codeAny_call_function (by have := ok.depth; omega) ho hd hco hgen hb (F.codeRec wd) (hbs _ _ _ _ ?_)
  rw [hc]
  refine wpAny_newFunctionEnv_cells hk hkind fun env he s' x => ⟨wd.nl.keeps x.toInCall.keep, codeAny_func ?_⟩
  have hE : EnvIs fd.scope env := by
    subst he
    exact ⟨rfl, hk, F.globals, F.builtins, fun y hy => Option.isSome_iff_exists.mp (cells_some _ _ _ (.inr hy))⟩
  obtain ⟨M, hF⟩ := frame_match hE wd lv x B nd st
  obtain ⟨h1, t1, rfl⟩ := x.toInCall.same
  refine wpAny_mono (body env N (A.deeper env) { s with heap := h1, toks := t1 } (fun f s' => R (.ok (.ret (match f with | .ret v => v | _ => .none))) s') hE (by subst he; rfl) (by subst he; rfl) (ok.deeper env) (wd.ext x.toInCall.keep) M fun v h2 t2 fr k2 => ?_) (fun _ _ q => q) fun _ _ q => q.elim
  exact h v h2 t2 (Keeps.then (.ext x.toInCall.keep) k2 fun b o _ e _ q => absurd (Heap.lt_size e) (Nat.not_lt.mpr (hF b q.fa))) fr
theorem sees_cell {sc : Scope} {env : Env} {h : Heap} {x : Str} {v : Value} {c : Addr} (he : EnvIs sc env) (hk : sc.names.lookup x = some .cell) (hc : env.cells.lookup x = some c) (s : Sees env h x v) : h.IsCell c (some v) := by
  rcases s with ⟨e, _⟩ | ⟨_, c', h1, h2⟩
  · rw [he.kindOf, hk] at e; cases e
  · rw [hc] at h1; cases h1; exact h2
/-- a def within a function -/
theorem def_run {u : U} {sc : Scope} {σ : St} {env : Env} {N : Addr → Prop} {ad : Str → Addr} {A : Around} {s : Shared} {name : Str} {params : Arguments} {body : List Stmt} {scope : Scope} {clos : List (Str × Addr)} {q : Nest} {Q : Flow → Shared → Prop}
    (n : NestAt u q) (he : EnvIs sc env) (wd : Wd u s.heap) (M : MatchS u N ad env s.heap σ) (hcode : env.code = .ref q.c) (hcl : closureFor scope env = pure clos) (hq : qualnameIn env name name = q.qual) (hst : canStore sc name = true)
    (hd0 : params.defaults = []) (hk0 : params.kw_defaults = []) (ha : annTrees params none env = []) {pos : Pos} (hpos : q.pos = pos)
    (h : ∀ f h' tk doc pm ctv cv, Keeps u (FW env) s.heap h' → MatchS u N ad env h' ((name, (.clo f (fnX name q.qual params body scope clos .none .none doc pm none cv ctv) [] [], false)) :: σ) → Q .next { s with heap := h', toks := tk }) :
    wpAny u.M A (exec (.FunctionDef name params body [] none [] scope none name pos) env) Q NoE s := by
  subst hpos
  refine nestDef_K hd0 hk0 ha ?_
  rw [hq]
  refine make_fn n wd hcl he.globals hcode fun f h1 t1 doc pm ctv cv k1 nf zf ho hr => ?_
  have M1 := M.step k1
  have nF : ¬ Full N ad σ env f := fun q => by
    obtain ⟨o, e, t⟩ := M.liveF f q
    exact nf.new o e t
  refine store_use (s := { s with heap := h1, toks := t1 }) (d := .clo f (fnX name q.qual params body scope clos .none .none doc pm none cv ctv) [] []) hst he M1 (by refine ⟨rfl, ⟨_, ho, rfl⟩, nF, hr, ?_, ?_⟩ <;> (intro p hp; cases hp)) fun h2 t2 k2 M2 => ?_
  exact h f h2 t2 doc pm ctv cv ((k1.mono fun _ => nonil).trans k2) M2
theorem names6 : (inS 6 1).names = ([("x", .local), ("L", .local), ("R", .local), ("mid", .local), ("shift", .local), ("upper", .local), ("lower", .local), ("a_digits", .free), ("inner", .free), ("n", .free)] : List (Str × NameKind)) := by rfl
theorem clos6 {env : Env} {cn ca ci : Addr} (hn : env.cells.lookup (Str.ofString "n") = some cn) (ha : env.cells.lookup (Str.ofString "a_digits") = some ca) (hi : env.cells.lookup (Str.ofString "inner") = some ci) : closureFor (inS 6 1) env = pure (dClos cn ci ca) := by
  unfold closureFor cellOf
  rw [names6]
  simp [hn, ha, hi]
/-! _int2digits -/
noncomputable def i2d (a n : Int) : Option (List PyData) :=
  (divO (bits a + n - 1) n).bind fun c => if 0 ≤ c ∧ c < 1048576 then (if a != 0 then digs n 40 a 0 c (List.replicate c.toNat (.int 0)) else some (List.replicate c.toNat (.int 0))) else none
theorem i2d_flat {a n : Int} {ys : List PyData} (h : i2d a n = some ys) : ys.all flat = true := by
  unfold i2d at h
  simp only [Option.bind_eq_some_iff] at h
  obtain ⟨c, hc, h⟩ := h
  split at h
  · have e : (List.replicate c.toNat (PyData.int 0)).all flat = true := by simp [flat]
    split at h
    · exact digs_flat h e
    · cases h; exact e
  · cases h
variable {u : U} {k : Nat}
theorem law_i2d (T : Tops u) (F : FnN u "_int2digits" 6 1) {a n : Int} {ys : List PyData} (h : i2d a n = some ys) : CaT u (k + 41) "_int2digits" [I a, I n] [] [] (Ls ys) := by
  have fy := i2d_flat h
  unfold i2d at h
  simp only [Option.bind_eq_some_iff] at h
  obtain ⟨c, hc, h⟩ := h
  split at h
  case isFalse => cases h
  rename_i hcb
  obtain ⟨fa, doc, pm, an, ct, q, F, NA, hqp, hqq⟩ := F
  refine CaT.of_bodyE (ps := [("a", I a), ("n", I n)]) F rfl rfl rfl (by rfl) (by rfl) (by rfl) (fun N s vs kvs wd r1 r2 => ?_) (show ([("a" : Str), "n"]).Nodup by decide) (by
    intro p hp
    simp only [List.mem_cons, List.mem_nil_iff, or_false] at hp
    rcases hp with rfl | rfl <;> rfl) fun env N A s Q he hcode hqual ok wd M hQ => ?_
  · obtain ⟨v, v', rfl, q1, q2⟩ := RepVs.inv2 r1
    exact ⟨_, .of_eq rfl, rfl, q1, rfl, q2, trivial⟩
  -- the digits, all 0
  refine wpAny_execs_cons ((StT.assignF (k := k + 40) (x := "a_digits") (xs := List.replicate c.toNat (.int 0)) (.inl (EvFr.lmul (EvT.list (ds := [.int 0]) (.of1 EvT.int)) (EvT.divO hc (EvT.sub (EvT.add (EvT.bits (EvT.name rfl)) (EvT.name rfl)) EvT.int) (EvT.name rfl)) hcb.1 (by omega))) rfl) env N (fun _ => 0) A s _ he ok wd M fun f h1 t1 ad1 fr k1 P1 => ?_)
  cases f with
  | brk => exact fr.elim
  | cont => exact fr.elim
  | ret v => exact fr.elim
  | next =>
  have M1 := (P1 rfl).ms
  have w1 := k1.wd wd
  -- inner
  obtain ⟨cn, hcn⟩ := he.cells "n" (by rfl)
  obtain ⟨ca, hca⟩ := he.cells "a_digits" (by rfl)
  obtain ⟨ci, hci⟩ := he.cells "inner" (by rfl)
  have hcl : closureFor (inS 6 1) env = pure (dClos cn ci ca) := clos6 hcn hca hci
  refine wpAny_execs_cons ?_
  refine def_run (u := u) (s := { s with heap := h1, toks := t1 }) (name := "inner") (params := inP 6 1) (body := inB 6 1) (scope := inS 6 1) (clos := dClos cn ci ca) NA he w1 M1 hcode hcl ?_ (by rfl) (by rfl) (by rfl) (by rfl) (hqp.trans (by rfl)) fun f2 h2 t2 doc2 pm2 ctv2 cv2 k2 M2 => ?_
  · unfold qualnameIn
    rw [he.kindOf, show (scopeAt 6).names.lookup (Str.ofString "inner") = some .cell by rfl, if_neg (by decide), hqual, hqq]
  have noOwn : ∀ y d, look (start [("a", I a), ("n", I n)]) y ≠ some (d, true) := fun y d hy => by
    simp only [start, List.map_cons, List.map_nil, look_cons] at hy
    repeat' split at hy
    all_goals cases hy
  have K0 : Keeps u (FW env) s.heap h2 := (k1.mono fun b q => q.elim id fun ⟨y, d, hy, _⟩ => (noOwn y d hy).elim).trans k2
  have w2 := k2.wd w1
  have lnew : New s.heap (ad1 "a_digits") := by
    rcases (P1 rfl).own "a_digits" _ (by rfl) with ⟨y, d, hy, _⟩ | q
    · exact (noOwn y d hy).elim
    · exact q
  obtain ⟨vn, hvn, rn⟩ := M2.val "n" _ (by rfl)
  obtain ⟨tn, rfl⟩ := RepP.int_inv rn
  obtain ⟨ws, m, xs', e0, hva, hget, hreps, hlB, hlN⟩ := M2.own "a_digits" _ (by rfl)
  have e9 := e0.lst
  cases e9
  obtain ⟨vi, hvi, ri⟩ := M2.val "inner" _ (by rfl)
  obtain ⟨rfl, ⟨ob, hob, hdat⟩, _, hrec, _⟩ := id ri
  have cN := sees_cell he (by rfl) hcn hvn
  have cA := sees_cell he (by rfl) hca hva
  have cI := sees_cell he (by rfl) hci hvi
  have D : DCells u f2 (ad1 "a_digits") cn ci ca := ⟨hlB, M2.fr.cellNew _ _ hcn, M2.fr.cellNew _ _ hci, M2.fr.cellNew _ _ hca,
    fun e => absurd (M2.fr.cellInj _ _ _ hcn (e ▸ hci)) (by decide), fun e => absurd (M2.fr.cellInj _ _ _ hcn (e ▸ hca)) (by decide), fun e => absurd (M2.fr.cellInj _ _ _ hci (e ▸ hca)) (by decide)⟩
  have rc : Rep u Nil h2 (.ref f2) (.clo f2 (dFd q.qual cn ci ca doc2 pm2 cv2 ctv2) (dCs cn ci ca f2 (ad1 "a_digits") n tn) []) := by
    refine ⟨rfl, ⟨ob, hob, hdat⟩, id, hrec, fun p hp => ⟨?_, id⟩, fun p hp => by cases hp⟩
    simp only [List.mem_cons, List.mem_nil_iff, or_false] at hp
    rcases hp with rfl | rfl | rfl
    · exact cN
    · exact cI
    · exact cA
  have e1 := hreps.length
  -- what comes after the digits are laid
  have fin : ∀ (σ : St) h5 t5, Keeps u (fun b => b = ad1 "a_digits") h2 h5 → MatchS u N ad1 env h5 σ → (∀ y d, look σ y = some (d, true) → y = "a_digits") → look σ "a_digits" = some (Ls ys, true) →
      wpAny u.M A (execs ((bodyAt 6).drop 3) env) Q NoE { s with heap := h5, toks := t5 } := fun σ h5 t5 k5 M5 hown hσ => by
    refine (ExT.stop (σ' := []) (StT.disown hσ (StT.ret (k := k + 40) (.inl (EvT.name (d := Ls ys) (by rw [look_cons, if_pos rfl]))))) nofun) env N ad1 A { s with heap := h5, toks := t5 } Q he ok (k5.wd w2) M5 fun f h6 t6 ad6 fr6 k6 P6 => ?_
    cases f with
    | ret v =>
      refine hQ v h6 t6 fr6 ((K0.then k5 fun b o _ e e' q => ?_).then k6 fun b o _ e e' q => ?_)
      · subst q; rw [hget] at e'; cases e'; exact (lnew _ e tr_list).elim
      · rcases q with q | ⟨y, d, hy, rfl⟩
        · exact q
        · have := hown y d hy
          subst this
          obtain ⟨ws', m', _, _, _, g2, _⟩ := M5.own _ _ hσ
          rw [g2] at e'; cases e'; exact (lnew _ e tr_list).elim
    | _ => exact fr6.elim
  have own2 : ∀ y d, look (("inner", (.clo f2 (fnX "inner" q.qual (inP 6 1) (inB 6 1) (inS 6 1) (dClos cn ci ca) .none .none doc2 pm2 none cv2 ctv2) [] [], false)) :: ("a_digits", (Ls (List.replicate c.toNat (.int 0)), true)) :: start [("a", I a), ("n", I n)]) y = some (d, true) → y = "a_digits" := fun y d hy => by
    simp only [start, List.map_cons, List.map_nil, look_cons] at hy
    repeat' split at hy
    all_goals first | assumption | cases hy
  by_cases ha : (a != 0) = true
  · rw [if_pos ha] at h
    refine wpAny_execs_cons (wpAny_If ((TsT.num (b := true) (EvT.name rfl) ha).use (M2.hereP he ok w2) fun h3 t3 k3 H3 => ?_))
    have M3 := M2.step k3
    obtain ⟨vi3, hvi3, ri3⟩ := M3.val "inner" _ (by rfl)
    obtain ⟨rfl, ⟨ob3, hob3, hdat3⟩, _⟩ := id ri3
    show wpAny u.M A (execs [_] env) _ NoE _
    refine wpAny_execs_cons (wpAny_Expr (Call_ (sees_name he hvi3 (Calls.callWith_function (o := ob3) (fd := _) (EvXs.args (k := k + 40) (ds := [I a, I 0, I c]) (.inr ⟨by rfl, .of3 (EvT.name rfl) EvT.int (.toI (EvT.lenl (T.bl (by decide) (by rfl)) (EvT.name rfl) (by simp; omega)) (by simp; omega))⟩) (by rfl) he ok H3.wd M3 fun vs h4 t4 k4 w4 M4 r4 => ⟨⟨k4.old _ _ hob3 (.inr fun ps e => by rw [hdat3] at e; cases e) id, hdat3⟩, ?_⟩)))) (by unfold interactive; rw [he.fn]; rfl) rfl)
    have k24 := k3.trans k4
    have hg4 := k24.old _ _ hget kp_list id
    refine wpAny_call (digs_call D 40 a 0 c _ ys h (by simp; omega) (by simp [flat]) A _ _ ws m vs ok w4 hg4 ((hreps.step k24 fun _ => nonil).anti fun _ => nonil) (r4.anti fun _ => nonil) (rc.step k24 fun _ => nonil) fun h5 t5 ws' m' K5 ha5 r5 => ?_)
    refine wpAny_execs_nil ?_
    exact fin _ h5 t5 (((k24.mono fun _ => nonil).trans K5)) (M4.mutateK (x := "a_digits") (by rfl) K5 ha5 (flat_reps fy r5)) (fun y d hy => by
      rw [look_cons] at hy
      split at hy
      · assumption
      · exact own2 y d hy) (by rfl)
  · rw [if_neg ha] at h
    cases h
    refine wpAny_execs_cons (wpAny_If ((TsT.num (b := false) (EvT.name rfl) (eq_false_of_ne_true ha)).use (M2.hereP he ok w2) fun h3 t3 k3 H3 => ?_))
    show wpAny u.M A (execs [] env) _ NoE _
    refine wpAny_execs_nil ?_
    exact fin _ h3 t3 (k3.mono fun _ => nonil) (M2.step k3) own2 (by rfl)
end
section
/-- fa, called, gives d and changes nothing -/
noncomputable def CaC (u : U) (k : Nat) (fa : Addr) (fd : FuncData) (cs : List (Addr × Value)) (hs : List (Value × PyData)) (args : List Vd) (d : Vd) : Prop :=
  ∀ (N : Addr → Prop) (A : Around) (s : Shared) (R : Result → Shared → Prop) (vs : List Value), Ok A k → Wd u s.heap → Live N s.heap → RepVs u N s.heap vs args → Rep u N s.heap (.ref fa) (.clo fa fd cs hs) →
    (∀ v h' tk, Keeps u Nil s.heap h' → Rep u N h' v d → R (.ok (.ret v)) { s with heap := h', toks := tk }) → codeAny u.M A (.call (.ref fa) ⟨vs, []⟩) R s
section
variable {u : U} {k : Nat} {sc : Scope} {σ : St} {pos p cp : Pos} {x : Str} {fa : Addr} {fd : FuncData} {cs : List (Addr × Value)} {hs : List (Value × PyData)} {d : Vd}
theorem EvT.callClo {es : List Expr} {args : List Vd} (hx : look σ x = some (.clo fa fd cs hs, false)) (t : EvTs u k sc σ es args) (c : CaC u k fa fd cs hs args d)
    (hp : es.all plainE = true := by rfl) (hd : (x == ("__debug__" : Str)) = false := by decide) (hc : (x == ("__classdict__" : Str)) = false := by decide) : EvT u k sc σ (.Call (.Name x p) es [] cp) d :=
  EvT.mk fun env N A s Q H h => by
    obtain ⟨v, hv, r⟩ := H.lk x _ hx
    obtain ⟨rfl, ⟨ob, hob, hdat⟩, _⟩ := id r
    refine Call_ (sees_name H.is hv (Calls.callWith_function (o := ob) (fd := fd) (evalArgs_use t hp H fun vs h1 t1 k1 H1 r1 => ⟨⟨k1.old _ _ hob (.inr fun ps e => by rw [hdat] at e; cases e) id, hdat⟩, ?_⟩)) hd hc)
    exact wpAny_call (c N A { s with heap := h1, toks := t1 } _ vs H1.ok H1.wd H1.live r1 (r.step k1 fun _ => nonil) fun v h2 t2 k2 r2 => h v h2 t2 (k1.trans k2) r2)
end
/-! _digits2int -/
noncomputable def dgi (xs : List PyData) (n : Int) : Nat → Int → Int → Option Int
  | 0, _, _ => none
  | f + 1, l, r =>
    if l + 1 = r then (if 0 ≤ l then (match xs[l.toNat]? with | some (.int i) => some i | _ => none) else none)
    else (shrO (l + r) 1).bind fun mid => (mulO (mid - l) n).bind fun shift => (dgi xs n f mid r).bind fun hi => (shlO hi shift).bind fun t => (dgi xs n f l mid).bind fun lo => some (t + lo)
section
variable {u : U} {k : Nat} {fa l cn ci cd : Addr} {qual : Str} {doc pm cv ctv : Value} {n : Int} {t : Tok} {xs : List PyData}
noncomputable abbrev eClos (cn ci cd : Addr) : List (Str × Addr) := [("n", cn), ("inner", ci), ("digits", cd)]
noncomputable abbrev eFd (qual : Str) (cn ci cd : Addr) (doc pm cv ctv : Value) : FuncData := fnX "inner" qual (inP 7 0) (inB 7 0) (inS 7 0) (eClos cn ci cd) .none .none doc pm none cv ctv
noncomputable abbrev eCs (cn ci cd fa l : Addr) (n : Int) (t : Tok) : List (Addr × Value) := [(cn, .int n t), (ci, .ref fa), (cd, .ref l)]
noncomputable abbrev eSt (qual : Str) (fa l cn ci cd : Addr) (doc pm cv ctv : Value) (n : Int) (t : Tok) (xs : List PyData) (L R : Int) : St :=
  [("L", (I L, false)), ("R", (I R, false)), ("n", (I n, false)), ("digits", (Ls xs, false)), ("inner", (.clo fa (eFd qual cn ci cd doc pm cv ctv) (eCs cn ci cd fa l n t) [(.ref l, .list xs)], false))]
theorem dgi_body {f : Nat} (ih : ∀ L R i, dgi xs n f L R = some i → CaC u k fa (eFd qual cn ci cd doc pm cv ctv) (eCs cn ci cd fa l n t) [(.ref l, .list xs)] [I L, I R] (I i))
    {L R i : Int} (h : dgi xs n (f + 1) L R = some i) (hz : xs.length < 2 ^ 62) : ExT u k (inS 7 0) (eSt qual fa l cn ci cd doc pm cv ctv n t xs L R) (inB 7 0) (.ret (I i)) [] := by
  unfold dgi at h
  by_cases e : L + 1 = R
  · rw [if_pos e] at h
    split at h
    · rename_i q
      split at h
      · rename_i j hj
        cases h
        have hlt : L.toNat < xs.length := (List.getElem?_eq_some_iff.mp hj).1
        exact .stop (StT.ifT (.to (TsT.cmp (EvT.add (EvT.name rfl) EvT.int) (EvT.name rfl) (CmpR.eq rfl rfl)) (by simp [PyData.eqv, e])) (.stop (StT.ret (.inl (EvT.item (EvT.name rfl) (EvT.name rfl) q (by omega) hj))) nofun)) nofun
      · cases h
    · cases h
  · rw [if_neg e] at h
    simp only [Option.bind_eq_some_iff] at h
    obtain ⟨mid, h1, shift, h2, hi, h3, t', h4, lo, h5, h6⟩ := h
    cases h6
    exact .cons (StT.ifF (.to (TsT.cmp (EvT.add (EvT.name rfl) EvT.int) (EvT.name rfl) (CmpR.eq rfl rfl)) (by simp [PyData.eqv, e])) .nil)
      (.cons (StT.assign (.inl (EvT.shrO h1 (EvT.add (EvT.name rfl) (EvT.name rfl)) EvT.int)) rfl)
      (.cons (StT.assign (.inl (EvT.mulO h2 (EvT.sub (EvT.name rfl) (EvT.name rfl)) (EvT.name rfl))) rfl)
      (.stop (StT.ret (.inl (EvT.add (EvT.shlO h4 (EvT.callClo rfl (.of2 (EvT.name rfl) (EvT.name rfl)) (ih _ _ _ h3)) (EvT.name rfl)) (EvT.callClo rfl (.of2 (EvT.name rfl) (EvT.name rfl)) (ih _ _ _ h5))))) nofun)))
theorem dgi_call (hn : u.lim ≤ cn) (hi : u.lim ≤ ci) (hd : u.lim ≤ cd) (ni : cn ≠ ci) (na : cn ≠ cd) (ia : ci ≠ cd) (hz : xs.length < 2 ^ 62) : ∀ f L R i, dgi xs n f L R = some i → CaC u (k + f) fa (eFd qual cn ci cd doc pm cv ctv) (eCs cn ci cd fa l n t) [(.ref l, .list xs)] [I L, I R] (I i) := by
  intro f
  induction f with
  | zero => intro L R i h; cases h
  | succ f ih =>
    intro L R i h N A s Rr vs ok wd lv rv r hpost
    have bdy := dgi_body (fun L R i => ih L R i) h hz
    obtain ⟨vL, vR, rfl, rL, rR⟩ := RepVs.inv2 rv
    have hcs := r.2.2.2.2.1
    have hhs := r.2.2.2.2.2
    refine clo_call (binds := [("L", vL), ("R", vR)]) ok wd r (.of_eq rfl) rfl rfl rfl (by rfl) (fun x hx => ?_) (fun x c hx => ?_) (fun x y c hx hy => ?_) fun env h1 tk he hfr hcells hloc hkp hns => ?_
    · simp only [List.mem_cons, List.mem_nil_iff, or_false] at hx
      rcases hx with rfl | rfl <;> rfl
    · have q := mem_of_lookup hx
      simp only [List.mem_cons, List.mem_nil_iff, or_false, Prod.mk.injEq] at q
      rcases q with ⟨_, rfl⟩ | ⟨_, rfl⟩ | ⟨_, rfl⟩
      · exact ⟨⟨_, .head _⟩, hn⟩
      · exact ⟨⟨_, .tail _ (.head _)⟩, hi⟩
      · exact ⟨⟨_, .tail _ (.tail _ (.head _))⟩, hd⟩
    · have q := mem_of_lookup hx
      have q' := mem_of_lookup hy
      simp only [List.mem_cons, List.mem_nil_iff, or_false, Prod.mk.injEq] at q q'
      rcases q with ⟨rfl, rfl⟩ | ⟨rfl, rfl⟩ | ⟨rfl, rfl⟩ <;> rcases q' with ⟨rfl, q'⟩ | ⟨rfl, q'⟩ | ⟨rfl, q'⟩ <;>
        first | rfl | exact absurd q' ni | exact absurd q'.symm ni | exact absurd q' na | exact absurd q'.symm na | exact absurd q' ia | exact absurd q'.symm ia
    have K : Keeps u Nil s.heap h1 := .ext hkp
    have nocell : ∀ y, env.kindOf y ≠ some .cell := fun y q => by
      rw [he.kindOf] at q
      have q2 := mem_of_lookup q
      have : (inS 7 0).names.all (fun x => x.2 != .cell) = true := by rfl
      exact absurd (List.all_eq_true.mp this _ q2) (by show ¬ ((NameKind.cell != NameKind.cell) = true); decide)
    have fwl : ∀ a, FW env a → s.heap.objs.size ≤ a := by
      rintro a (rfl | ⟨y, q, _⟩)
      · exact hloc
      · exact (nocell y q).elim
    have loc : ∀ y v, (inS 7 0).names.lookup y = some .local → ([("L", vL), ("R", vR)] : List (Str × Value)).reverse.lookup y = some v → Sees env h1 y v := fun y v q q2 => .inl ⟨by rw [he.kindOf]; exact q, _, hns, q2⟩
    have fre : ∀ y c v, (inS 7 0).names.lookup y = some .free → (eClos cn ci cd).lookup y = some c → (c, v) ∈ eCs cn ci cd fa l n t → Sees env h1 y v := fun y c v q q2 q3 => by
      obtain ⟨o', e1, e2⟩ := (hcs _ q3).1
      exact .inr ⟨.inr (by rw [he.kindOf]; exact q), c, by rw [hcells]; exact q2, o', hkp _ _ e1, e2⟩
    have own0 : ∀ y d, look (eSt qual fa l cn ci cd doc pm cv ctv n t xs L R) y ≠ some (d, true) := fun y d hy => by
      unfold eSt at hy
      simp only [look_cons] at hy
      repeat' split at hy
      all_goals cases hy
    have fs : ∀ a, Full N (fun _ => 0) (eSt qual fa l cn ci cd doc pm cv ctv n t xs L R) env a → N a ∨ New s.heap a := by
      rintro a (q | q | ⟨y, d, hy, q⟩)
      · exact .inl q
      · exact .inr (.none (Heap.get?_none_of_le (fwl a q)))
      · exact (own0 y d hy).elim
    have M : MatchS u N (fun _ => 0) env h1 (eSt qual fa l cn ci cd doc pm cv ctv n t xs L R) := by
      refine ⟨lv.step K, hfr, fun a q nn => ?_, fun y d hy => ?_, fun y d hy => (own0 y d hy).elim, fun y z d e hy => (own0 y d hy).elim⟩
      · obtain ⟨o, e, _⟩ := lv a nn
        exact absurd (Heap.lt_size e) (Nat.not_lt.mpr (fwl a q))
      · unfold eSt at hy
        simp only [look_cons] at hy
        repeat' split at hy
        all_goals first | cases hy | skip
        · rename_i q; subst q; exact ⟨vL, loc _ _ (by rfl) (by rfl), flat_rep (d := I L) rfl rL⟩
        · rename_i q; subst q; exact ⟨vR, loc _ _ (by rfl) (by rfl), flat_rep (d := I R) rfl rR⟩
        · rename_i q; subst q; exact ⟨_, fre _ cn _ (by rfl) (by rfl) (.head _), RepP.int _ _⟩
        · rename_i q; subst q; exact ⟨_, fre _ cd _ (by rfl) (by rfl) (.tail _ (.tail _ (.head _))), ((hhs _ (.head _)).fresh fs).step K fun _ => nonil⟩
        · rename_i q; subst q; exact ⟨_, fre _ ci _ (by rfl) (by rfl) (.tail _ (.head _)), (r.fresh fs).step K fun _ => nonil⟩
    refine bdy env N (fun _ => 0) (A.deeper env) { s with heap := h1, toks := tk } _ he (ok.deeper env) (wd.ext hkp) M fun f2 h2 t2 ad2 fr k2 P2 => ?_
    have K2 : Keeps u Nil s.heap h2 := by
      refine Keeps.then (.ext hkp) k2 fun b o kp e e' q => ?_
      rcases q with q | ⟨y, d, hy, q⟩
      · exact absurd (Heap.lt_size e) (Nat.not_lt.mpr (fwl b q))
      · exact (own0 y d hy).elim
    cases f2 with
    | ret v => exact hpost v h2 t2 K2 fr
    | _ => exact fr.elim
end
end
section
noncomputable def d2i (xs : List PyData) (n : Int) : Option Int := if xs.length < 1048576 then (if 0 < xs.length then dgi xs n 40 0 xs.length else some 0) else none
theorem names7 : (inS 7 0).names = ([("L", .local), ("R", .local), ("mid", .local), ("shift", .local), ("digits", .free), ("inner", .free), ("n", .free)] : List (Str × NameKind)) := by rfl
theorem clos7 {env : Env} {cn cd ci : Addr} (hn : env.cells.lookup (Str.ofString "n") = some cn) (ha : env.cells.lookup (Str.ofString "digits") = some cd) (hi : env.cells.lookup (Str.ofString "inner") = some ci) : closureFor (inS 7 0) env = pure (eClos cn ci cd) := by
  unfold closureFor cellOf
  rw [names7]
  simp [hn, ha, hi]
variable {u : U} {k : Nat}
theorem law_d2i (T : Tops u) (F : FnN u "_digits2int" 7 0) {xs : List PyData} {n i : Int} (h : d2i xs n = some i) : CaT u (k + 41) "_digits2int" [Ls xs, I n] [] [] (I i) := by
  unfold d2i at h
  split at h
  case isFalse => cases h
  rename_i hz
  obtain ⟨fa, doc, pm, an, ct, q, F, NA, hqp, hqq⟩ := F
  refine CaT.of_bodyE (ps := [("digits", Ls xs), ("n", I n)]) F rfl rfl rfl (by rfl) (by rfl) (by rfl) (fun N s vs kvs wd r1 r2 => ?_) (show ([("digits" : Str), "n"]).Nodup by decide) (by
    intro p hp
    simp only [List.mem_cons, List.mem_nil_iff, or_false] at hp
    rcases hp with rfl | rfl <;> rfl) fun env N A s Q he hcode hqual ok wd M hQ => ?_
  · obtain ⟨v, v', rfl, q1, q2⟩ := RepVs.inv2 r1
    exact ⟨_, .of_eq rfl, rfl, q1, rfl, q2, trivial⟩
  obtain ⟨cn, hcn⟩ := he.cells "n" (by rfl)
  obtain ⟨cd, hcd⟩ := he.cells "digits" (by rfl)
  obtain ⟨ci, hci⟩ := he.cells "inner" (by rfl)
  have hcl : closureFor (inS 7 0) env = pure (eClos cn ci cd) := clos7 hcn hcd hci
  refine wpAny_execs_cons ?_
  refine def_run (u := u) (name := "inner") (params := inP 7 0) (body := inB 7 0) (scope := inS 7 0) (clos := eClos cn ci cd) NA he wd M hcode hcl ?_ (by rfl) (by rfl) (by rfl) (by rfl) (hqp.trans (by rfl)) fun f2 h2 t2 doc2 pm2 ctv2 cv2 k2 M2 => ?_
  · unfold qualnameIn
    rw [he.kindOf, show (scopeAt 7).names.lookup (Str.ofString "inner") = some .cell by rfl, if_neg (by decide), hqual, hqq]
  have w2 := k2.wd wd
  have fin : ∀ v h3 t3, Keeps u Nil h2 h3 → Rep u N h3 v (I i) → Q (.ret v) { s with heap := h3, toks := t3 } := fun v h3 t3 k3 r3 => hQ v h3 t3 r3 (k2.trans (k3.mono fun _ => nonil))
  refine wpAny_execs_cons (wpAny_Return_some (wpAny_IfExp ((TsT.vlist (k := k + 40) (EvT.name rfl) (by omega)).use (M2.hereP he ok w2) fun h3 t3 k3 H3 => ?_)))
  have M3 := M2.step k3
  by_cases hpos : 0 < xs.length
  · rw [if_pos hpos] at h
    rw [decide_eq_true hpos]
    obtain ⟨vn, hvn, rn⟩ := M3.val "n" _ (by rfl)
    obtain ⟨tn, rfl⟩ := RepP.int_inv rn
    obtain ⟨vd, hvd, rd⟩ := M3.val "digits" _ (by rfl)
    obtain ⟨l, ws, m, rfl, hl, nl, rl⟩ := RepP.list_inv rd
    obtain ⟨vi, hvi, ri⟩ := M3.val "inner" _ (by rfl)
    obtain ⟨rfl, ⟨ob, hob, hdat⟩, nf, hrec, _⟩ := id ri
    have cN := sees_cell he (by rfl) hcn hvn
    have cA := sees_cell he (by rfl) hcd hvd
    have cI := sees_cell he (by rfl) hci hvi
    have ncell : ∀ x c, (scopeAt 7).names.lookup x = some .cell → env.cells.lookup x = some c → ¬ N c := fun x c hx hc => M3.frN c (.inr ⟨x, by rw [he.kindOf]; exact hx, hc⟩)
    have rc : Rep u N h3 (.ref f2) (.clo f2 (eFd q.qual cn ci cd doc2 pm2 cv2 ctv2) (eCs cn ci cd f2 l n tn) [(.ref l, .list xs)]) := by
      refine ⟨rfl, ⟨ob, hob, hdat⟩, fun z => nf (.inl z), hrec, fun p hp => ?_, fun p hp => ?_⟩
      · simp only [List.mem_cons, List.mem_nil_iff, or_false] at hp
        rcases hp with rfl | rfl | rfl
        · exact ⟨cN, ncell _ _ (by rfl) hcn⟩
        · exact ⟨cI, ncell _ _ (by rfl) hci⟩
        · exact ⟨cA, ncell _ _ (by rfl) hcd⟩
      · simp only [List.mem_cons, List.mem_nil_iff, or_false] at hp
        subst hp
        exact RepP.anti rd fun a z => .inl z
    show wpAny u.M A (eval (.Call _ _ _ _) env) _ NoE _
    refine Call_ (sees_name he hvi (Calls.callWith_function (o := ob) (fd := _) (evalArgs_use (k := k + 40) (ds := [I 0, I xs.length]) (.of2 EvT.int (EvT.lenl (T.bl (by decide) (by rfl)) (EvT.name rfl) (by omega))) (by rfl) (M3.hereP he ok H3.wd) fun vs h4 t4 k4 H4 r4 => ⟨⟨k4.old _ _ hob (.inr fun ps e => by rw [hdat] at e; cases e) id, hdat⟩, ?_⟩)))
    have fr := M3.fr
    refine wpAny_call (dgi_call (k := k) (fr.cellNew _ _ hcn) (fr.cellNew _ _ hci) (fr.cellNew _ _ hcd) (fun e => absurd (fr.cellInj _ _ _ hcn (e ▸ hci)) (by decide)) (fun e => absurd (fr.cellInj _ _ _ hcn (e ▸ hcd)) (by decide)) (fun e => absurd (fr.cellInj _ _ _ hci (e ▸ hcd)) (by decide)) (by omega) 40 0 xs.length i h
      N A { s with heap := h4, toks := t4 } _ vs ok H4.wd (M3.live.step k4) (r4.anti fun a z => .inl z) (rc.step k4 fun _ => nonil) fun v h5 t5 k5 r5 => ?_)
    exact fin v h5 t5 ((k3.trans k4).trans k5) r5
  · rw [if_neg hpos] at h
    cases h
    rw [decide_eq_false hpos]
    exact (EvT.int (u := u) (k := k) (sc := scopeAt 7) (σ := [])).use (s := { s with heap := h3, toks := t3 }) ⟨he, (ok.le (by omega)), H3.wd, M3.live, M3.fr, fun x d hx => by cases hx⟩ fun v h4 t4 k4 H4 r4 => fin v h4 t4 (k3.trans k4) r4
/-! _divmod_pos, int_divmod -/
noncomputable def dmLoop (b n : Int) : List PyData → Int → List PyData → Option (List PyData × Int)
  | [], r, qs => some (qs, r)
  | .int d :: ds, r, qs => (shlO r n).bind fun x => (d2 5 (x + d) b n).bind fun qr => if qs.length < 1000000 then dmLoop b n ds qr.2 (qs ++ [.int qr.1]) else none
  | _, _, _ => none
noncomputable def dmP (a b : Int) : Option (Int × Int) :=
  (i2d a (bits b)).bind fun ds => (dmLoop b (bits b) ds.reverse 0 []).bind fun x => if x.1.length < 1000000 then (d2i x.1.reverse (bits b)).bind fun q => some (q, x.2) else none
noncomputable def idm : Nat → Int → Int → Option (Int × Int)
  | 0, _, _ => none
  | f + 1, a, b =>
    if b = 0 then none
    else if b < 0 then (idm f (-a) (-b)).bind fun x => some (x.1, -x.2)
    else if a < 0 then (idm f (Builtin.bitNot a) b).bind fun x => some (Builtin.bitNot x.1, b + Builtin.bitNot x.2)
    else dmP a b
theorem dm_loop {tgt : Expr} {body : List Stmt} {sc : Scope} {b n : Int} (st : Int → List PyData → St)
    (step : ∀ d r qs x qr, shlO r n = some x → d2 5 (x + d) b n = some qr → qs.length < 1000000 → ∃ σ1 σ2, AsT u sc (st r qs) tgt (I d) σ1 ∧ ExT u k sc σ1 body .next σ2 ∧ Sub (st qr.2 (qs ++ [.int qr.1])) σ2) :
    ∀ ds r qs x, dmLoop b n ds r qs = some x → LoopT u k sc tgt body (st r qs) ds .next (st x.2 x.1) := by
  intro ds
  induction ds with
  | nil => intro r qs x h; cases h; exact LoopT.nil
  | cons d ds ih =>
    intro r qs x h
    cases d with
    | int d =>
      unfold dmLoop at h
      simp only [Option.bind_eq_some_iff] at h
      obtain ⟨y, h1, qr, h2, h3⟩ := h
      split at h3
      · rename_i hz
        obtain ⟨σ1, σ2, a1, a2, a3⟩ := step d r qs y qr h1 h2 hz
        exact LoopT.next a1 a2 (.inl rfl) ((ih _ _ _ h3).pre a3)
      · cases h3
    | _ => cases h
theorem law_dmP (T : Tops u) (F : Fn u "_divmod_pos" 8) (F2 : Fn u "_div2n1n" 4) (F3 : Fn u "_div3n2n" 5) (L : Num u "_DIV_LIMIT" 4000) (F6 : FnN u "_int2digits" 6 1) (F7 : FnN u "_digits2int" 7 0) {a b : Int} {x : Int × Int} (h : dmP a b = some x) :
    CaT u (k + 43) "_divmod_pos" [I a, I b] [] [] (Tu [.int x.1, .int x.2]) := by
  unfold dmP at h
  simp only [Option.bind_eq_some_iff] at h
  obtain ⟨ds, h1, y, h2, h3⟩ := h
  split at h3
  case isFalse => cases h3
  rename_i hz
  simp only [Option.bind_eq_some_iff] at h3
  obtain ⟨q, h4, h5⟩ := h3
  cases h5
  refine CaT.fn2 (n1 := "a") (n2 := "b") (σ' := []) (k := k + 42) F ?_ gives
  refine .cons (StT.assign (.inl (EvT.bits (EvT.name rfl))) rfl) ?_
  refine .cons (StT.assign (.inl (EvT.callF F6.has (.of2 (EvT.name rfl) (EvT.name rfl)) ((law_i2d (k := k) T F6 h1).up (by omega)))) rfl) ?_
  refine .cons (StT.assign (.inl EvT.int) rfl) ?_
  refine .cons (StT.assignF (.inl (EvFr.list (ds := []) .nil)) rfl) ?_
  refine .cons (StT.for_ (IterT.x (IterT.reversed (T.bl (by decide) rfl) (EvT.name rfl))) ((dm_loop (fun r qs => [("r", (I r, false)), ("q_digits", (Ls qs, true)), ("b", (I b, false)), ("n", (I (bits b), false))]) (fun d r qs x qr e1 e2 e3 => ?_) _ _ _ _ h2).pre (by walk_at "mine sub"))) ?_
  · refine ⟨_, _, AsT.name rfl, .cons (StT.assignT (.inl (EvT.callF F2.has (.of3 (EvT.add (EvT.shlO e1 (EvT.name rfl) (EvT.name rfl)) (EvT.name rfl)) (EvT.name rfl) (EvT.name rfl)) ((law_d2 (k := k) T F2 F3 L _ _ _ _ _ e2).up (by omega)))) (AsT.tuple (.cons (AsT.name rfl) (.cons (AsT.name rfl) .nil)))) (.cons (StT.append rfl (.inl (EvT.name rfl)) (by rw [sizeLine_eq]; omega)) .nil), by walk_at "mine sub"⟩
  refine .cons (StT.reverse rfl (by rw [sizeLine_eq]; omega)) ?_
  refine ExT.disown (x := "q_digits") rfl ?_
  refine .cons (StT.assign (.inl (EvT.callF F7.has (.of2 (EvT.name rfl) (EvT.name rfl)) ((law_d2i (k := k) T F7 h4).up (by omega)))) rfl) ?_
  exact .stop (StT.ret (.inl (EvT.tup2 (EvT.name rfl) (EvT.name rfl)))) nofun
/-- everything that int_divmod rests on -/
structure Divs (u : U) : Prop where
  T : Tops u
  F4 : Fn u "_div2n1n" 4
  F5 : Fn u "_div3n2n" 5
  L : Num u "_DIV_LIMIT" 4000
  F6 : FnN u "_int2digits" 6 1
  F7 : FnN u "_digits2int" 7 0
  F8 : Fn u "_divmod_pos" 8
  F9 : Fn u "int_divmod" 9
theorem law_idm (D : Divs u) : ∀ f a b x, idm f a b = some x → CaT u (k + 43 + f) "int_divmod" [I a, I b] [] [] (Tu [.int x.1, .int x.2]) := by
  intro f
  induction f with
  | zero => intro a b x h; cases h
  | succ f ih =>
    intro a b x h
    unfold idm at h
    refine CaT.fn2 (n1 := "a") (n2 := "b") (σ' := []) (k := k + 43 + f) D.F9 ?_ gives
    split at h
    · cases h
    rename_i h0
    split at h
    · rename_i h1
      simp only [Option.bind_eq_some_iff] at h
      obtain ⟨y, h2, h3⟩ := h
      cases h3
      exact .stop (StT.ifF (.to (TsT.cmp (EvT.name rfl) EvT.int (CmpR.eq rfl rfl)) (by simp [PyData.eqv, h0])) (.stop (StT.ifT (.to (TsT.cmp (EvT.name rfl) EvT.int CmpR.lt) (decide_eq_true h1))
        (.cons (StT.assignT (.inl (EvT.callF D.F9.has (.of2 (EvT.neg (EvT.name rfl)) (EvT.neg (EvT.name rfl))) (ih _ _ _ h2))) (AsT.tuple (.cons (AsT.name rfl) (.cons (AsT.name rfl) .nil))))
        (.stop (StT.ret (.inl (EvT.tup2 (EvT.name rfl) (EvT.neg (EvT.name rfl))))) nofun))) nofun)) nofun
    rename_i h1
    split at h
    · rename_i h2
      simp only [Option.bind_eq_some_iff] at h
      obtain ⟨y, h3, h4⟩ := h
      cases h4
      exact .stop (StT.ifF (.to (TsT.cmp (EvT.name rfl) EvT.int (CmpR.eq rfl rfl)) (by simp [PyData.eqv, h0])) (.stop (StT.ifF (.to (TsT.cmp (EvT.name rfl) EvT.int CmpR.lt) (decide_eq_false h1)) (.stop (StT.ifT (.to (TsT.cmp (EvT.name rfl) EvT.int CmpR.lt) (decide_eq_true h2))
        (.cons (StT.assignT (.inl (EvT.callF D.F9.has (.of2 (EvT.inv (EvT.name rfl)) (EvT.name rfl)) (ih _ _ _ h3))) (AsT.tuple (.cons (AsT.name rfl) (.cons (AsT.name rfl) .nil))))
        (.stop (StT.ret (.inl (EvT.tup2 (EvT.inv (EvT.name rfl)) (EvT.add (EvT.name rfl) (EvT.inv (EvT.name rfl)))))) nofun))) nofun)) nofun)) nofun
    · rename_i h2
      exact .stop (StT.ifF (.to (TsT.cmp (EvT.name rfl) EvT.int (CmpR.eq rfl rfl)) (by simp [PyData.eqv, h0])) (.stop (StT.ifF (.to (TsT.cmp (EvT.name rfl) EvT.int CmpR.lt) (decide_eq_false h1)) (.stop (StT.ifF (.to (TsT.cmp (EvT.name rfl) EvT.int CmpR.lt) (decide_eq_false h2))
        (.stop (StT.ret (.inl (EvT.callF D.F8.has (.of2 (EvT.name rfl) (EvT.name rfl)) ((law_dmP (k := k) D.T D.F8 D.F4 D.F5 D.L D.F6 D.F7 h).up (by omega))))) nofun)) nofun)) nofun)) nofun
end
section
noncomputable def itO {α : Type} (f : Nat → α → Option α) : Nat → Nat → α → Option α
  | _, 0, a => some a
  | i, n + 1, a => (f i a).bind (itO f (i + 1) n)
noncomputable def foldO {α β : Type} (f : β → α → Option α) : List β → α → Option α
  | [], a => some a
  | b :: bs, a => (f b a).bind (foldO f bs)
section
variable {u : U} {k : Nat} {sc : Scope} {tgt : Expr} {body : List Stmt} {α β : Type}
theorem LoopT.range (st : α → St) (f : Nat → α → Option α) (m : Nat) (step : ∀ i a a', i < m → f i a = some a' → ∃ σ1 σ2, AsT u sc (st a) tgt (I i) σ1 ∧ ExT u k sc σ1 body .next σ2 ∧ Sub (st a') σ2) :
    ∀ n i a a', i + n ≤ m → itO f i n a = some a' → LoopT u k sc tgt body (st a) (rng i 1 n) .next (st a') := by
  intro n
  induction n with
  | zero => intro i a a' _ h; cases h; exact LoopT.nil
  | succ n ih =>
    intro i a a' hm h
    unfold itO at h
    rw [Option.bind_eq_some_iff] at h
    obtain ⟨b, h1, h2⟩ := h
    obtain ⟨σ1, σ2, a1, a2, a3⟩ := step i a b (by omega) h1
    have q := ih (i + 1) b a' (by omega) h2
    rw [show (((i + 1 : Nat) : Int)) = (i : Int) + 1 by omega] at q
    exact LoopT.next a1 a2 (.inl rfl) (q.pre a3)
theorem LoopT.items (st : α → St) (d : β → PyData) (f : β → α → Option α) (step : ∀ b a a', f b a = some a' → ∃ σ1 σ2, AsT u sc (st a) tgt (.py (d b)) σ1 ∧ ExT u k sc σ1 body .next σ2 ∧ Sub (st a') σ2) :
    ∀ bs a a', foldO f bs a = some a' → LoopT u k sc tgt body (st a) (bs.map d) .next (st a') := by
  intro bs
  induction bs with
  | nil => intro a a' h; cases h; exact LoopT.nil
  | cons b bs ih =>
    intro a a' h
    unfold foldO at h
    rw [Option.bind_eq_some_iff] at h
    obtain ⟨c, h1, h2⟩ := h
    obtain ⟨σ1, σ2, a1, a2, a3⟩ := step b a c h1
    exact LoopT.next a1 a2 (.inl rfl) ((ih _ _ h2).pre a3)
end
/-! _law_divided -/
noncomputable def ldv (u l kd : Int) : Option (Int × Int) :=
  if kd = 0 then idm 3 u l else if kd = 1 then (idm 3 (-u) (-l)).bind fun x => some (x.1, -x.2) else (idm 3 (Builtin.bitNot u) l).bind fun x => some (Builtin.bitNot x.1, l - 1 - x.2)
variable {u : U} {k : Nat}
theorem law_ldv (D : Divs u) (F : Fn u "_law_divided" 24) {a b c : Int} {x : Int × Int} (h : ldv a b c = some x) : CaT u (k + 47) "_law_divided" [I a, I b, I c] [] [] (Tu [.int x.1, .int x.2]) := by
  refine CaT.fn3 (n1 := "upper") (n2 := "lower") (n3 := "kind") (σ' := []) (k := k + 46) F ?_ gives
  unfold ldv at h
  split at h
  · rename_i h0
    exact .stop (StT.ifT (.to (TsT.cmp (EvT.name rfl) EvT.int (CmpR.eq rfl rfl)) (by simp [PyData.eqv, h0])) (.stop (StT.ret (.inl (EvT.callF D.F9.has (.of2 (EvT.name rfl) (EvT.name rfl)) (law_idm (k := k) D 3 _ _ _ h)))) nofun)) nofun
  rename_i h0
  refine .cons (StT.ifF (.to (TsT.cmp (EvT.name rfl) EvT.int (CmpR.eq rfl rfl)) (by simp [PyData.eqv, h0])) .nil) ?_
  split at h
  · rename_i h1
    rw [Option.bind_eq_some_iff] at h
    obtain ⟨y, h2, h3⟩ := h
    cases h3
    exact .stop (StT.ifT (.to (TsT.cmp (EvT.name rfl) EvT.int (CmpR.eq rfl rfl)) (by simp [PyData.eqv, h1]))
      (.cons (StT.assignT (.inl (EvT.callF D.F9.has (.of2 (EvT.neg (EvT.name rfl)) (EvT.neg (EvT.name rfl))) (law_idm (k := k) D 3 _ _ _ h2))) (AsT.tuple (.cons (AsT.name rfl) (.cons (AsT.name rfl) .nil))))
        (.stop (StT.ret (.inl (EvT.tup2 (EvT.name rfl) (EvT.neg (EvT.name rfl))))) nofun))) nofun
  rename_i h1
  refine .cons (StT.ifF (.to (TsT.cmp (EvT.name rfl) EvT.int (CmpR.eq rfl rfl)) (by simp [PyData.eqv, h1])) .nil) ?_
  rw [Option.bind_eq_some_iff] at h
  obtain ⟨y, h2, h3⟩ := h
  cases h3
  exact .cons (StT.assignT (.inl (EvT.callF D.F9.has (.of2 (EvT.inv (EvT.name rfl)) (EvT.name rfl)) (law_idm (k := k) D 3 _ _ _ h2))) (AsT.tuple (.cons (AsT.name rfl) (.cons (AsT.name rfl) .nil))))
        (.stop (StT.ret (.inl (EvT.tup2 (EvT.inv (EvT.name rfl)) (EvT.sub (EvT.sub (EvT.name rfl) EvT.int) (EvT.name rfl))))) nofun)
noncomputable abbrev iLs (l : List Int) : List PyData := l.map .int
end
section
theorem canLay_ints : ∀ l : List Int, PyData.canLayAll0 (iLs l) = true
  | [] => rfl
  | _ :: l => by simp only [List.map_cons, PyData.canLayAll0, PyData.canLay0, Bool.true_and]; exact canLay_ints l
theorem depth_ints : ∀ l : List Int, PyData.depthAll (iLs l) ≤ 1
  | [] => by simp [PyData.depthAll]
  | _ :: l => by
    have : PyData.depthAll (List.map PyData.int l) ≤ 1 := depth_ints l
    simp only [List.map_cons, PyData.depthAll, PyData.depth]; omega
theorem shaped_ints (l : List Int) : SeqAt.shaped (.list (iLs l)) = true := by
  have : PyData.depthAll (List.map PyData.int l) ≤ 1 := depth_ints l
  unfold SeqAt.shaped
  simp only [PyData.canLay0, canLay_ints, Bool.true_and, decide_eq_true_eq]
  show PyData.depth (.list (List.map PyData.int l)) ≤ 64
  unfold PyData.depth
  omega
theorem eqv_ints : ∀ a b : List Int, PyData.eqvAll (iLs a) (iLs b) = decide (a = b)
  | [], [] => rfl
  | [], _ :: _ => rfl
  | _ :: _, [] => rfl
  | x :: a, y :: b => by
    simp only [List.map_cons, PyData.eqvAll, PyData.eqv, eqv_ints a b]
    by_cases h : x = y <;> by_cases h2 : a = b <;> simp [h, h2]
end
section
section
variable {u : U} {k : Nat} {sc : Scope} {σ : St} {pos p ap cp : Pos} {e e1 e2 : Expr} {x : Str}
/-- a text that the program keeps under a name of its own -/
noncomputable def StrG (u : U) (x y : Str) : Prop := ∃ t, u.mg x = some (.str y t)
theorem EvT.strG {y : Str} (n : StrG u x y) (hx : sc.names.lookup x = some .globalImplicit := by rfl) (hd : (x == ("__debug__" : Str)) = false := by decide) : EvT u k sc σ (.Name x pos) (S y) :=
  EvT.mk fun env N A s Q H h => let ⟨t, e⟩ := n; globN H hx e (h _ s.heap s.toks (.refl _) (RepP.str _ t)) hd
/-- a pattern that the program keeps under a name of its own -/
noncomputable def Pat (u : U) (x : Str) (code : Array Nat) : Prop := ∃ P, u.mg x = some (.ref P) ∧ PatAt u.hB P code
theorem PatAt.here {P : Addr} {code : Array Nat} (p : PatAt u.hB P code) {h : Heap} (w : Wd u h) : PatAt h P code := by
  obtain ⟨o, fs, ct, vs, n, h1, h2, h3, h4, h5, h6, h7⟩ := p
  exact ⟨o, fs, ct, vs, n, w.at h1 (by rw [h2.1]; nofun), h2, h3, h4, h5, w.at h6 nofun, h7⟩
/-- x.sub(e1, e2) -/
theorem EvT.patSub {code : Array Nat} {y z r : Str} (n : Pat u x code) (t1 : EvT u k sc σ e1 (S y)) (t2 : EvT u k sc σ e2 (S z)) (hr : subP code z y = some r) (hy : y.cps.contains 92 = false)
    (hx : sc.names.lookup x = some .globalImplicit := by rfl) (hp : [e1, e2].all plainE = true := by rfl)
    (hline : (ap.endLine == cp.line) = true := by rfl) (hd : (x == ("__debug__" : Str)) = false := by decide) :
    EvT u k sc σ (.Call (.Attribute (.Name x p) "sub" ap) [e1, e2] [] cp) (S r) :=
  EvT.mk fun env N A s Q H h => by
    obtain ⟨P, hm, hP⟩ := n
    have hp' := hp
    rw [List.all_cons, Bool.and_eq_true] at hp'
    refine wpAny_Call_method_lateS rfl (by rw [starEach_plain hp'.1, starEach_plain (by simpa using hp'.2)]; rfl) hline (globN H hx hm ?_ hd)
    refine ⟨"re.Pattern", _, plainAttrs_rp, slot_rp_sub, type_rp_sub, rp_typeIs (hP.here H.wd), (fun a e => by
      obtain ⟨o, fs, ct, vs, n, h1, h2, _⟩ := hP.here H.wd
      cases e; exact ⟨o, h1, h2.2⟩), ?_⟩
    refine Calls.callWith_builtin (noStar hp) (evalArgs_use (EvTs.cons t1 (EvTs.cons t2 .nil)) hp H fun vs h1 tk1 k1 H1 r1 => ?_)
    obtain ⟨v, w, rfl, rv, rw1⟩ := RepVs.inv2 r1
    obtain ⟨t2, rfl⟩ := RepP.str_inv rv
    obtain ⟨t3, rfl⟩ := RepP.str_inv rw1
    refine call_sub (s := { s with heap := h1, toks := tk1 }) hy (hP.here H1.wd) hr fun h' uu tk kk => ?_
    exact h _ h' tk (k1.trans (.ext kk)) (RepP.str _ _)
end
noncomputable abbrev code1 : Array Nat := #[14, 4, 0, 1, 1, 6, 1, 16, 46, 1]
noncomputable abbrev code2 : Array Nat := #[14, 9, 4, 1, 2, 16, 10, 16, 13, 0, 7, 7, 16, 13, 16, 10, 15, 18, 5, 16, 10, 15, 13, 11, 16, 13, 5, 5, 0, 16, 10, 1, 15, 2, 0, 1]
noncomputable def quoteP (x : Str) : Option Str := (subP code2 x ⟨#[13, 10]⟩).bind fun y => subP code1 y ⟨#[46, 46]⟩
theorem law_quote {u : U} {k : Nat} (F : Fn u "quotedata" 18) (n1 : Pat u "_twin_re_1" code1) (n2 : Pat u "_twin_re_2" code2) (nc : StrG u "CRLF" ⟨#[13, 10]⟩) {x z : Str} (h : quoteP x = some z) :
    CaT u (k + 1) "quotedata" [S x] [] [] (S z) := by
  unfold quoteP at h
  obtain ⟨y, h1, h2⟩ := Option.bind_eq_some_iff.mp h
  refine CaT.fn1 (n1 := "data") (σ' := []) F ?_ gives
  refine ExT.stop (StT.ret (.inl ?_)) nofun
  exact EvT.patSub n1 EvT.str (EvT.patSub n2 (EvT.strG nc) (EvT.name rfl) h1 (by decide +kernel)) h2 (by decide +kernel)
end
section
/-! an object's own table -/
theorem isStr_self (name : Str) (t : Tok) : (Value.str name t).isStr name = true := by simp [Value.isStr]
theorem isStr_ne {name name' : Str} (h : name ≠ name') {v : Value} (e : v.isStr name' = true) : v.isStr name = false := by
  cases v <;> simp_all [Value.isStr]
  exact fun e => h e.symm
theorem putL_ref (name : Str) (hsh : Int) (t : Tok) (v : Value) : ∀ es : List DictEntry, (putL name hsh (.str name t) v es).any (·.refKey) = es.any (·.refKey)
  | [] => rfl
  | e :: r => by
    unfold putL
    by_cases h : e.key.isStr name = true
    · rw [if_pos h]
      show (_ || r.any _) = (_ || r.any _)
      rfl
    · rw [if_neg h, List.any_cons, List.any_cons, putL_ref name hsh t v r]
theorem putL_hit (name : Str) (hsh : Int) (t : Tok) (v : Value) : ∀ es : List DictEntry, ((putL name hsh (.str name t) v es).find? (·.key.isStr name)).map (·.val) = some v
  | [] => by simp [putL, isStr_self]
  | e :: r => by
    unfold putL
    by_cases h : e.key.isStr name = true
    · rw [if_pos h, List.find?_cons_of_pos (by simpa using h)]; rfl
    · rw [if_neg h, List.find?_cons_of_neg (by simpa using h)]; exact putL_hit name hsh t v r
theorem putL_miss {name name' : Str} (hne : name' ≠ name) (hsh : Int) (t : Tok) (v : Value) : ∀ es : List DictEntry, ((putL name hsh (.str name t) v es).find? (·.key.isStr name')).map (·.val) = (es.find? (·.key.isStr name')).map (·.val)
  | [] => by
    have : (Value.str name t).isStr name' = false := isStr_ne hne (isStr_self name t)
    simp [putL, this]
  | e :: r => by
    unfold putL
    by_cases h : e.key.isStr name = true
    · have := isStr_ne hne h
      rw [if_pos h, List.find?_cons_of_neg (by simp [this]), List.find?_cons_of_neg (by simp [this])]
    · rw [if_neg h]
      by_cases h' : e.key.isStr name' = true
      · rw [List.find?_cons_of_pos (by simpa using h'), List.find?_cons_of_pos (by simpa using h')]
      · rw [List.find?_cons_of_neg (by simpa using h'), List.find?_cons_of_neg (by simpa using h')]; exact putL_miss hne hsh t v r
theorem getL_map (name : Str) (es : List DictEntry) (h : es.any (·.refKey) = false) : getL name es = some ((es.find? (·.key.isStr name)).map (·.val)) := by
  unfold getL
  split
  · rename_i e he; rw [he]; rfl
  · rename_i he; rw [he, h]; rfl
theorem putL_len (name : Str) (hsh : Int) (k v : Value) : ∀ es : List DictEntry, (putL name hsh k v es).length ≤ es.length + 1
  | [] => by simp [putL]
  | e :: r => by
    unfold putL
    split
    · simp
    · have := putL_len name hsh k v r
      simp; omega
/-- what the walk must know of the class Whitespace -/
structure WsK (u : U) (K : Frag) (C : Addr) : Prop where
  mg : u.mg "Whitespace" = some (.ref C)
  kin : K.In u.hB
  cls : ∀ p ∈ K, p.2.cls ≠ .none
  makes : makesIn K C = true
  over : plainOver K C = true
  setA : findIn K (.ref C) "__setattr__" = some (some (.builtin "object.__setattr__"))
  getA : findIn K (.ref C) "__getattribute__" = some (some (.builtin "object.__getattribute__"))
  noGet : findIn K (.ref C) "__getattr__" = some none
  hasD : (clsIn K C).any (·.hasDict) = true
  free : ∀ n ∈ (["raw", "n", "nt", "norm", "is_simple"] : List Str), findIn K (.ref C) n = some none
  keep : keepIn K (.ref C) = true
  typ : typeIn K (.ref C) = some (.type "type")
  tga : findIn K (.type "type") "__getattribute__" = some (some (.builtin "type.__getattribute__"))
  tsub : subIn K (.type "type") (.type "type") = some true
  stat : ∃ o es n, u.hB.get? cStatics = some o ∧ o.data = .dict es n ∧ lookIn "thirdparty.any" o = some none
  S : ∃ t, findCls K (.ref C) (.type "type") "S" = some (.val (.str ⟨#[32]⟩ t))
  T : ∃ t, findCls K (.ref C) (.type "type") "T" = some (.val (.str ⟨#[9]⟩ t))
theorem frag_mem {K : Frag} {a : Addr} {o : Obj} (e : K.lookup a = some o) : (a, o) ∈ K := by
  induction K with
  | nil => cases e
  | cons q r ih =>
    obtain ⟨b, o'⟩ := q
    rw [List.lookup_cons] at e
    by_cases h : a = b
    · rw [beq_iff_eq.mpr h] at e; cases e; exact h ▸ .head _
    · rw [beq_eq_false_iff_ne.mpr h] at e; exact .tail _ (ih e)
theorem WsK.in {u : U} {K : Frag} {C : Addr} (W : WsK u K C) {h : Heap} (wd : Wd u h) : K.In h := fun a o e =>
  wd.at (W.kin a o e) (W.cls (a, o) (frag_mem e))
section
variable {u : U} {k : Nat} {sc : Scope} {σ σ' : St} {pos p : Pos} {e : Expr} {K : Frag} {C x dx : Addr} {A : Around} {s : Shared}
/-- x.name = v, on a plain object's own table -/
theorem set_own_dict {es : List DictEntry} {n : Nat} {name : Str} {v : Value} {Q : Unit → Shared → Prop} (W : WsK u K C) (wd : Wd u s.heap) (hn : name ∈ (["raw", "n", "nt", "norm", "is_simple"] : List Str))
    (hx : s.heap.get? x = some (instObj C dx)) (hd : s.heap.get? dx = some (dictOf es n)) (hr : es.any (·.refKey) = false) (hz : es.length ≤ 100)
    (h : ∀ h' tk hsh t n', Heap.SameBut dx s.heap h' → h'.get? dx = some (dictOf (putL name hsh (.str name t) v es) n') → Q () { s with heap := h', toks := tk }) :
    wpAny u.M A (setAttr (.ref x) name v) Q NoE s := by
  have X := W.in wd
  have I : InstAt s.heap x (instObj C dx) C (some (dictOf es n)) := ⟨hx, rfl, rfl, hd⟩
  refine set_plain X I W.setA ?_
  refine osa_open (s := { s with toks := s.toks + 1 }) (r := none) X I W.over (by unfold takerIn; rw [W.free name hn]; rfl) fun b => ?_
  obtain ⟨cd, hc, hd'⟩ := any_some W.hasD
  have L := looks_clsIn (M := u.M) X hc
  refine wpAny_bind (wpAny_pure (wpAny_bind (wpAny_bind (wpAny_loadPart hx (wpAny_bind (L _ _ _ _ (fun _ _ e => e) ?_))))))
  rw [hd']
  refine wpAny_pure (a := some dx) (wpAny_bind (wpAny_pure (wpAny_bind ?_)))
  unfold nsSet
  refine wpAny_bind (wpAny_bind (wpAny_askSetting (wpAny_pure (wpAny_bind (wpAny_mkText (wpAny_bind (wpAny_loadPart hd ?_)))))))
  have c : (!es.toArray.any (·.key.isStr name) && es.toArray.any (·.refKey)) = false := by
    have : es.toArray.any (·.refKey) = false := by simpa using hr
    rw [this, Bool.and_false]
  dsimp only
  rw [aRefKeyMayBeTheName_at, c]
  refine wpAny_updatePart hd ?_
  have D' : (s.heap.update dx (Obj.putName name (PyData.keyHash u.w.params name) (.str name (s.toks + 1)) v)).get? dx = some (dictOf (putL name (PyData.keyHash u.w.params name) (.str name (s.toks + 1)) v es) (putN name es n)) := by
    rw [Heap.get?_update_self _ hd (by rw [putName_dict]; rfl), putName_dict]
  refine wpAny_bind (wpAny_lookBehind D' (pastItsLine_dict (by have := putL_len name (PyData.keyHash u.w.params name) (.str name (s.toks + 1)) v es; rw [List.size_toArray, sizeLine_eq]; omega)) ?_)
  exact wpAny_pure (h _ _ _ _ _ (Heap.SameBut.update ..) D')
end
end
section
structure MethAt (u : U) (a : Addr) (fd : FuncData) : Prop where
  ob : ∃ o, u.hB.get? a = some o ∧ o.data = .func fd ∧ o.cls ≠ .none
  code : ∃ c o vs t, fd.code = .ref c ∧ u.hB.get? c = some o ∧ o.cls ≠ .none ∧ o.data = .fields vs ∧ vs[1]? = some (.str fd.qualname t)
  globals : fd.globals = mainGlobals
  builtins : fd.builtins = builtinsNs
section
variable {u : U} {k : Nat} {sc : Scope}
theorem MethAt.here {a : Addr} {fd : FuncData} (F : MethAt u a fd) {h : Heap} (x : Wd u h) : ∃ o, h.get? a = some o ∧ o.data = .func fd := let ⟨o, e, d, c⟩ := F.ob; ⟨o, x.at e c, d⟩
theorem MethAt.codeRec {a : Addr} {fd : FuncData} (F : MethAt u a fd) {h : Heap} (x : Wd u h) : h.CodeRec fd.code fd.qualname := let ⟨c, o, vs, t, e, g, n, r⟩ := F.code; ⟨c, o, vs, t, e, x.at g n, r⟩
/-- a method is entered -/
theorem MethAt.enter {a : Addr} {fd : FuncData} {bd : List Stmt} {ps : List (Str × Vd)} {N : Addr → Prop} {A : Around} {s : Shared} {R : Result → Shared → Prop} {bs : List (Str × Value)} {vs : List Value}
    (F : MethAt u a fd) (hb : fd.body = .stmts bd) (hs : fd.scope = sc) (hc : fd.closure = []) (hk : sc.kind = .function) (hco : sc.isCoroutine = false) (hgen : sc.isGenerator = false)
    (ok : Ok A (k + 1)) (wd : Wd u s.heap) (lv : Live N s.heap) (hbs : BindsTo s fd ⟨vs, []⟩ bs) (B : Binds u N s.heap bs ps) (nd : (ps.map (·.1)).Nodup) (st : ∀ p ∈ ps, canStore sc p.1 = true)
    (h : ∀ env h1 t1, EnvIs sc env → Ok (A.deeper env) k → Wd u h1 → (∀ b o, s.heap.get? b = some o → h1.get? b = some o) → MatchS u N (fun _ => 0) env h1 (start ps) → (∀ a, FA env a → s.heap.objs.size ≤ a) →
      wpAny u.M (A.deeper env) (execs bd env) (fun f s' => R (.ok (.ret (match f with | .ret v => v | _ => .none))) s') NoE { s with heap := h1, toks := t1 }) :
    codeAny u.M A (.call (.ref a) ⟨vs, []⟩) R s := by
  obtain ⟨o, ho, hd⟩ := F.here wd
  subst hs
  have hkind : ∀ x ∈ bs, fd.scope.names.lookup x.1 = some .local ∨ (fd.scope.names.lookup x.1 = some .cell ∧ ((cellsFrom (s.heap.objs.size + 1) fd.scope.names []).lookup x.1).isSome = true) := fun x hx => by
    have : x.1 ∈ bs.map (·.1) := List.mem_map.mpr ⟨_, hx, rfl⟩
    rw [B.names] at this
    obtain ⟨p, hp, e⟩ := List.mem_map.mp this
    have c := st p hp
    rw [e] at c
    rcases Bool.or_eq_true_iff.mp c with q | q
    · exact .inl (eq_of_beq q)
    · exact .inr ⟨eq_of_beq q, cells_some _ _ _ (.inr (eq_of_beq q))⟩
  refine codeAny_call_function (by have := ok.depth; omega) ho hd hco hgen hb (F.codeRec wd) (hbs _ _ _ _ ?_)
  rw [hc]
  refine wpAny_newFunctionEnv_cells hk hkind fun env he s' x => ⟨wd.nl.keeps x.toInCall.keep, codeAny_func ?_⟩
  have hE : EnvIs fd.scope env := by
    subst he
    exact ⟨rfl, hk, F.globals, F.builtins, fun y hy => Option.isSome_iff_exists.mp (cells_some _ _ _ (.inr hy))⟩
  obtain ⟨M, hF⟩ := frame_match hE wd lv x B nd st
  obtain ⟨h1, t1, rfl⟩ := x.toInCall.same
  exact wpAny_mono (h env h1 t1 hE (ok.deeper env) (wd.ext x.toInCall.keep) x.toInCall.keep M hF) (fun _ _ q => q) fun _ _ q => q.elim
theorem MethAt.run {a : Addr} {fd : FuncData} {bd : List Stmt} {ps : List (Str × Vd)} {N : Addr → Prop} {A : Around} {s : Shared} {R : Result → Shared → Prop} {bs : List (Str × Value)} {vs : List Value} {fl : Fl} {σ' : St} {d : Vd}
    (F : MethAt u a fd) (hb : fd.body = .stmts bd) (hs : fd.scope = sc) (hc : fd.closure = []) (hk : sc.kind = .function) (hco : sc.isCoroutine = false) (hgen : sc.isGenerator = false)
    (ok : Ok A (k + 1)) (wd : Wd u s.heap) (lv : Live N s.heap) (hbs : BindsTo s fd ⟨vs, []⟩ bs) (B : Binds u N s.heap bs ps) (nd : (ps.map (·.1)).Nodup) (st : ∀ p ∈ ps, canStore sc p.1 = true)
    (body : ExT u k sc (start ps) bd fl σ') (g : Gives fl d)
    (h : ∀ v h' tk, Keeps u Nil s.heap h' → Rep u N h' v d → R (.ok (.ret v)) { s with heap := h', toks := tk }) :
    codeAny u.M A (.call (.ref a) ⟨vs, []⟩) R s :=
  F.enter hb hs hc hk hco hgen ok wd lv hbs B nd st fun env h1 t1 hE ok1 wd1 kp M hF => by
    refine body env N (fun _ => 0) (A.deeper env) { s with heap := h1, toks := t1 } _ hE ok1 wd1 M fun f h2 t2 ad2 fr k2 P2 => ?_
    have K : Keeps u Nil s.heap h2 := by
      refine Keeps.then (.ext kp) k2 fun b o _ e _ q => ?_
      rcases q with q | ⟨y, e', hy, _⟩
      · exact absurd (Heap.lt_size e) (Nat.not_lt.mpr (hF b q.fa))
      · cases (B.at hy).1
    rcases g with rfl | ⟨rfl, rfl⟩
    · cases f with
      | ret v => exact h v h2 t2 K fr
      | _ => exact fr.elim
    · cases f with
      | next => exact h .none h2 t2 K RepP.none
      | _ => exact fr.elim
end
section
variable {u : U} {N : Addr → Prop} {h h' : Heap} {dx : Addr}
theorem RepP.stepO {v : Value} {d : PyData} (r : RepP N h v d) (hd : ∀ vs n, h.get? dx ≠ some (listOf vs n)) (K : Keeps u (fun a => a = dx) h h') : RepP N h' v d :=
  ((r.off (N' := fun a => N a ∨ a = dx) (fun a (q : N a ∨ a = dx) => q.imp id fun (e : a = dx) => (e ▸ hd : NoLs h a))).step K fun _ => .inr).anti fun _ => .inl
theorem RepPs.stepO {vs : List Value} {ds : List PyData} (r : RepPs N h vs ds) (hd : ∀ vs n, h.get? dx ≠ some (listOf vs n)) (K : Keeps u (fun a => a = dx) h h') : RepPs N h' vs ds :=
  ((r.off (N' := fun a => N a ∨ a = dx) (fun a (q : N a ∨ a = dx) => q.imp id fun (e : a = dx) => (e ▸ hd : NoLs h a))).step K fun _ => .inr).anti fun _ => .inl
theorem MatchS.attr {σ : St} {env : Env} {ad : Str → Addr} {z : Str} {x : Addr} {es es' : List (Str × PyData)} (M : MatchS u N ad env h σ) (hz : look σ z = some (.ws (some x) es, false))
    (hp : ∀ y d b, look σ y = some (d, b) → y = z ∨ ∃ p, d = .py p) (K : Keeps u (fun a => a = dx) h h') (hd : ∀ vs n, h.get? dx ≠ some (listOf vs n)) (nF : ¬ FA env dx)
    (hr : Rep u (Full N ad σ env) h' (.ref x) (.ws (some x) es')) : MatchS u N ad env h' ((z, (.ws (some x) es', false)) :: σ) := by
  have nF' : ∀ a, FA env a → ¬ (a = dx) := fun a q e => nF (e ▸ q)
  refine ⟨M.live.step K, M.fr.step K nF', M.frN, fun y d hy => ?_, fun y d hy => ?_, fun y w d e hy hw => ?_⟩
  · rw [look_cons] at hy
    by_cases ne : y = z
    · rw [if_pos ne] at hy; cases hy; subst ne
      obtain ⟨v, hv, x', C, dx', od, ⟨rfl, e2⟩, _⟩ := M.val y _ hz
      cases e2 x rfl
      exact ⟨_, hv.step M.fr K nF', hr.anti fun _ => full_sub⟩
    · rw [if_neg ne] at hy
      obtain ⟨v, hv, r⟩ := M.val y d hy
      rcases hp y d _ hy with q | ⟨p, rfl⟩
      · exact absurd q ne
      · exact ⟨v, hv.step M.fr K nF', (RepP.stepO (u := u) r hd K).anti fun _ => full_sub⟩
  · rw [look_cons] at hy
    by_cases ne : y = z
    · rw [if_pos ne] at hy; cases hy
    · rw [if_neg ne] at hy
      obtain ⟨ws, m, ys, f0, f1, f2, f3, f4⟩ := M.own y d hy
      exact ⟨ws, m, ys, f0, f1.step M.fr K nF', K.old _ _ f2 kp_list fun q => hd _ _ (q ▸ f2), (f3.stepO hd K).anti fun _ => full_sub, f4⟩
  · rw [look_cons] at hy hw
    by_cases ne : y = z
    · rw [if_pos ne] at hy; cases hy
    · by_cases nw : w = z
      · rw [if_pos nw] at hw; cases hw
      · rw [if_neg ne] at hy; rw [if_neg nw] at hw; exact M.inj _ _ _ _ hy hw
end
end
section
section
variable {u : U} {k : Nat} {sc : Scope} {σ σ' : St} {pos p1 p2 : Pos} {e : Expr} {K : Frag} {C x dx : Addr} {A : Around} {s : Shared} {env : Env} {N : Addr → Prop} {ad : Str → Addr}
/-- the object x and its table, as they stand -/
structure ObAt (C x dx : Addr) (es : List DictEntry) (h : Heap) : Prop where
  x : h.get? x = some (instObj C dx)
  d : ∃ n, h.get? dx = some (dictOf es n)
  r : es.any (·.refKey) = false
theorem ObAt.step {es : List DictEntry} {h h' : Heap} {X : Addr → Prop} (D : ObAt C x dx es h) (K : Keeps u X h h') (n1 : ¬ X x) (n2 : ¬ X dx) : ObAt C x dx es h' :=
  let ⟨n, d⟩ := D.d
  ⟨K.old _ _ D.x (.inl nofun) n1, ⟨n, K.old _ _ d (.inl nofun) n2⟩, D.r⟩
theorem no_list {es : List DictEntry} {n : Nat} {h : Heap} (e : h.get? dx = some (dictOf es n)) : ∀ vs m, h.get? dx ≠ some (listOf vs m) := fun vs m q => by
  rw [e] at q; injection q with q; injection q with q; injection q with q; exact absurd q (by decide)
theorem meth_attr : ∀ n ∈ wsMeths, ∀ m ∈ (["raw", "n", "nt", "norm", "is_simple"] : List Str), n ≠ m := by decide
theorem attr_step {es : List DictEntry} {as : List (Str × PyData)} {name : Str} {d : PyData} {Q : Flow → Shared → Prop} (W : WsK u K C) (hn : name ∈ (["raw", "n", "nt", "norm", "is_simple"] : List Str)) (he : EnvIs sc env) (ok : Ok A k) (wd : Wd u s.heap)
    (M : MatchS u N ad env s.heap σ) (hz : look σ "self" = some (.ws (some x) as, false)) (hp : ∀ y d b, look σ y = some (d, b) → y = "self" ∨ ∃ p, d = .py p) (t : EvX u k sc σ e (.py d))
    (D : ObAt C x dx es s.heap) (hl : es.length ≤ 100) (hb : u.lim ≤ dx) (nF : ¬ FA env dx) (nN : ¬ N x ∧ ¬ N dx) (hne : ∀ p ∈ as, p.1 ≠ name)
    (h : ∀ h' tk es', Keeps u (fun a => a = dx) s.heap h' → Wd u h' → MatchS u N ad env h' (("self", (.ws (some x) ((name, d) :: as), false)) :: σ) → ObAt C x dx es' h' → es'.length ≤ es.length + 1 → Q .next { s with heap := h', toks := tk })
    (hs : swapsWith e (some (.Attribute (.Name "self" p1) name p2)) pos.line env = pure false) : wpAny u.M A (exec (.Assign [.Attribute (.Name "self" p1) name p2] e pos) env) Q NoE s := by
  refine plainObj_wpAny_Assign_Attribute (t.use he ok wd M fun v h1 t1 k1 w1 M1 r1 => ?_) hs
  have D1 : ObAt C x dx es h1 := D.step k1 id id
  obtain ⟨n, d1⟩ := D1.d
  obtain ⟨v0, hv0, x', C', dx', od, ⟨rfl, e1⟩, e2, e3, e4, e5, e6, e7, e8, e9⟩ := M1.val _ _ hz
  cases e1 x rfl
  have e10 := D1.x
  rw [e10] at e3; injection e3 with e3; injection e3 with e3 e3'; injection e3 with e3; injection e3' with e3'; subst e3; subst e3'
  rw [d1] at e4; injection e4 with e4; subst e4
  refine sees_name (s := { s with heap := h1, toks := t1 }) he hv0 (set_own_dict (s := { s with heap := h1, toks := t1 }) W w1 hn D1.x d1 D1.r hl fun h2 tk hsh tt n' sb g2 => ?_)
  have nx : x ≠ dx := fun q => by rw [q, d1] at e10; injection e10 with e10; injection e10 with e10; injection e10
  have K2 : Keeps u (fun a => a = dx) h1 h2 := .upd hb sb rfl ⟨_, g2, fun ps q => by cases q⟩ (fun its m q => by rw [d1] at q; injection q with q; injection q with q; injection q with q; exact absurd q (by decide)) (fun o vs y t o1 o2 => by rw [d1] at o1; cases o1; cases o2)
  have nl := no_list (h := h1) d1
  refine h h2 tk _ ((k1.mono fun _ => nonil).trans K2) (K2.wd w1) (M1.attr hz hp K2 nl nF ?_) ⟨(sb.2 x nx).trans D1.x, ⟨_, g2⟩, ?_⟩ (putL_len ..)
  · refine ⟨x, C, dx, _, ⟨rfl, fun a q => (Option.some.inj q).symm⟩, e2, (sb.2 x nx).trans D1.x, g2, ⟨rfl, fun m hm => ?_⟩, (fun ps q => by cases q), fun p hp' => ?_, e8, e9⟩
    · have hr2 : (putL name hsh (.str name tt) v es).any (·.refKey) = false := by rw [putL_ref]; exact D1.r
      rw [lookIn_dict, getL_map _ _ hr2, putL_miss (meth_attr m hm name hn), ← getL_map _ _ D1.r]
      exact e5.2 m hm
    have hr2 : (putL name hsh (.str name tt) v es).any (·.refKey) = false := by rw [putL_ref]; exact D1.r
    rcases List.mem_cons.mp hp' with rfl | hp'
    · refine ⟨v, ?_, RepP.stepO (u := u) r1 nl K2⟩
      rw [lookIn_dict, getL_map _ _ hr2, putL_hit]
    · obtain ⟨w, hw, rw1⟩ := e7 p hp'
      refine ⟨w, ?_, RepP.stepO (u := u) rw1 nl K2⟩
      rw [lookIn_dict, getL_map _ _ hr2, putL_miss (hne p hp'), ← getL_map _ _ D1.r]
      exact hw
  · rw [putL_ref]; exact D1.r
end
end
section
/-- the class's statement j makes its method name -/
noncomputable def Me (u : U) (K : Frag) (C : Addr) (name : Str) (j : Nat) : Prop := ∃ f doc pm an cd ct, findIn K (.ref C) name = some (some (.ref f)) ∧ typeIn K (.ref f) = some (.type "function") ∧ keepIn K (.ref f) = true ∧
  MethAt u f (fnX name ("Whitespace." ++ name) (mParams j) (mBody j) (mScope j) [] .none .none doc pm an cd ct)
section
variable {u : U} {k : Nat} {sc : Scope} {σ σ' : St} {pos p ap cp : Pos} {e : Expr} {K : Frag} {C : Addr} {z name : Str}
theorem handed_rep {N : Addr → Prop} {h : Heap} {v : Value} {d : PyData} (r : RepP N h v d) : handedIn v = true := by
  obtain ⟨as, r, _⟩ := r
  cases r <;> rfl
theorem findObj_own (W : WsK u K C) (hn : name ∈ (["raw", "n", "nt", "norm", "is_simple"] : List Str)) {od : Obj} {v : Value} (e : lookIn name od = some (some v)) : findObj K C (some od) name = some (.value v) := by
  obtain ⟨cd, hc, hd⟩ := any_some W.hasD
  have hd' : cd.hasDict = true := hd
  unfold findObj PySem.W.ownOf
  rw [hc, Option.bind_some, W.free name hn, Option.bind_some]
  simp only [Option.bind_some, hd', if_true, e]
theorem EvT.attr {l : Option Addr} {as : List (Str × PyData)} {d : PyData} (W : WsK u K C) (hn : name ∈ (["raw", "n", "nt", "norm", "is_simple"] : List Str)) (hz : look σ z = some (.ws l as, false)) (hd : (name, d) ∈ as)
    (hdb : (z == ("__debug__" : Str)) = false := by decide) (hc : (z == ("__classdict__" : Str)) = false := by decide) : EvT u k sc σ (.Attribute (.Name z p) name ap) (.py d) :=
  EvT.mk fun env N A s Q H h => by
    obtain ⟨v, hv, x, C', dx, od, ⟨rfl, e1⟩, e2, e3, e4, e5, e6, e7, e8, e9⟩ := H.lk z _ hz
    rw [W.mg] at e2; cases e2
    obtain ⟨w, hw, rw1⟩ := e7 _ hd
    refine Attribute_name (sees_name H.is hv ?_ hdb hc)
    exact get_value (W.in H.wd) ⟨e3, rfl, rfl, e4⟩ W.getA (findObj_own W hn hw) (handed_rep rw1) (h w s.heap _ (.refl _) rw1)
theorem looks_stat {M : Model} {h : Heap} {o : Obj} {name : Str} (e : h.get? cStatics = some o) (l : lookIn name o = some none) : Looks M h (nsGet cStatics name) none := by
  intro A Q E s k q
  refine wpAny_bind (wpAny_loadPart (k _ _ e) ?_)
  rw [nsLook_of l]
  exact wpAny_pure q
theorem stat_here (W : WsK u K C) {h : Heap} (wd : Wd u h) : ∃ o, h.get? cStatics = some o ∧ lookIn "thirdparty.any" o = some none := by
  obtain ⟨o, es, n, h1, h2, h3⟩ := W.stat
  rcases wd.old.old _ _ h1 with x | ⟨_, _, vs, more, hv, _⟩ | ⟨_, _, ⟨o', es', n', g1, _, g2, g3⟩, z⟩
  · exact ⟨o, x, h3⟩
  · rw [h2] at hv; cases hv
  · refine ⟨o', g1, ?_⟩
    have e0 : es.toList.find? (fun e => e.key.isStr "thirdparty.any") = none := by
      unfold lookIn at h3
      rw [h2] at h3
      dsimp only at h3
      split at h3
      · cases h3
      · rename_i q; exact q
    have s0 : staticOf u.hB "thirdparty.any" = none := by
      unfold staticOf
      rw [h1]; dsimp only
      rw [h2]; dsimp only
      rw [← Array.find?_toList, e0]; rfl
    have s1 : staticOf h "thirdparty.any" = none := by
      rcases z "thirdparty.any" with q | ⟨q, _⟩
      · rw [q, s0]
      · exact absurd q (by decide +kernel)
    unfold staticOf at s1
    rw [g1] at s1; dsimp only at s1
    rw [g2] at s1; dsimp only at s1
    rw [← Array.find?_toList] at s1
    have e1 : es'.toList.find? (fun e => e.key.isStr "thirdparty.any") = none := by
      cases q : es'.toList.find? (fun e => e.key.isStr "thirdparty.any") with
      | none => rfl
      | some e => rw [q] at s1; cases s1
    have e2 : es'.toList.any (·.refKey) = false := by
      rw [List.any_eq_false]
      intro e he
      obtain ⟨x, t, hx⟩ := g3 e (by simpa using he)
      unfold DictEntry.refKey
      rw [hx]; simp
    unfold lookIn
    rw [g2]; dsimp only
    rw [e1, e2]; rfl
theorem EvT.clsR {x : Str} (W : WsK u K C) (hf : ∃ t, findCls K (.ref C) (.type "type") name = some (.val (.str x t))) (hx : sc.names.lookup ("Whitespace" : Str) = some .globalImplicit := by rfl) : EvT u k sc σ (.Attribute (.Name "Whitespace" p) name ap) (S x) :=
  EvT.mk fun env N A s Q H h => by
    obtain ⟨t, hf⟩ := hf
    have X := W.in H.wd
    obtain ⟨o, o1, o2⟩ := stat_here W H.wd
    have L0 : Looks u.M s.heap (opaqueClassAbove (.ref C)) none := Looks.andThen (a := false) ((looks_stat o1 o2).andThen .now) (by show Looks u.M s.heap (if (!false) = true then pure none else _) none; rw [if_pos (show (!false) = true from rfl)]; exact .now)
    have L1 : Looks u.M s.heap (hookBefore (.type "type")) none := by
      unfold hookBefore
      rw [if_neg (by decide)]
      exact .now
    refine Attribute_name (globN H hx W.mg (cls_open X L0 (looks_typeIn X W.typ) W.tga L1 W.tsub hf (wpAny_pure ?_)))
    exact wpAny_pure (h _ s.heap _ (.refl _) (RepP.str _ _))
end
end
section
/-- between two statements of a constructor: the heap before it, the object at x, its table at dx -/
structure Stg (u : U) (N : Addr → Prop) (C : Addr) (h0 : Heap) (env : Env) (l : Nat) (ad : Str → Addr) (σ : St) (h : Heap) : Prop where
  wd : Wd u h
  K : Keeps u Nil h0 h
  M : MatchS u N ad env h σ
  D : ∃ es, ObAt C (h0.objs.size + 1) h0.objs.size es h ∧ es.length ≤ l
  own : ∀ y d, look σ y = some (d, true) → New h0 (ad y)
section
variable {u : U} {k : Nat} {sc : Scope} {σ σ' : St} {pos p1 p2 : Pos} {e : Expr} {K : Frag} {C : Addr} {A : Around} {s : Shared} {env : Env} {N : Addr → Prop} {ad : Str → Addr} {h0 : Heap} {l : Nat} {rest : List Stmt} {st : Stmt} {Q : Flow → Shared → Prop}
theorem Stg.notMut {h : Heap} (S : Stg u N C h0 env l ad σ h) (hF : ∀ a, FA env a → h0.objs.size + 2 ≤ a) : ¬ Mut ad σ env (h0.objs.size + 1) ∧ ¬ Mut ad σ env h0.objs.size := by
  obtain ⟨es, D, _⟩ := S.D
  obtain ⟨n, d⟩ := D.d
  refine ⟨fun q => ?_, fun q => ?_⟩
  · rcases q with q | ⟨y, e, hy, q⟩
    · have := hF _ q.fa; omega
    · obtain ⟨vs, m, xs, _, _, e2, _⟩ := S.M.own y e hy
      have e3 := D.x
      rw [q] at e2; rw [e2] at e3; cases e3
  · rcases q with q | ⟨y, e, hy, q⟩
    · have := hF _ q.fa; omega
    · obtain ⟨vs, m, xs, _, _, e2, _⟩ := S.M.own y e hy
      rw [q] at e2; exact no_list d _ _ e2
/-- a statement that leaves the object alone -/
theorem Stg.stmt (S : Stg u N C h0 env l ad σ s.heap) (t : StT u k sc σ st .next σ') (he : EnvIs sc env) (ok : Ok A k) (hF : ∀ a, FA env a → h0.objs.size + 2 ≤ a)
    (h : ∀ ad' h' tk, Stg u N C h0 env l ad' σ' h' → wpAny u.M A (execs rest env) Q NoE { s with heap := h', toks := tk }) : wpAny u.M A (execs (st :: rest) env) Q NoE s := by
  refine wpAny_execs_cons (t env N ad A s _ he ok S.wd S.M fun f h1 t1 ad1 fr k1 P => ?_)
  cases f with
  | next =>
    have P := P rfl
    obtain ⟨n1, n2⟩ := S.notMut hF
    obtain ⟨es, D, hl⟩ := S.D
    have ownN : ∀ a, OwnA ad σ a → New h0 a := fun a ⟨y, d, hy, q⟩ => q ▸ S.own y d hy
    refine h ad1 h1 t1 ⟨k1.wd S.wd, S.K.then k1 fun a o kp e e' q => ?_, P.ms, ⟨es, D.step k1 n1 n2, hl⟩, fun y d hy => ?_⟩
    · rcases q with q | q
      · exact (Nat.not_lt.mpr (Nat.le_trans (Nat.le_add_right _ 2) (hF _ q.fa)) (Heap.lt_size e)).elim
      · have z := ownN a q
        obtain ⟨y, d, hy, q⟩ := q
        obtain ⟨vs, m, xs, _, _, e2, _⟩ := S.M.own y d hy
        rw [q, e'] at e2; cases e2
        exact z _ e tr_list
    · rcases P.own y d hy with q | q
      · exact ownN _ q
      · exact gone S.K q
  | _ => exact fr.elim
theorem Stg.attr {as : List (Str × PyData)} {name : Str} {d : PyData} (S : Stg u N C h0 env l ad σ s.heap) (W : WsK u K C) (hn : name ∈ (["raw", "n", "nt", "norm", "is_simple"] : List Str)) (he : EnvIs sc env) (ok : Ok A k) (hF : ∀ a, FA env a → h0.objs.size + 2 ≤ a)
    (hz : look σ "self" = some (.ws (some (h0.objs.size + 1)) as, false)) (hp : ∀ y d b, look σ y = some (d, b) → y = "self" ∨ ∃ p, d = .py p) (t : EvX u k sc σ e (.py d)) (hl : l ≤ 100) (hb : u.lim ≤ h0.objs.size) (nN : ¬ N (h0.objs.size + 1) ∧ ¬ N h0.objs.size) (hne : ∀ p ∈ as, p.1 ≠ name)
    (h : ∀ h' tk, Stg u N C h0 env (l + 1) ad (("self", (.ws (some (h0.objs.size + 1)) ((name, d) :: as), false)) :: σ) h' → wpAny u.M A (execs rest env) Q NoE { s with heap := h', toks := tk })
    (hs : swapsWith e (some (.Attribute (.Name "self" p1) name p2)) pos.line env = pure false) : wpAny u.M A (execs (.Assign [.Attribute (.Name "self" p1) name p2] e pos :: rest) env) Q NoE s := by
  obtain ⟨es, D, hl2⟩ := S.D
  refine wpAny_execs_cons (attr_step W hn he ok S.wd S.M hz hp t D (by omega) hb (fun q => by have := hF _ q; omega) nN hne (fun h' tk es' k1 w1 M1 D1 l1 => ?_) hs)
  refine h h' tk ⟨w1, S.K.then k1 fun a o kp e e' q => ?_, M1, ⟨es', D1, by omega⟩, fun y d hy => ?_⟩
  · exact (Nat.lt_irrefl _ (q ▸ Heap.lt_size e)).elim
  · rw [look_cons] at hy
    split at hy
    · cases hy
    · exact S.own y d hy
theorem Stg.sub {h : Heap} {σ' : St} (S : Stg u N C h0 env l ad σ h) (sb : Sub σ' σ) : Stg u N C h0 env l ad σ' h := ⟨S.wd, S.K, S.M.sub sb, S.D, fun y d hy => S.own y d (sb _ _ hy)⟩
theorem Stg.disown {h : Heap} {x : Str} {d : Vd} (S : Stg u N C h0 env l ad σ h) (hx : look σ x = some (d, true)) : Stg u N C h0 env l ad ((x, (d, false)) :: σ) h := ⟨S.wd, S.K, S.M.disown hx, S.D, fun y e hy => by
  rw [look_cons] at hy
  split at hy
  · cases hy
  · exact S.own y e hy⟩
end
end
section
noncomputable def wsPad (c : List Int) (b : Nat) : List Int := if c.length ≤ b then c ++ List.replicate (b - c.length + 1) 0 else c
noncomputable def wsBump (c : List Int) (b : Nat) : List Int := (wsPad c b).set b ((wsPad c b).getD b 0 + 1)
structure WsR where
  b : Nat
  n : Nat
  nt : Nat
  c : List Int
noncomputable def wsRun : List Nat → WsR → WsR
  | [], r => r
  | ch :: l, r => if ch = 32 then wsRun l ⟨r.b + 1, r.n + 1, r.nt, r.c⟩ else if ch = 9 then wsRun l ⟨0, r.n + 1, r.nt + 1, wsBump r.c r.b⟩ else r
theorem wsPad_len (c : List Int) (b : Nat) : b < (wsPad c b).length ∧ (wsPad c b).length ≤ max c.length (b + 1) := by
  unfold wsPad
  split
  · simp; omega
  · omega
section
variable {u : U} {k : Nat} {K : Frag} {C : Addr}
theorem eqv_chr (c d : Nat) : PyData.eqv (.str ⟨#[c]⟩) (.str ⟨#[d]⟩) = decide (c = d) := by
  by_cases h : c = d
  · subst h; simp [PyData.eqv]
  · simp [PyData.eqv, h]
theorem shaped_str {x : Str} (h : PyData.strOk x = true) : SeqAt.shaped (.str x) = true := by
  unfold SeqAt.shaped
  simp [PyData.canLay0, PyData.depth, h]
theorem ok32 : PyData.strOk ⟨#[32]⟩ = true := by decide +kernel
theorem ok9 : PyData.strOk ⟨#[9]⟩ = true := by decide +kernel
noncomputable def wsSt (lo : Option Addr) (y : Str) (r : WsR) : St := [("count", (Ls (iLs r.c), true)), ("b", (I r.b, false)), ("n", (I r.n, false)), ("nt", (I r.nt, false)), ("S", (S ⟨#[32]⟩, false)), ("T", (S ⟨#[9]⟩, false)), ("self", (.ws lo [("raw", .str y)], false))]
noncomputable def loopBody : List Stmt := match (mBody 1)[(4 : Nat)]? with
  | some (.For _ _ b _ _) => b
  | _ => []
noncomputable def loopTgt : Expr := match (mBody 1)[(4 : Nat)]? with
  | some (.For t _ _ _ _) => t
  | _ => default
theorem ws_loop (T : Tops u) {lo : Option Addr} {y : Str} : ∀ (l : List Nat) (r : WsR), r.b + l.length ≤ 65536 → r.c.length ≤ 65536 → (∀ c ∈ l, PyData.strOk ⟨#[c]⟩ = true) → ∀ r', wsRun l r = r' → LoopT u k (mScope 1) loopTgt loopBody (wsSt lo y r) (chars l) .next (wsSt lo y r') := by
  intro l
  induction l with
  | nil => intro r _ _ _ r' h; cases h; exact LoopT.nil
  | cons ch l ih =>
    intro r h1 h2 h3 r' h
    unfold wsRun at h
    simp only [List.length_cons] at h1
    by_cases c1 : ch = 32
    · subst c1
      rw [if_pos rfl] at h
      refine LoopT.next (d := .str ⟨#[32]⟩) (σ1 := ("ch", (S ⟨#[32]⟩, false)) :: wsSt lo y r) (AsT.name rfl) (σ2 := _) (.cons (StT.ifT (.to (TsT.cmp (EvT.name rfl) (EvT.name rfl) (CmpR.eq (shaped_str ok32) (shaped_str ok32))) (eqv_chr _ _)) (.cons (StT.assign (d := I ((r.n + 1 : Nat) : Int)) (.inl (.toI (EvT.add (EvT.name rfl) EvT.int) (by simp))) rfl) (.cons (StT.assign (d := I ((r.b + 1 : Nat) : Int)) (.inl (.toI (EvT.add (EvT.name rfl) EvT.int) (by simp))) rfl) .nil))) .nil) (.inl rfl) ((ih ⟨r.b + 1, r.n + 1, r.nt, r.c⟩ (by simp; omega) h2 (fun c q => h3 c (.tail _ q)) r' h).pre ?_)
      walk_at "mine sub"
    · have o1 := h3 ch (.head _)
      rw [if_neg c1] at h
      by_cases c2 : ch = 9
      · subst c2
        rw [if_pos rfl] at h
        have hb := (wsPad_len r.c r.b).1
        have hb2 := (wsPad_len r.c r.b).2
        refine LoopT.next (d := .str ⟨#[9]⟩) (σ1 := ("ch", (S ⟨#[9]⟩, false)) :: wsSt lo y r) (AsT.name rfl) (σ2 := _) (.cons (StT.ifF (.to (TsT.cmp (EvT.name rfl) (EvT.name rfl) (CmpR.eq (shaped_str ok9) (shaped_str ok32))) ((eqv_chr _ _).trans (by decide))) (.cons (StT.ifT (.to (TsT.cmp (EvT.name rfl) (EvT.name rfl) (CmpR.eq (shaped_str ok9) (shaped_str ok9))) ((eqv_chr _ _).trans (by decide)))
          (.cons (StT.assign (d := I ((r.n + 1 : Nat) : Int)) (.inl (.toI (EvT.add (EvT.name rfl) EvT.int) (by simp))) rfl) (.cons (StT.assign (d := I ((r.nt + 1 : Nat) : Int)) (.inl (.toI (EvT.add (EvT.name rfl) EvT.int) (by simp))) rfl)
          (.cons (σ' := [("count", (Ls (iLs (wsPad r.c r.b)), true)), ("nt", (I ((r.nt + 1 : Nat) : Int), false)), ("n", (I ((r.n + 1 : Nat) : Int), false)), ("b", (I r.b, false)), ("S", (S ⟨#[32]⟩, false)), ("T", (S ⟨#[9]⟩, false)), ("self", (.ws lo [("raw", .str y)], false))]) ?_
          (.cons (StT.setItem (xs := iLs (wsPad r.c r.b)) (i := (r.b : Int)) (d := .int ((wsPad r.c r.b).getD r.b 0 + 1)) rfl (.inr ⟨rfl, EvT.add (EvT.item (EvT.name rfl) (EvT.name rfl) (by omega) (by omega) (by rw [Int.toNat_natCast, List.getElem?_map, List.getElem?_eq_getElem hb]; simp [List.getD_eq_getElem?_getD, List.getElem?_eq_getElem hb])) EvT.int⟩) (EvT.name rfl) (by omega) (by simp; omega) (by simp; omega))
          (.cons (StT.assign (d := I 0) (.inl EvT.int) rfl) .nil)))))) .nil)) .nil) (.inl rfl) ((ih ⟨0, r.n + 1, r.nt + 1, wsBump r.c r.b⟩ (by simp; omega) (by unfold wsBump; rw [List.length_set]; omega) (fun c q => h3 c (.tail _ q)) r' h).pre ?_)
        · by_cases hle : r.c.length ≤ r.b
          · have e1 : wsPad r.c r.b = r.c ++ List.replicate (r.b - r.c.length + 1) 0 := if_pos hle
            refine (StT.ifT (.to (TsT.cmp (EvT.name rfl) (EvT.lenl (T.bl (by decide) rfl) (EvT.name rfl) (by simp; omega)) CmpR.ge) (by simp; omega)) (.cons (StT.assignF (xs := iLs (wsPad r.c r.b)) (.inr ⟨by simp [flat], ?_⟩) rfl) .nil)).post (by walk_at "mine sub")
            have e2 : iLs (wsPad r.c r.b) = iLs r.c ++ List.replicate ((r.b : Int) - (r.c.length : Int) + 1).toNat (PyData.int 0) := by
              rw [e1, show ((r.b : Int) - (r.c.length : Int) + 1).toNat = r.b - r.c.length + 1 by omega]; simp
            rw [e2]
            refine EvFr.ladd (EvT.name rfl) (EvT.lmul (EvT.list (ds := [.int 0]) (.of1 EvT.int)) (EvT.add (EvT.sub (EvT.name rfl) (.toI (EvT.lenl (T.bl (by decide) rfl) (EvT.name rfl) (by simp; omega)) (by simp))) EvT.int) (by omega) (by omega)) (by rw [sizeLine_eq]; simp; omega)
          · have e1 : wsPad r.c r.b = r.c := if_neg hle
            rw [e1]
            exact (StT.ifF (.to (TsT.cmp (EvT.name rfl) (EvT.lenl (T.bl (by decide) rfl) (EvT.name rfl) (by simp; omega)) CmpR.ge) (by simp; omega)) .nil).post (by walk_at "mine sub")
        · have e9 : (iLs (wsPad r.c r.b)).set (r.b : Int).toNat (PyData.int ((wsPad r.c r.b).getD r.b 0 + 1)) = iLs (wsBump r.c r.b) := by unfold wsBump; simp
          rw [e9]
          walk_at "mine sub"
      · rw [if_neg c2] at h
        cases h
        exact LoopT.brk (d := .str ⟨#[ch]⟩) (σ1 := ("ch", (S ⟨#[ch]⟩, false)) :: wsSt lo y r) (AsT.name rfl) (.stop (StT.ifF (.to (TsT.cmp (EvT.name rfl) (EvT.name rfl) (CmpR.eq (shaped_str o1) (shaped_str ok32))) ((eqv_chr _ _).trans (by simpa using c1)))
          (.stop (StT.ifF (.to (TsT.cmp (EvT.name rfl) (EvT.name rfl) (CmpR.eq (shaped_str o1) (shaped_str ok9))) ((eqv_chr _ _).trans (by simpa using c2))) (.stop StT.brk nofun)) nofun)) nofun) |>.post (by walk_at "mine sub")
end
end
section
noncomputable def isPy : Vd → Bool
  | .py _ => true
  | _ => false
theorem py_but {σ : St} (h : σ.all (fun e => e.1 == ("self" : Str) || isPy e.2.1) = true) : ∀ y d b, look σ y = some (d, b) → y = "self" ∨ ∃ p, d = .py p := by
  intro y d b hy
  induction σ with
  | nil => cases hy
  | cons e σ ih =>
    obtain ⟨x, e⟩ := e
    rw [List.all_cons, Bool.and_eq_true] at h
    rw [look_cons] at hy
    split at hy
    · rename_i q
      cases hy
      rcases Bool.or_eq_true_iff.mp h.1 with z | z
      · exact .inl (q.trans (eq_of_beq z))
      · cases d with
        | py p => exact .inr ⟨p, rfl⟩
        | _ => cases z
    · exact ih h.2 hy
noncomputable def wsNew (y : Str) : List (Str × PyData) :=
  let r := wsRun y.cps.toList ⟨0, 0, 0, []⟩
  [("is_simple", .bool (decide ((r.c.length : Int) ≤ 1))), ("norm", .tuple [.tuple (iLs r.c), .int r.b]), ("nt", .int r.nt), ("n", .int r.n), ("raw", .str y)]
theorem wsRun_len : ∀ (l : List Nat) (r : WsR), r.b + l.length ≤ 65536 → r.c.length ≤ 65536 → (wsRun l r).b ≤ 65536 ∧ (wsRun l r).c.length ≤ 65536 := by
  intro l
  induction l with
  | nil => intro r h1 h2; exact ⟨by show r.b ≤ 65536; simpa using h1, h2⟩
  | cons ch l ih =>
    intro r h1 h2
    simp only [List.length_cons] at h1
    have hb2 := (wsPad_len r.c r.b).2
    unfold wsRun
    split
    · exact ih _ (by simp; omega) h2
    · split
      · exact ih _ (by simp; omega) (by unfold wsBump; rw [List.length_set]; omega)
      · exact ⟨by omega, h2⟩
section
variable {u : U} {k : Nat} {sc : Scope} {σ : St} {pos p : Pos} {e : Expr} {K : Frag} {C : Addr}
theorem EvT.tupleOf {xs : List PyData} (bl : Bl u sc "tuple" (.type "tuple")) (t : EvT u k sc σ e (Ls xs)) (hz : xs.length ≤ 2 ^ 20) (hp : plainE e = true := by rfl) :
    EvT u k sc σ (.Call (.Name "tuple" p) [e] [] pos) (Tu xs) :=
  EvT.btype bl (EvTs.cons t .nil) (fun N A s vs Q o _ lv r h => by
    obtain ⟨v, rfl, r1⟩ := RepVs.inv1 r
    obtain ⟨q, ws, n, rfl, hq, _, qs⟩ := RepP.list_inv r1
    have e1 := qs.length
    simp only [Array.length_toList] at e1
    refine call_tuple_list (l := q) (items := ws) ⟨_, hq, rfl, n, rfl⟩ (fun h' hk => ?_) (by rw [e1, sizeLine_eq]; omega)
    have kk : Keeps u Nil s.heap (h'.push { cls := .type "tuple", data := .seq ws }) := (Keeps.ext hk).trans (.push _ _)
    exact h _ _ _ kk (RepP.tuple_mk (vs := ws) (n := 0) (Heap.get?_push_size _ rfl) (qs.step kk fun _ => nonil))) (by simp [hp])
theorem ws_init (W : WsK u K C) (T : Tops u) {fI : Addr} {doc pm : Value} {an : Option Addr} {cd ct : Value} (F : MethAt u fI (fnX "__init__" ("Whitespace." ++ "__init__") (mParams 1) (mBody 1) (mScope 1) [] .none .none doc pm an cd ct))
    {y : Str} (hy : y.length ≤ 65536) (hc : ∀ c ∈ y.cps.toList, PyData.strOk ⟨#[c]⟩ = true) {N : Addr → Prop} {A : Around} {h0 : Heap} {s : Shared} {R : Result → Shared → Prop} {t : Tok} (ok : Ok A (k + 1)) (wd : Wd u h0) (lv : Live N h0)
    (hs : s.heap = (h0.push emptyDict).push (instObj C h0.objs.size))
    (h : ∀ h' tk, Keeps u Nil h0 h' → Rep u N h' (.ref (h0.objs.size + 1)) (.ws none (wsNew y)) → R (.ok (.ret .none)) { s with heap := h', toks := tk }) :
    codeAny u.M A (.call (.ref fI) ⟨[.ref (h0.objs.size + 1), .str y t], []⟩) R s := by
  have K0 : Keeps u Nil h0 s.heap := by rw [hs]; exact (Keeps.push _ _).trans (.push _ _)
  have hz : s.heap.objs.size = h0.objs.size + 2 := by rw [hs, Heap.size_push, Heap.size_push]
  have gd : s.heap.get? h0.objs.size = some (dictOf [] 0) := by rw [hs]; exact Heap.get?_push_of_some _ (Heap.get?_push_size _ rfl)
  have gx : s.heap.get? (h0.objs.size + 1) = some (instObj C h0.objs.size) := by
    rw [hs]
    have := Heap.get?_push_size (h0.push emptyDict) (o := instObj C h0.objs.size) rfl
    rwa [Heap.size_push] at this
  have nN : ¬ N (h0.objs.size + 1) ∧ ¬ N h0.objs.size := ⟨fun q => by
    obtain ⟨o, e, _⟩ := lv _ q
    have := Heap.lt_size e
    exact absurd this (Nat.not_lt.mpr (Nat.le_succ _)), live_no lv⟩
  refine F.enter (ps := [("self", .ws (some (h0.objs.size + 1)) []), ("ws", S y)]) rfl rfl rfl rfl rfl rfl ok (K0.wd wd) (lv.step K0) (.of_eq rfl) ⟨rfl, ⟨_, C, _, _, ⟨rfl, fun a q => (Option.some.inj q).symm⟩, W.mg, gx, gd, ⟨rfl, fun n _ => rfl⟩, (fun ps q => by cases q), (fun p hp => nomatch hp), nN⟩, rfl, RepP.str _ _, trivial⟩ (by show (["self", "ws"] : List Str).Nodup; decide) (by intro p hp; rcases List.mem_cons.mp hp with rfl | hp; rfl; rcases List.mem_cons.mp hp with rfl | hp; rfl; cases hp) fun env h1 t1 he ok1 wd1 kp M hF => ?_
  have hF' : ∀ a, FA env a → h0.objs.size + 2 ≤ a := fun a q => by have := hF a q; omega
  have S0 : Stg u N C h0 env 0 (fun _ => 0) (start [("self", .ws (some (h0.objs.size + 1)) []), ("ws", S y)]) h1 :=
    ⟨wd1, K0.trans (.ext kp), M, ⟨[], ⟨kp _ _ gx, ⟨0, kp _ _ gd⟩, rfl⟩, Nat.le_refl _⟩, fun z d hz => by
      have hz' : look [("self", (.ws (some (h0.objs.size + 1)) [], false)), ("ws", (S y, false))] z = some (d, true) := hz
      rw [look_cons, look_cons] at hz'
      split at hz'
      · cases hz'
      · split at hz'
        · cases hz'
        · cases hz'⟩
  refine S0.attr (s := { s with heap := h1, toks := t1 }) (name := "raw") (d := .str y) W (by decide) he ok1 hF' rfl (py_but rfl) (.inl (EvT.name rfl)) (by decide) wd.size nN (fun p hp => nomatch hp) (fun h2 tk2 S1 => ?_) rfl
  refine S1.stmt (s := { s with heap := h2, toks := tk2 }) (StT.swap2 (.inl (EvT.tup2 (EvT.clsR W W.S) (EvT.clsR W W.T))) rfl rfl) he ok1 hF' fun ad3 h3 tk3 S3 => ?_
  refine S3.stmt (s := { s with heap := h3, toks := tk3 }) (StT.assignF (.inl (EvFr.list (ds := []) .nil)) rfl) he ok1 hF' fun ad4 h4 tk4 S4 => ?_
  refine S4.stmt (s := { s with heap := h4, toks := tk4 }) (StT.assign3 (.inl EvT.int) rfl rfl rfl rfl) he ok1 hF' fun ad5 h5 tk5 S5 => ?_
  have S5' := S5.sub (σ' := wsSt (some (h0.objs.size + 1)) y ⟨0, 0, 0, []⟩) (by unfold wsSt; walk_at "mine sub")
  refine S5'.stmt (s := { s with heap := h5, toks := tk5 }) (StT.for_ (IterT.x (IterT.str (EvT.attr W (by decide) rfl (.head _)))) (ws_loop T y.cps.toList ⟨0, 0, 0, []⟩ (by rw [Nat.zero_add, Array.length_toList]; exact hy) (by simp) hc _ rfl)) he ok1 hF' fun ad6 h6 tk6 S6 => ?_
  obtain ⟨b1, b2⟩ := wsRun_len y.cps.toList ⟨0, 0, 0, []⟩ (by rw [Nat.zero_add, Array.length_toList]; exact hy) (by simp)
  have e9 : wsNew y = ([("is_simple", .bool (decide (((wsRun y.cps.toList ⟨0, 0, 0, []⟩).c.length : Int) ≤ 1))), ("norm", .tuple [.tuple (iLs (wsRun y.cps.toList ⟨0, 0, 0, []⟩).c), .int (wsRun y.cps.toList ⟨0, 0, 0, []⟩).b]), ("nt", .int (wsRun y.cps.toList ⟨0, 0, 0, []⟩).nt), ("n", .int (wsRun y.cps.toList ⟨0, 0, 0, []⟩).n), ("raw", .str y)] : List (Str × PyData)) := rfl
  generalize wsRun y.cps.toList ⟨0, 0, 0, []⟩ = r at S6 b1 b2 e9
  have S7 := S6.disown (x := "count") rfl
  refine S7.attr (s := { s with heap := h6, toks := tk6 }) (name := "n") (d := .int r.n) W (by decide) he ok1 hF' rfl (py_but rfl) (.inl (EvT.name rfl)) (by decide) wd.size nN (fun p hp => ?_) (fun h7 tk7 S8 => ?_) rfl
  · rcases List.mem_cons.mp hp with rfl | hp
    · dsimp only; decide
    · cases hp
  refine S8.attr (s := { s with heap := h7, toks := tk7 }) (name := "nt") (d := .int r.nt) W (by decide) he ok1 hF' rfl (py_but rfl) (.inl (EvT.name rfl)) (by decide) wd.size nN (fun p hp => ?_) (fun h8 tk8 S9 => ?_) rfl
  · rcases List.mem_cons.mp hp with rfl | hp
    · dsimp only; decide
    rcases List.mem_cons.mp hp with rfl | hp
    · dsimp only; decide
    · cases hp
  refine S9.attr (s := { s with heap := h8, toks := tk8 }) (name := "norm") (d := .tuple [.tuple (iLs r.c), .int r.b]) W (by decide) he ok1 hF' rfl (py_but rfl) (.inl (EvT.tup2 (EvT.tupleOf (T.bl (by decide) rfl) (EvT.name rfl) (by simp; omega)) (EvT.name rfl))) (by decide) wd.size nN (fun p hp => ?_) (fun h9 tk9 S10 => ?_) rfl
  · rcases List.mem_cons.mp hp with rfl | hp
    · dsimp only; decide
    rcases List.mem_cons.mp hp with rfl | hp
    · dsimp only; decide
    rcases List.mem_cons.mp hp with rfl | hp
    · dsimp only; decide
    · cases hp
  refine S10.attr (s := { s with heap := h9, toks := tk9 }) (name := "is_simple") (d := .bool (decide ((r.c.length : Int) ≤ 1))) W (by decide) he ok1 hF' rfl (py_but rfl) (.inl (.to (EvT.cmp (EvT.lenl (T.bl (by decide) rfl) (EvT.name rfl) (by simp; omega)) EvT.int CmpR.le) (by simp))) (by decide) wd.size nN (fun p hp => ?_) (fun h10 tk10 S11 => ?_) rfl
  · rcases List.mem_cons.mp hp with rfl | hp
    · dsimp only; decide
    rcases List.mem_cons.mp hp with rfl | hp
    · dsimp only; decide
    rcases List.mem_cons.mp hp with rfl | hp
    · dsimp only; decide
    rcases List.mem_cons.mp hp with rfl | hp
    · dsimp only; decide
    · cases hp
  refine wpAny_execs_nil ?_
  obtain ⟨v, _, rv⟩ := S11.M.val "self" _ rfl
  have rv' := Rep.anti (N' := N) rv fun a q => .inl q
  obtain ⟨x', C', dx', od', ⟨rfl, q1⟩, q2⟩ := rv'
  cases q1 _ rfl
  have := h h10 tk10 S11.K (by rw [e9]; exact ⟨_, C', dx', od', ⟨rfl, fun a q => nomatch q⟩, q2⟩)
  exact this
end
end
section
section
variable {u : U} {k : Nat} {sc : Scope} {σ : St} {pos p ap cp : Pos} {e : Expr} {K : Frag} {C : Addr} {z name : Str}
theorem Ok.create {A : Around} {C : Addr} {args : List Value} {kw : List (Str × Value)} (o : Ok A (k + 1)) : Ok (A.under (.builtin "type.__call__" ⟨.ref C :: args, kw⟩)) k := by
  have w1 : (Code.builtin "type.__call__" ⟨.ref C :: args, kw⟩).weight = 1 := rfl
  have w2 : (Code.builtin "type.__call__" ⟨.ref C :: args, kw⟩).cUnits = 1 := rfl
  refine ⟨o.handled, ?_, ?_⟩
  · have := o.depth
    show A.depth + (Code.builtin "type.__call__" ⟨.ref C :: args, kw⟩).weight + k < _
    rw [w1]; omega
  · have := o.units
    show A.units + (Code.builtin "type.__call__" ⟨.ref C :: args, kw⟩).cUnits + 16 * k + 256 < _
    rw [w2]; omega
/-- Whitespace(e) -/
theorem EvT.mkWs (W : WsK u K C) (T : Tops u) (F : Me u K C "__init__" 1) {y : Str} (t : EvT u (k + 2) sc σ e (S y)) (hy : y.length ≤ 65536) (hc : ∀ c ∈ y.cps.toList, PyData.strOk ⟨#[c]⟩ = true)
    (hx : sc.names.lookup ("Whitespace" : Str) = some .globalImplicit := by rfl) (hp : plainE e = true := by rfl) :
    EvT u (k + 2) sc σ (.Call (.Name "Whitespace" p) [e] [] pos) (.ws none (wsNew y)) :=
  EvT.mk fun env N A s Q H h => by
    obtain ⟨fI, doc, pm, an, cd, ct, f1, f2, f3, f4⟩ := F
    have he : starEach [e] env = (false, eval e env) :: starEach [] env := starEach_plain hp [] env
    refine Call_ (globN H hx W.mg (callWith_K (W.in H.wd) W.keep ?_ he rfl))
    refine (EvTs.cons t .nil).use (by simp [hp]) H fun vs h1 t1 k1 H1 r1 => ⟨W.in H1.wd, ?_⟩
    obtain ⟨v, rfl, rv⟩ := RepVs.inv1 r1
    obtain ⟨ty, rfl⟩ := RepP.str_inv rv
    have X := W.in H1.wd
    refine wpAny_call (make_core (makes_of X W.makes) (looks_findIn X f1) (fun self => bind_fn X self f2) (.inl rfl) ?_)
    refine ws_init (k := k) W T f4 hy hc H1.ok.create H1.wd H1.live rfl fun h' tk k2 r2 => ?_
    exact ⟨rfl, h _ h' tk (k1.trans k2) r2⟩
theorem call_meth {M : Model} {A : Around} {E : Value → Shared → Prop} {s : Shared} {env : Env} {o : Expr} {es : List Expr} {Q : Value → Shared → Prop} (hline : (ap.endLine == cp.line) = true)
    (form : methodCallForm (es.length + ([] : List Keyword).length) (backTo cp (starEach es env)) (backToKw cp (keywordEach [] env)) = true) (hbase : attributeBase o name env (eval o env) = eval o env)
    (h : wpAny M A (eval o env) (fun ov s₁ => ∀ pl, wpAny M A (getMethod ov name pl) (fun fx s₂ => wpAny M A (callWith cp fx.1 fx.2 (backTo cp (starEach es env)) (backToKw cp (keywordEach [] env))) Q E s₂) E s₁) E s) :
    wpAny M A (eval (.Call (.Attribute o name ap) es [] cp) env) Q E s := by
  rw [arm_eval_Call, hbase]
  refine wpAny_bind (wpAny_mono h (fun ov s₁ h₁ => ?_) fun _ _ e => e)
  refine wpAny_bind (wpAny_standAt ?_)
  have hpos : methodCallPos true o env ap cp = pure cp := by unfold methodCallPos; simp [hline]
  unfold methodCall
  rw [form]
  refine wpAny_bind (wpAny_holding (wpAny_mono (h₁ _) (fun fx s₂ h₂ => ?_) fun _ _ e => e))
  exact wpAny_bind (wpAny_of_eq hpos h₂)
end
end
section
section
variable {u : U} {k : Nat} {sc : Scope} {σ : St} {pos p ap cp : Pos} {e l r hi tgt elt : Expr} {β : Type} {K : Frag} {C : Addr} {z w : Str}
noncomputable def wsNorm (y : Str) : PyData := let r := wsRun y.cps.toList ⟨0, 0, 0, []⟩; .tuple [.tuple (iLs r.c), .int r.b]
theorem wsNew_norm (y : Str) : (("norm" : Str), wsNorm y) ∈ wsNew y := .tail _ (.head _)
theorem reps_len (c n : Nat) : (reps c n).length = n := by show (List.replicate n c).toArray.size = n; simp
theorem CompR.map (d f : β → PyData) (bs : List β) (h : ∀ b ∈ bs, ∃ σ1, AsL u sc σ tgt (.py (d b)) σ1 ∧ Sub σ σ1 ∧ EvT u k sc σ1 elt (.py (f b))) : CompR u k sc σ tgt [] elt (bs.map d) (bs.map f) := by
  induction bs with
  | nil => exact .nil
  | cons b bs ih =>
    obtain ⟨σ1, a1, a2, a3⟩ := h b (.head _)
    exact .take a1 a2 rfl a3 (ih fun b hb => h b (.tail _ hb))
theorem CompR.filt {t : Expr} (d f : β → PyData) (q : β → Bool) (bs : List β) (h : ∀ b ∈ bs, ∃ σ1, AsL u sc σ tgt (.py (d b)) σ1 ∧ Sub σ σ1 ∧ TsT u k sc σ1 t (q b) ∧ EvT u k sc σ1 elt (.py (f b))) : CompR u k sc σ tgt [t] elt (bs.map d) ((bs.filter q).map f) := by
  induction bs with
  | nil => exact .nil
  | cons b bs ih =>
    obtain ⟨σ1, a1, a2, a3, a4⟩ := h b (.head _)
    have i := ih fun b hb => h b (.tail _ hb)
    cases hq : q b with
    | true => rw [List.filter_cons_of_pos hq]; exact .take a1 a2 (hq ▸ a3) a4 i
    | false => rw [List.filter_cons_of_neg (by simp [hq])]; exact .skip a1 a2 (hq ▸ a3) i
theorem EvT.uptoN {xs : List PyData} {b : Int} {pp : Pos} (t : EvT u k sc σ l (Ls xs)) (tb : EvT u k sc σ hi (I b)) (hb : b < 0) (hz : xs.length ≤ 2 ^ 20) : EvT u k sc σ (.Subscript l (.Slice none (some hi) none pp) pos) (Ls (xs.take (b + xs.length).toNat)) :=
  EvT.lslice (a := none) (b := some b) (c := none) t trivial tb trivial nofun hz fun N h vs q => by
    have e1 := q.length
    simp only [Array.length_toList] at e1
    rw [slicePick_plain]
    have e2 : clipAt vs.size b = (b + xs.length).toNat := by
      unfold clipAt
      rw [if_pos hb, e1]; omega
    simp only [Option.elim, e2, List.drop_zero, Nat.sub_zero]
    simpa using q.take (b + xs.length).toNat
theorem fmod_in (n : Int) {m : Int} (h : 0 < m) : 0 ≤ n.fmod m ∧ n.fmod m < m := ⟨Int.fmod_nonneg_of_pos n h, Int.fmod_lt_of_pos n h⟩
theorem bis_le (up : Nat → Bool) (n : Nat) : ∀ f lo hi, lo ≤ n → hi ≤ n → (bis up f (lo, hi)).1 ≤ n := by
  intro f
  induction f with
  | zero => intro lo hi h _; exact h
  | succ f ih =>
    intro lo hi h1 h2
    unfold bis
    split
    · split
      · exact ih _ _ (by omega) h2
      · exact ih _ _ h1 (by omega)
    · exact h1
noncomputable def bRi (xs : List Int) (x : Int) : Nat := (bis (fun i => !decide (x < xs.getD i 0)) (xs.length + 1) (0, xs.length)).1
noncomputable def bLi (xs : List Int) (x : Int) : Nat := (bis (fun i => decide (xs.getD i 0 < x)) (xs.length + 1) (0, xs.length)).1
noncomputable def insI (x : Int) (xs : List Int) : List Int := xs.take (bRi xs x) ++ x :: xs.drop (bRi xs x)
theorem ints_at {xs : List Int} {i : Nat} {d : PyData} (h : (iLs xs)[i]? = some d) : d = .int (xs.getD i 0) := by
  rw [List.getElem?_map, Option.map_eq_some_iff] at h
  obtain ⟨v, h1, rfl⟩ := h
  simp [List.getD_eq_getElem?_getD, h1]
theorem caR_int (T : Tops u) (F : FnD u "bisect_right" 12) {xs : List Int} {x : Int} (hz : xs.length ≤ 2 ^ 20) : CaT u (k + 1) "bisect_right" [Ls (iLs xs), I x] [] [] (I (bRi xs x)) := by
  have b := bisR_none (k := k) (g := "") T (xs := iLs xs) (dx := I x) (lt := fun i => decide (x < xs.getD i 0)) (by simpa using hz) fun i d h => by rw [ints_at h]; exact CmpR.lt
  rw [List.length_map] at b
  exact CaT.d2 F (.inr (.inl rfl)) b gives
theorem caL_int (T : Tops u) (F : FnD u "bisect_left" 13) {xs : List Int} {x : Int} (hz : xs.length ≤ 2 ^ 20) : CaT u (k + 1) "bisect_left" [Ls (iLs xs), I x] [] [] (I (bLi xs x)) := by
  have b := bisL_none (k := k) (g := "") T (xs := iLs xs) (dx := I x) (lt := fun i => decide (xs.getD i 0 < x)) (by simpa using hz) fun i d h => by rw [ints_at h]; exact CmpR.lt
  rw [List.length_map] at b
  exact CaT.d2 F (.inr (.inr rfl)) b gives
theorem muI (T : Tops u) (F11 : FnD u "insort_right" 11) (F : FnD u "bisect_right" 12) {xs : List Int} {x : Int} (hz : xs.length < 2 ^ 20) : MuT u (k + 2) "insort_right" (iLs xs) [I x] [] [] (iLs (insI x xs)) := by
  have b := bisR_none (k := k) (g := "") T (xs := iLs xs) (dx := I x) (lt := fun i => decide (x < xs.getD i 0)) (by simp; omega) fun i d h => by rw [ints_at h]; exact CmpR.lt
  rw [List.length_map] at b
  have c : CaT u (k + 1) "bisect_right" [Ls (iLs xs), I x, I 0, .py .none] [] [] (I (bRi xs x)) := CaT.d4 F (.inr (.inl rfl)) b gives
  have m := insort_none F11 F.has (xs := iLs xs) (d := .int x) (i := bRi xs x) (by rw [List.length_map]; exact bis_le _ _ _ _ _ (Nat.zero_le _) (Nat.le_refl _)) (by simpa using hz) c
  have e : insAt (bRi xs x) (.int x) (iLs xs) = iLs (insI x xs) := by unfold insAt insI; simp
  rw [e] at m
  exact m
theorem EvT.uptoB {xs : List PyData} {b : Int} {pp : Pos} (t : EvT u k sc σ l (.big xs)) (tb : EvT u k sc σ hi (I b)) (hb : 0 ≤ b) (hz : xs.length ≤ 2 ^ 20) : EvT u k sc σ (.Subscript l (.Slice none (some hi) none pp) pos) (Ls (xs.take b.toNat)) :=
  EvT.mk fun env N A s Q H h => Subscript_ (t.use H fun v h1 t1 k1 H1 r1 => wpAny_Slice (PartT.use (x := none) (o := none) trivial (s := { s with heap := h1, toks := t1 }) H1 fun va h2 t2 k2 H2 pa _ =>
    PartT.use (x := some hi) (o := some b) tb (s := { s with heap := h2, toks := t2 }) H2 fun vb h3 t3 k3 H3 pb _ => PartT.use (x := none) (o := none) trivial (s := { s with heap := h3, toks := t3 }) H3 fun vc h4 t4 k4 H4 pc _ => by
    obtain ⟨p, o, vs, n, rfl, hp, hc, hd, _, q⟩ := Rep.step (d := .big xs) r1 ((k2.trans k3).trans k4) fun _ => nonil
    have e1 := q.length
    simp only [Array.length_toList] at e1
    have hl : h4.IsList p vs := ⟨o, hp, hc, n, hd⟩
    refine tail_any (hl.push _).typeIs slot_list_getitem.lookup (wpAny_getItem_list_slice (hl.push _) (Heap.IsSliceOf.new ..) pa pb pc nofun ?_ (by rw [e1, sizeLine_eq]; omega)) rfl
    have k5 : Keeps u Nil h4 (h4.push { cls := .type "slice", data := .fields #[va, vb, vc] }) := .push _ _
    have H5 := H4.step k5
    have q5 := q.step k5 fun _ => nonil
    obtain ⟨m, rfl⟩ := Int.eq_ofNat_of_zero_le hb
    have q7 : RepPs N (h4.push { cls := .type "slice", data := .fields #[va, vb, vc] }) (slicePick vs none (some (m : Int)) none).toList (xs.take (m : Int).toNat) := by
      rw [slicePick_upto']
      simpa using q5.take m
    have q6 := rep_push u H5.live q7
    rw [Array.toArray_toList] at q6
    exact h _ _ _ ((((k1.trans k2).trans k3).trans k4).trans (k5.trans (.push _ _))) q6))
noncomputable def keptOf (script : List Int) : List Int := (script.take 6).map fun x => x.fmod 1000000
noncomputable def totOf (script : List Int) : Int := (keptOf script).sum
theorem kept_len (script : List Int) : (keptOf script).length ≤ 6 := by unfold keptOf; simp; omega
theorem sum_bd {m : Int} (hm : 0 ≤ m) : ∀ l : List Int, (∀ x ∈ l, 0 ≤ x ∧ x < m) → 0 ≤ l.sum ∧ l.sum ≤ m * l.length
  | [], _ => by simp
  | x :: l, h => by
    have h1 := h x (.head _)
    have h2 := sum_bd hm l fun y hy => h y (.tail _ hy)
    have e : m * ((x :: l).length : Int) = m * l.length + m := by rw [List.length_cons]; push_cast; rw [Int.mul_add]; omega
    rw [e, List.sum_cons]
    omega
theorem kept_in (script : List Int) : ∀ x ∈ keptOf script, 0 ≤ x ∧ x < 1000000 := by
  intro x hx
  unfold keptOf at hx
  obtain ⟨y, _, rfl⟩ := List.mem_map.mp hx
  exact fmod_in y (by decide)
theorem kept_long (script : List Int) : ∀ j, j < (keptOf script).length → InLong ((keptOf script).getD j 0) ∧ InLong (((keptOf script).take (j + 1)).sum) := by
  intro j hj
  have kl := kept_len script
  have h1 := kept_in script
  have h2 : (keptOf script).getD j 0 ∈ keptOf script := by
    rw [List.getD_eq_getElem?_getD, List.getElem?_eq_getElem hj]; exact List.getElem_mem hj
  have h3 := h1 _ h2
  have h4 := sum_bd (m := 1000000) (by decide) ((keptOf script).take (j + 1)) fun y hy => h1 y (List.mem_of_mem_take hy)
  have h5 : ((keptOf script).take (j + 1)).length ≤ 6 := by simp; omega
  unfold InLong
  constructor <;> constructor <;> omega
theorem tot_in (script : List Int) : 0 ≤ totOf script ∧ totOf script ≤ 6000000 := by
  have kl := kept_len script
  have h4 := sum_bd (m := 1000000) (by decide) (keptOf script) (kept_in script)
  unfold totOf
  omega
end
end
section
set_option maxRecDepth 100000
/-! the same functions, with each number worked out before it is handed on -/
noncomputable def fN {α : Type} (n : Nat) (f : Nat → α) : α := match n with
  | 0 => f 0
  | k + 1 => f (k + 1)
theorem fN_eq {α : Type} (n : Nat) (f : Nat → α) : fN n f = f n := by cases n <;> rfl
noncomputable def fI {α : Type} (i : Int) (f : Int → α) : α := match i with
  | .ofNat n => fN n fun m => f (.ofNat m)
  | .negSucc n => fN n fun m => f (.negSucc m)
theorem fI_eq {α : Type} (i : Int) (f : Int → α) : fI i f = f i := by
  cases i with
  | ofNat n => exact fN_eq n fun m => f (.ofNat m)
  | negSucc n => exact fN_eq n fun m => f (.negSucc m)
noncomputable def bI {α : Type} (o : Option Int) (f : Int → Option α) : Option α := match o with
  | none => none
  | some x => fI x f
theorem bI_eq {α : Type} (o : Option Int) (f : Int → Option α) : bI o f = o.bind f := by
  cases o with
  | none => rfl
  | some x => exact fI_eq x f
noncomputable def bP {α : Type} (o : Option (Int × Int)) (f : Int × Int → Option α) : Option α := match o with
  | none => none
  | some x => fI x.1 fun a => fI x.2 fun b => f (a, b)
theorem bP_eq {α : Type} (o : Option (Int × Int)) (f : Int × Int → Option α) : bP o f = o.bind f := by
  cases o with
  | none => rfl
  | some x =>
    show fI x.1 (fun a => fI x.2 fun b => f (a, b)) = f x
    rw [fI_eq, fI_eq]
/-! the length of a number, by halves -/
noncomputable def lgB : List Nat → Nat → Nat
  | [], n => Nat.log2 n
  | k :: ks, n => if 2 ^ k ≤ n then k + lgB ks (n / 2 ^ k) else lgB ks n
theorem log2_div (k n : Nat) (h : 2 ^ k ≤ n) : Nat.log2 n = k + Nat.log2 (n / 2 ^ k) := by
  have hp : 0 < 2 ^ k := Nat.two_pow_pos k
  have h0 : n ≠ 0 := by omega
  have h1 : n / 2 ^ k ≠ 0 := by
    have := Nat.div_pos h hp
    omega
  have a1 := Nat.log2_self_le h1
  have a2 := Nat.lt_log2_self (n := n / 2 ^ k)
  rw [Nat.log2_eq_iff h0, Nat.pow_add, show k + (n / 2 ^ k).log2 + 1 = k + ((n / 2 ^ k).log2 + 1) by omega, Nat.pow_add]
  constructor
  · calc 2 ^ k * 2 ^ (n / 2 ^ k).log2 ≤ 2 ^ k * (n / 2 ^ k) := Nat.mul_le_mul_left _ a1
      _ ≤ n := Nat.mul_div_le n (2 ^ k)
  · rw [Nat.mul_comm]
    exact (Nat.div_lt_iff_lt_mul hp).mp a2
theorem lgB_eq : ∀ ks n, lgB ks n = Nat.log2 n
  | [], _ => rfl
  | k :: ks, n => by
    unfold lgB
    split
    · rename_i h; rw [lgB_eq ks, ← log2_div k n h]
    · exact lgB_eq ks n
noncomputable def lgF (n : Nat) : Nat := lgB [32768, 16384, 8192, 4096, 2048, 1024, 512, 256, 128, 64, 32, 16, 8, 4, 2, 1] n
theorem lgF_eq (n : Nat) : lgF n = Nat.log2 n := lgB_eq _ n
noncomputable def ibF (x : Int) : Nat := if x == 0 then 0 else lgF x.natAbs + 1
theorem ibF_eq (x : Int) : ibF x = Builtin.Int.intBits x := by unfold ibF Builtin.Int.intBits; rw [lgF_eq]
noncomputable def bitsF (a : Int) : Int := (ibF a : Int)
theorem bitsF_eq (a : Int) : bitsF a = bits a := by unfold bitsF bits; rw [ibF_eq]
theorem bits_le (a : Int) (m : Nat) : Builtin.Int.intBits a ≤ m ↔ a.natAbs < 2 ^ m := by
  unfold Builtin.Int.intBits
  by_cases h : a = 0
  · subst h
    simp
    exact Nat.two_pow_pos m
  · rw [if_neg (by simpa using h)]
    rw [← Nat.log2_lt (by omega)]
    omega
/-- a has at most n + 4000 signs -/
noncomputable def shortF (a n : Int) : Bool := if 0 ≤ n then decide (a.natAbs < 2 ^ (n + 4000).toNat) else decide (bits a - n ≤ 4000)
theorem shortF_eq (a n : Int) : shortF a n = decide (bits a - n ≤ 4000) := by
  unfold shortF
  split
  · rename_i h
    have := bits_le a (n + 4000).toNat
    unfold bits
    rw [decide_eq_decide, ← this]
    omega
  · rfl
noncomputable def shlF (a b : Int) : Option Int := if 0 ≤ b ∧ b ≤ 65536 ∧ a.natAbs < 2 ^ 65536 then some (a * ((2 ^ b.toNat : Nat) : Int)) else shlO a b
theorem shlF_eq (a b : Int) : shlF a b = shlO a b := by
  unfold shlF
  split
  · rename_i h
    unfold shlO
    have := (bits_le a 65536).mpr h.2.2
    rw [if_pos ⟨h.1, by omega⟩]
  · rfl
noncomputable def mulF (a b : Int) : Option Int := if a.natAbs < 2 ^ 65536 ∧ b.natAbs < 2 ^ 65536 then some (a * b) else mulO a b
theorem mulF_eq (a b : Int) : mulF a b = mulO a b := by
  unfold mulF
  split
  · rename_i h
    unfold mulO mulB
    have h1 := (bits_le a 65536).mpr h.1
    have h2 := (bits_le b 65536).mpr h.2
    have : Builtin.Int.intTooBig (Builtin.Int.intBits a + Builtin.Int.intBits b) = false := by
      unfold Builtin.Int.intTooBig
      have : bitsLine = 134217728 := by decide
      rw [this]
      exact decide_eq_false (by omega)
    rw [this, Bool.and_false]; rfl
  · rfl
theorem by_small (a b : Int) (h : b.natAbs < 2 ^ 9000) : Builtin.divisionGoesByPylong a b = false := by
  unfold Builtin.divisionGoesByPylong
  have : (if b == 0 then 0 else b.natAbs.log2 / 30 + 1) ≤ 300 := by
    by_cases hb : b = 0
    · subst hb; simp
    · rw [if_neg (by simpa using hb)]
      have := (Nat.log2_lt (by omega : b.natAbs ≠ 0)).mpr h
      omega
  simp only
  rw [decide_eq_false (by omega), Bool.false_and]
noncomputable def dmF (a b : Int) : Option (Int × Int) := if b ≠ 0 ∧ b.natAbs < 2 ^ 9000 then some (a.fdiv b, a.fmod b) else dmO a b
theorem dmF_eq (a b : Int) : dmF a b = dmO a b := by
  unfold dmF
  split
  · rename_i h
    unfold dmO
    rw [if_pos ⟨h.1, by_small a b h.2⟩]
  · rfl
noncomputable def divF (a b : Int) : Option Int := if b ≠ 0 ∧ b.natAbs < 2 ^ 9000 then some (a.fdiv b) else divO a b
theorem divF_eq (a b : Int) : divF a b = divO a b := by
  unfold divF
  split
  · rename_i h
    unfold divO
    rw [if_pos ⟨h.1, by_small a b h.2⟩]
  · rfl
noncomputable def d3aF (d2 : Int → Int → Int → Option (Int × Int)) (x b1 a12 n : Int) : Option (Int × Int) :=
  if x = b1 then bI (shlF 1 n) fun s => bI (shlF b1 n) fun t => some (s - 1, a12 - t + b1) else d2 a12 b1 n
noncomputable def fixupF (b : Int) : Nat → Int → Int → Option (Int × Int)
  | 0, _, _ => none
  | f + 1, q, r => fI r fun r => fI q fun q => if r < 0 then fixupF b f (q - 1) (r + b) else some (q, r)
noncomputable def d3F (d2 : Int → Int → Int → Option (Int × Int)) (a12 a3 b b1 b2 n : Int) : Option (Int × Int) :=
  fI a12 fun a12 => fI a3 fun a3 => fI b2 fun b2 => bI (shrO a12 n) fun x => bP (d3aF d2 x b1 a12 n) fun qr => bI (shlF qr.2 n) fun y => bI (mulF qr.1 b2) fun z => fixupF b 20 qr.1 (Builtin.bitOr y a3 - z)
noncomputable def d2F : Nat → Int → Int → Int → Option (Int × Int)
  | 0, _, _, _ => none
  | f + 1, a, b, n => fI a fun a => fI b fun b => fI n fun n =>
    if shortF a n = true then dmF a b else
      bI (opt (Builtin.bitAnd n 1 != 0) a (shlF a 1)) fun a' => bI (opt (Builtin.bitAnd n 1 != 0) b (shlF b 1)) fun b' => bI (opt (Builtin.bitAnd n 1 != 0) n (some (n + 1))) fun n' =>
      bI (shrO n' 1) fun half => bI (shlF 1 half) fun m => bI (shrO b' half) fun b1 => bI (shrO a' n') fun x => bI (shrO a' half) fun y =>
      bP (d3F (d2F f) x (Builtin.bitAnd y (m - 1)) b' b1 (Builtin.bitAnd b' (m - 1)) half) fun qr =>
      bP (d3F (d2F f) qr.2 (Builtin.bitAnd a' (m - 1)) b' b1 (Builtin.bitAnd b' (m - 1)) half) fun qr2 =>
      bI (opt (Builtin.bitAnd n 1 != 0) qr2.2 (shrO qr2.2 1)) fun r => bI (shlF qr.1 half) fun q => some (Builtin.bitOr q qr2.1, r)
noncomputable def digsF (n : Int) : Nat → Int → Int → Int → List PyData → Option (List PyData)
  | 0, _, _, _, _ => none
  | f + 1, x, l, r, xs => fI x fun x => fI l fun l => fI r fun r =>
    if l + 1 = r then (if 0 ≤ l ∧ l < xs.length then some (xs.set l.toNat (.int x)) else none)
    else bI (shrO (l + r) 1) fun mid => bI (mulF (mid - l) n) fun shift => bI (shrO x shift) fun upper => bI (shlF upper shift) fun t =>
      (digsF n f (Builtin.bitXor x t) l mid xs).bind fun ys => digsF n f upper mid r ys
noncomputable def i2dF (a n : Int) : Option (List PyData) :=
  bI (divF (bitsF a + n - 1) n) fun c => if 0 ≤ c ∧ c < 1048576 then (if a != 0 then digsF n 40 a 0 c (List.replicate c.toNat (.int 0)) else some (List.replicate c.toNat (.int 0))) else none
noncomputable def dgiF (xs : List PyData) (n : Int) : Nat → Int → Int → Option Int
  | 0, _, _ => none
  | f + 1, l, r => fI l fun l => fI r fun r =>
    if l + 1 = r then (if 0 ≤ l then (match xs[l.toNat]? with | some (.int i) => some i | _ => none) else none)
    else bI (shrO (l + r) 1) fun mid => bI (mulF (mid - l) n) fun shift => bI (dgiF xs n f mid r) fun hi => bI (shlF hi shift) fun t => bI (dgiF xs n f l mid) fun lo => some (t + lo)
noncomputable def d2iF (xs : List PyData) (n : Int) : Option Int := if xs.length < 1048576 then (if 0 < xs.length then dgiF xs n 40 0 xs.length else some 0) else none
noncomputable def dmLoopF (b n : Int) : List PyData → Int → List PyData → Option (List PyData × Int)
  | [], r, qs => some (qs, r)
  | .int d :: ds, r, qs => bI (shlF r n) fun x => bP (d2F 5 (x + d) b n) fun qr => if qs.length < 1000000 then dmLoopF b n ds qr.2 (qs ++ [.int qr.1]) else none
  | _, _, _ => none
noncomputable def dmPF (a b : Int) : Option (Int × Int) := fI (bitsF b) fun n =>
  (i2dF a n).bind fun ds => (dmLoopF b n ds.reverse 0 []).bind fun x => if x.1.length < 1000000 then bI (d2iF x.1.reverse n) fun q => some (q, x.2) else none
noncomputable def idmF : Nat → Int → Int → Option (Int × Int)
  | 0, _, _ => none
  | f + 1, a, b => fI a fun a => fI b fun b =>
    if b = 0 then none
    else if b < 0 then bP (idmF f (-a) (-b)) fun x => some (x.1, -x.2)
    else if a < 0 then bP (idmF f (Builtin.bitNot a) b) fun x => some (Builtin.bitNot x.1, b + Builtin.bitNot x.2)
    else dmPF a b
theorem fixupF_eq (b : Int) : ∀ f q r, fixupF b f q r = fixup b f q r
  | 0, _, _ => rfl
  | f + 1, q, r => by unfold fixupF fixup; rw [fI_eq, fI_eq, fixupF_eq b f]
theorem d3aF_eq : d3aF = d3a := by funext d x b a n; unfold d3aF d3a; simp only [bI_eq, shlF_eq, mulF_eq, dmF_eq, divF_eq, bitsF_eq]
theorem d3F_eq : d3F = d3 := by
  funext d a12 a3 b b1 b2 n
  unfold d3F d3
  simp only [fI_eq, bI_eq, bP_eq, d3aF_eq, fixupF_eq, shlF_eq, mulF_eq, dmF_eq, divF_eq, bitsF_eq]
theorem d2F_eq : ∀ f, d2F f = d2 f
  | 0 => rfl
  | f + 1 => by
    funext a b n
    unfold d2F d2
    simp only [fI_eq, bI_eq, bP_eq, d3F_eq, d2F_eq f, shlF_eq, mulF_eq, dmF_eq, divF_eq, bitsF_eq, shortF_eq, decide_eq_true_eq]
theorem digsF_eq (n : Int) : ∀ f x l r xs, digsF n f x l r xs = digs n f x l r xs
  | 0, _, _, _, _ => rfl
  | f + 1, x, l, r, xs => by
    unfold digsF digs
    simp only [fI_eq, bI_eq, digsF_eq n f, shlF_eq, mulF_eq, dmF_eq, divF_eq, bitsF_eq]
theorem i2dF_eq : i2dF = i2d := by funext a n; unfold i2dF i2d; simp only [bI_eq, digsF_eq, shlF_eq, mulF_eq, dmF_eq, divF_eq, bitsF_eq]
theorem dgiF_eq (xs : List PyData) (n : Int) : ∀ f l r, dgiF xs n f l r = dgi xs n f l r
  | 0, _, _ => rfl
  | f + 1, l, r => by
    unfold dgiF dgi
    simp only [fI_eq, bI_eq, dgiF_eq xs n f, shlF_eq, mulF_eq, dmF_eq, divF_eq, bitsF_eq]
    all_goals rfl
theorem d2iF_eq : d2iF = d2i := by funext xs n; unfold d2iF d2i; simp only [dgiF_eq, shlF_eq, mulF_eq, dmF_eq, divF_eq, bitsF_eq]
theorem dmLoopF_eq (b n : Int) : ∀ ds r qs, dmLoopF b n ds r qs = dmLoop b n ds r qs := by
  intro ds
  induction ds with
  | nil => intro r qs; rfl
  | cons d ds ih =>
    intro r qs
    cases d with
    | int d => unfold dmLoopF dmLoop; simp only [bI_eq, bP_eq, d2F_eq, ih, shlF_eq, mulF_eq, dmF_eq, divF_eq, bitsF_eq]
    | _ => rfl
theorem dmPF_eq : dmPF = dmP := by funext a b; unfold dmPF dmP; simp only [fI_eq, bI_eq, i2dF_eq, dmLoopF_eq, d2iF_eq, shlF_eq, mulF_eq, dmF_eq, divF_eq, bitsF_eq]
theorem idmF_eq : ∀ f a b, idmF f a b = idm f a b
  | 0, _, _ => rfl
  | f + 1, a, b => by
    unfold idmF idm
    simp only [fI_eq, bP_eq, dmPF_eq, idmF_eq f, shlF_eq, mulF_eq, dmF_eq, divF_eq, bitsF_eq]
noncomputable def ldvF (u l kd : Int) : Option (Int × Int) := fI u fun u => fI l fun l =>
  if kd = 0 then idmF 3 u l else if kd = 1 then bP (idmF 3 (-u) (-l)) fun x => some (x.1, -x.2) else bP (idmF 3 (Builtin.bitNot u) l) fun x => some (Builtin.bitNot x.1, l - 1 - x.2)
theorem ldvF_eq : ldvF = ldv := by funext a b c; unfold ldvF ldv; simp only [fI_eq, bP_eq, idmF_eq, shlF_eq, mulF_eq, dmF_eq, divF_eq, bitsF_eq]
noncomputable def itOI (f : Nat → Int → Option Int) : Nat → Nat → Int → Option Int
  | _, 0, a => some a
  | i, n + 1, a => bI (f i a) (itOI f (i + 1) n)
theorem itOI_eq (f : Nat → Int → Option Int) : ∀ n i a, itOI f i n a = itO f i n a
  | 0, _, _ => rfl
  | n + 1, i, a => by unfold itOI itO; rw [bI_eq]; congr 1; funext x; exact itOI_eq f n (i + 1) x
end
section
section
variable {u : U} {k : Nat} {sc : Scope} {σ σ' : St} {pos p ap cp : Pos} {e o l r : Expr} {K : Frag} {C : Addr} {z name : Str}
/-- o.name() -/
theorem EvT.meth0 (W : WsK u K C) {j : Nat} (F : Me u K C name j) (hn : name ∈ wsMeths) {lo : Option Addr} {as : List (Str × PyData)} {d : Vd} (to : EvT u (k + 1) sc σ o (.ws lo as))
    (b : ExT u k (mScope j) ([("self", (.ws lo as, false))] : St) (mBody j) (.ret d) [])
    (hb : ∀ doc pm an cd ct v1, bindArgs (fnX name ("Whitespace." ++ name) (mParams j) (mBody j) (mScope j) [] .none .none doc pm an cd ct) ⟨[v1], []⟩ = pure ([("self", v1)] : List (Str × Value)) := by intros; rfl)
    (hbase : ∀ env, attributeBase o name env (eval o env) = eval o env := by intros; rfl)
    (hk : (mScope j).kind = .function := by rfl) (hco : (mScope j).isCoroutine = false := by rfl) (hgen : (mScope j).isGenerator = false := by rfl)
    (st : (["self"] : List Str).all (canStore (mScope j)) = true := by rfl) (hline : (ap.endLine == cp.line) = true := by rfl) :
    EvT u (k + 1) sc σ (.Call (.Attribute o name ap) [] [] cp) d :=
  EvT.mk fun env N A s Q H h => by
    obtain ⟨f, doc, pm, an, cd, ct, f1, f2, f3, f4⟩ := F
    refine call_meth hline rfl (hbase env) (to.use H fun v h1 t1 k1 H1 r0 pl => ?_)
    have r0' := r0
    obtain ⟨x, C', dx, od, ⟨rfl, e1⟩, e2, e3, e4, e5, e6, e7, e8, e9⟩ := r0
    rw [W.mg] at e2; cases e2
    refine method_fn (od := some od) (W.in H1.wd) ⟨e3, rfl, rfl, e4⟩ W.getA W.noGet f1 f2 (by show (lookIn name od).map _ = _; rw [e5.2 name hn]; rfl) ?_
    refine callWith_K0 (W.in H1.wd) f3 ?_
    refine wpAny_call (f4.run (s := { s with heap := h1, toks := t1 }) (bs := [("self", .ref x)]) (ps := [("self", .ws lo as)]) (σ' := []) rfl rfl rfl hk hco hgen H1.ok H1.wd H1.live (.of_eq (hb ..)) ⟨rfl, r0', trivial⟩ (List.nodup_cons.mpr ⟨nofun, List.nodup_nil⟩) (by simpa using st) b (.inl rfl) fun v h2 t2 k2 r2 => ?_)
    exact h v h2 t2 (k1.trans k2) r2
/-- o.name(e) -/
theorem EvT.methE (W : WsK u K C) {j : Nat} (F : Me u K C name j) (hn : name ∈ wsMeths) {lo : Option Addr} {as : List (Str × PyData)} {d r : Vd} {n2 : Str} (to : EvT u (k + 1) sc σ o (.ws lo as)) (t : EvT u (k + 1) sc σ e d)
    (b : ExT u k (mScope j) ([("self", (.ws lo as, false)), (n2, (d, false))] : St) (mBody j) (.ret r) [])
    (hb : ∀ doc pm an cd ct v1 v2, bindArgs (fnX name ("Whitespace." ++ name) (mParams j) (mBody j) (mScope j) [] .none .none doc pm an cd ct) ⟨[v1, v2], []⟩ = pure ([("self", v1), (n2, v2)] : List (Str × Value)) := by intros; rfl)
    (hbase : ∀ env, attributeBase o name env (eval o env) = eval o env := by intros; rfl)
    (hk : (mScope j).kind = .function := by rfl) (hco : (mScope j).isCoroutine = false := by rfl) (hgen : (mScope j).isGenerator = false := by rfl)
    (st : (["self", n2] : List Str).all (canStore (mScope j)) = true := by rfl) (nd : (["self", n2] : List Str).Nodup := by decide)
    (hp : plainE e = true := by rfl) (hline : (ap.endLine == cp.line) = true := by rfl) :
    EvT u (k + 1) sc σ (.Call (.Attribute o name ap) [e] [] cp) r :=
  EvT.mk fun env N A s Q H h => by
    obtain ⟨f, doc, pm, an, cd, ct, f1, f2, f3, f4⟩ := F
    have he : starEach [e] env = (false, eval e env) :: starEach [] env := starEach_plain hp [] env
    refine call_meth hline (by rw [he]; rfl) (hbase env) (to.use H fun v h1 t1 k1 H1 r0 pl => ?_)
    have r0' := r0
    obtain ⟨x, C', dx, od, ⟨rfl, e1⟩, e2, e3, e4, e5, e6, e7, e8, e9⟩ := r0
    rw [W.mg] at e2; cases e2
    refine method_fn (od := some od) (W.in H1.wd) ⟨e3, rfl, rfl, e4⟩ W.getA W.noGet f1 f2 (by show (lookIn name od).map _ = _; rw [e5.2 name hn]; rfl) ?_
    refine callWith_K (W.in H1.wd) f3 ?_ he rfl
    refine (EvTs.cons t .nil).use (by simp [hp]) (s := { s with heap := h1, toks := t1 }) H1 fun vs h2 t2 k2 H2 r1 => ⟨W.in H2.wd, ?_⟩
    obtain ⟨w, rfl, rw1⟩ := RepVs.inv1 r1
    refine wpAny_call (f4.run (s := { s with heap := h2, toks := t2 }) (bs := [("self", .ref x), (n2, w)]) (ps := [("self", .ws lo as), (n2, d)]) (σ' := []) rfl rfl rfl hk hco hgen H2.ok H2.wd H2.live (.of_eq (hb ..)) ⟨rfl, r0'.step k2 fun _ => nonil, rfl, rw1, trivial⟩ nd (by simpa using st) b (.inl rfl) fun v h3 t3 k3 r3 => ?_)
    exact h v h3 t3 ((k1.trans k2).trans k3) r3
/-- len of a tuple -/
theorem EvT.lent {xs : List PyData} (bl : Bl u sc "len" (.builtin "len")) (t : EvT u k sc σ e (Tu xs)) (hz : xs.length < 2 ^ 62) (hp : plainE e = true := by rfl) :
    EvT u k sc σ (.Call (.Name "len" p) [e] [] pos) (I xs.length) :=
  EvT.bltn bl (EvTs.cons t .nil) (fun N A s vs Q _ _ _ r h => by
    obtain ⟨v, rfl, r1⟩ := RepVs.inv1 r
    obtain ⟨q, ws, n, rfl, hq, qs⟩ := RepP.tuple_inv r1
    have e1 := qs.length
    simp only [Array.length_toList] at e1
    refine len_tuple (items := ws) ⟨_, hq, rfl, n, rfl⟩ (by rw [e1]; omega) ?_
    rw [e1]
    exact h _ s.heap _ (.refl _) (RepP.int _ _)) (by simp [hp])
/-- a part of a string -/
noncomputable def slO (a b : Option Int) (x : Str) : Option Str :=
  let y : Str := ⟨((Builtin.Str.strSliceIndices a b 1 x.length).filterMap (x.cps[·]?)).toArray⟩
  if y.length ≤ 2 ^ 20 ∧ ((Builtin.Str.strSliceIndices a b 1 x.length).length = x.length → x = y) then some y else none
theorem EvT.slO {x y : Str} {lo hi : Option Expr} {a b : Option Int} {pp : Pos} (h : slO a b x = some y) (t : EvT u k sc σ l (S x)) (ta : PartT u k sc σ lo a) (tb : PartT u k sc σ hi b) : EvT u k sc σ (.Subscript l (.Slice lo hi none pp) pos) (S y) := by
  unfold Mine.slO at h
  dsimp only at h
  split at h
  case isFalse => cases h
  rename_i q
  cases h
  exact EvT.sslice t ta tb q.1 (by simp) q.2
end
end
section
/-! the methods that the law calls -/
noncomputable def wsR (y : Str) : WsR := wsRun y.cps.toList ⟨0, 0, 0, []⟩
noncomputable def lrsP (y : Str) : Int := max (((wsR y).c.length : Int) - 1) ((wsR y).b : Int)
noncomputable def ilIn (ts : Int) (c : List Int) (i : Nat) (a : Int) : Option Int := (c[i]?).bind fun v => (divO i ts).bind fun q => (mulO q v).bind fun p => some (a + p)
noncomputable def ilP (y : Str) (ts : Nat) : Option Int :=
  if 0 < ts ∧ ts < 10000 ∧ (wsR y).c.length < 10000 then (itO (ilIn ts (wsR y).c) ts ((((wsR y).c.length : Int) - (ts : Int)).toNat) 0).bind fun il => (mulO ts (il + ((wsR y).nt : Int))).bind fun x => some (((wsR y).b : Int) + x) else none
noncomputable abbrev T3 := Int × Int × Int
noncomputable abbrev t3 (x : T3) : PyData := .tuple [.int x.1, .int x.2.1, .int x.2.2]
noncomputable def newStep (y z : Str) (i : Nat) (a : List T3) : Option (List T3) := (ilP y i).bind fun p => (ilP z i).bind fun q => if a.length < 1000 then some (if p = q then a else a ++ [((i : Int), p, q)]) else none
noncomputable def newP (y z : Str) : Option (List T3) := if (wsR y).c.length < 10000 ∧ (wsR z).c.length < 10000 ∧ 0 ≤ max (lrsP y) (lrsP z) + 1 ∧ max (lrsP y) (lrsP z) + 1 < 1000 then itO (newStep y z) 1 (max (lrsP y) (lrsP z) + 1).toNat [] else none
section
variable {u : U} {k : Nat} {sc : Scope} {σ : St} {pos p ap cp : Pos} {o e : Expr} {K : Frag} {C : Addr}
theorem wsNew_norm' (y : Str) : (("norm" : Str), PyData.tuple [.tuple (iLs (wsR y).c), .int (wsR y).b]) ∈ wsNew y := wsNew_norm y
theorem wsNew_nt (y : Str) : (("nt" : Str), PyData.int (wsR y).nt) ∈ wsNew y := .tail _ (.tail _ (.head _))
theorem EvT.lrs (W : WsK u K C) (T : Tops u) (F : Me u K C "longest_run_of_spaces" 2) {lo : Option Addr} {y : Str} (hz : (wsR y).c.length < 10000) (to : EvT u (k + 1) sc σ o (.ws lo (wsNew y)))
    (hbase : ∀ env, attributeBase o "longest_run_of_spaces" env (eval o env) = eval o env := by intros; rfl) (hline : (ap.endLine == cp.line) = true := by rfl) :
    EvT u (k + 1) sc σ (.Call (.Attribute o "longest_run_of_spaces" ap) [] [] cp) (I (lrsP y)) := by
  refine EvT.meth0 W F (by decide) to ?_ (hbase := hbase) (hline := hline)
  have hnm := wsNew_norm' y
  unfold lrsP
  generalize wsR y = r at hnm hz ⊢
  refine .cons (StT.assignT (.inl (EvT.attr W (by decide) rfl hnm)) (AsT.tuple (.cons (AsT.name rfl) (.cons (AsT.name rfl) .nil)))) ?_
  exact .post (.stop (StT.ret (σ' := []) (.inl (.toI (EvT.max2 (T.bl (by decide) rfl) (EvT.sub (EvT.lent (T.bl (by decide) rfl) (EvT.name rfl) (by simp; omega)) EvT.int) (EvT.name rfl)) (by simp)))) nofun) Sub.nil
theorem EvT.ilv (W : WsK u K C) (T : Tops u) (F : Me u K C "indent_level" 3) {lo : Option Addr} {y : Str} {ts : Nat} {x : Int} (h : ilP y ts = some x) (to : EvT u (k + 1) sc σ o (.ws lo (wsNew y))) (te : EvT u (k + 1) sc σ e (I ts))
    (hbase : ∀ env, attributeBase o "indent_level" env (eval o env) = eval o env := by intros; rfl) (hline : (ap.endLine == cp.line) = true := by rfl) (hp : plainE e = true := by rfl) :
    EvT u (k + 1) sc σ (.Call (.Attribute o "indent_level" ap) [e] [] cp) (I x) := by
  refine EvT.methE (n2 := "tabsize") W F (by decide) to te ?_ (hbase := hbase) (hline := hline) (hp := hp)
  have hnm := wsNew_norm' y
  have hnt := wsNew_nt y
  unfold ilP at h
  generalize wsR y = r at hnm hnt h
  split at h
  case isFalse => cases h
  rename_i hm
  rw [Option.bind_eq_some_iff] at h
  obtain ⟨il, h1, h2⟩ := h
  rw [Option.bind_eq_some_iff] at h2
  obtain ⟨x1, h3, h4⟩ := h2
  cases h4
  refine .cons (StT.assignT (.inl (EvT.attr W (by decide) rfl hnm)) (AsT.tuple (.cons (AsT.name rfl) (.cons (AsT.name rfl) .nil)))) ?_
  refine .cons (StT.assign (d := I 0) (.inl EvT.int) rfl) ?_
  refine .cons (StT.for_ (IterX.range2 (a := (ts : Int)) (b := (r.c.length : Int)) (T.bl (by decide) rfl) (.inr ⟨rfl, .of2 (EvT.name rfl) (.toI (EvT.lent (T.bl (by decide) rfl) (EvT.name rfl) (by simp; omega)) (by simp))⟩) (by omega) (by omega) (by omega) (by omega))
    ((LoopT.range (fun a => [("il", (I a, false)), ("count", (Tu (iLs r.c), false)), ("trailing", (I r.b, false)), ("tabsize", (I ts, false)), ("self", (.ws lo (wsNew y), false))]) (ilIn ts r.c) (ts + ((r.c.length : Int) - (ts : Int)).toNat) (fun i c c' hi e4 => ?_) ((r.c.length : Int) - (ts : Int)).toNat ts 0 il (Nat.le_refl _) h1).pre (by walk_at "mine sub"))) ?_
  · unfold ilIn at e4
    rw [Option.bind_eq_some_iff] at e4
    obtain ⟨v, e5, e6⟩ := e4
    rw [Option.bind_eq_some_iff] at e6
    obtain ⟨q, e7, e8⟩ := e6
    rw [Option.bind_eq_some_iff] at e8
    obtain ⟨p1, e9, e10⟩ := e8
    cases e10
    exact ⟨_, _, AsT.name rfl, .cons (StT.assign (d := I (c + p1)) (.inl (EvT.add (EvT.name rfl) (EvT.mulO e9 (EvT.divO e7 (EvT.name rfl) (EvT.name rfl)) (EvT.titem (d := .int v) (EvT.name rfl) (EvT.name rfl) (by omega) (by omega) (by simp [e5]))))) rfl) .nil, by walk_at "mine sub"⟩
  exact .post (.stop (StT.ret (σ' := []) (.inl (EvT.add (EvT.name rfl) (EvT.mulO h3 (EvT.name rfl) (EvT.add (EvT.name rfl) (EvT.attr W (by decide) rfl hnt)))))) nofun) Sub.nil
end
end
section
section
variable {u : U} {k : Nat} {sc : Scope} {σ : St} {pos p ap cp : Pos} {o e : Expr} {K : Frag} {C : Addr}
theorem EvT.newit (W : WsK u K C) (T : Tops u) (F2 : Me u K C "longest_run_of_spaces" 2) (F3 : Me u K C "indent_level" 3) (F5 : Me u K C "not_equal_witness" 5) {lo lo' : Option Addr} {y z : Str} {r : List T3} (h : newP y z = some r)
    (to : EvT u (k + 2) sc σ o (.ws lo (wsNew y))) (te : EvT u (k + 2) sc σ e (.ws lo' (wsNew z)))
    (hbase : ∀ env, attributeBase o "not_equal_witness" env (eval o env) = eval o env := by intros; rfl) (hline : (ap.endLine == cp.line) = true := by rfl) (hp : plainE e = true := by rfl) :
    EvT u (k + 2) sc σ (.Call (.Attribute o "not_equal_witness" ap) [e] [] cp) (Ls (r.map t3)) := by
  refine EvT.methE (k := k + 1) (n2 := "other") W F5 (by decide) to te ?_ (hbase := hbase) (hline := hline) (hp := hp)
  unfold newP at h
  split at h
  case isFalse => cases h
  rename_i hm
  generalize hn : max (lrsP y) (lrsP z) + 1 = n at h hm
  refine .cons (StT.assign (d := I n) (.inl (.toI (EvT.add (EvT.max2 (T.bl (by decide) rfl) (EvT.lrs W T F2 hm.1 (EvT.name rfl)) (EvT.lrs W T F2 hm.2.1 (EvT.name rfl))) EvT.int) hn)) rfl) ?_
  refine .cons (StT.assignF (.inl (EvFr.list (ds := []) .nil)) rfl) ?_
  have e1 : (n + 1 - 1).toNat = n.toNat := by omega
  refine .cons (StT.for_ (IterX.range2 (a := 1) (b := n + 1) (T.bl (by decide) rfl) (.inr ⟨rfl, .of2 EvT.int (EvT.add (EvT.name rfl) EvT.int)⟩) (by omega) (by omega) (by omega) (by omega))
    ((LoopT.range (fun a : List T3 => [("a", (Ls (a.map t3), true)), ("self", (.ws lo (wsNew y), false)), ("other", (.ws lo' (wsNew z), false))]) (newStep y z) (1 + (n + 1 - 1).toNat) (fun i c c' hi e4 => ?_) (n + 1 - 1).toNat 1 [] r (Nat.le_refl _) (by rw [e1]; exact h)).pre (by walk_at "mine sub"))) ?_
  · unfold newStep at e4
    rw [Option.bind_eq_some_iff] at e4
    obtain ⟨x1, e5, e6⟩ := e4
    rw [Option.bind_eq_some_iff] at e6
    obtain ⟨x2, e7, e8⟩ := e6
    split at e8
    case isFalse => cases e8
    rename_i hc
    cases e8
    split
    · rename_i q
      exact ⟨_, _, AsT.name rfl, .cons (StT.ifF (.to (TsT.cmp (EvT.ilv W T F3 e5 (EvT.name rfl) (EvT.name rfl)) (EvT.ilv W T F3 e7 (EvT.name rfl) (EvT.name rfl)) (CmpR.ne rfl rfl)) (by simp [PyData.eqv, q])) .nil) .nil, by walk_at "mine sub"⟩
    · rename_i q
      have e9 : List.map t3 c ++ [t3 ((i : Int), x1, x2)] = List.map t3 (c ++ [((i : Int), x1, x2)]) := by simp
      refine ⟨_, _, AsT.name rfl, .cons (StT.ifT (.to (TsT.cmp (EvT.ilv W T F3 e5 (EvT.name rfl) (EvT.name rfl)) (EvT.ilv W T F3 e7 (EvT.name rfl) (EvT.name rfl)) (CmpR.ne rfl rfl)) (by simp [PyData.eqv, q]))
        (.cons (StT.append (d := t3 ((i : Int), x1, x2)) rfl (.inl (EvT.tuple (ds := [.int i, .int x1, .int x2]) (.of3 (EvT.name rfl) (EvT.ilv W T F3 e5 (EvT.name rfl) (EvT.name rfl)) (EvT.ilv W T F3 e7 (EvT.name rfl) (EvT.name rfl))))) (by rw [sizeLine_eq]; simp; omega)) .nil)) .nil, ?_⟩
      rw [e9]
      walk_at "mine sub"
  exact .disown (x := "a") rfl (.post (.stop (StT.ret (σ' := []) (.inl (EvT.name rfl))) nofun) Sub.nil)
end
/-! _law_product -/
noncomputable def prStep (base : Int) (i : Nat) (v : Int) : Option Int := (powO base i).bind fun x => mulO v (x - 1)
noncomputable def prodP (most base : Int) : Option Int := if 0 ≤ most ∧ most < 1000 then itO (prStep base) 1 most.toNat 1 else none
variable {u : U} {k : Nat}
theorem law_product (T : Tops u) (F : Fn u "_law_product" 25) {most base x : Int} (h : prodP most base = some x) : CaT u (k + 1) "_law_product" [I most, I base] [] [] (I x) := by
  unfold prodP at h
  split at h
  case isFalse => cases h
  rename_i hm
  refine CaT.fn2 (n1 := "most") (n2 := "base") (σ' := []) F ?_ gives
  refine .cons (StT.assign (d := I 1) (.inl EvT.int) rfl) ?_
  have e1 : (most + 1 - 1).toNat = most.toNat := by omega
  refine .cons (StT.for_ (IterX.range2 (a := 1) (b := most + 1) (T.bl (by decide) rfl) (.inr ⟨rfl, .of2 EvT.int (EvT.add (EvT.name rfl) EvT.int)⟩) (by omega) (by omega) (by omega) (by omega))
    ((LoopT.range (fun a => [("value", (I a, false)), ("base", (I base, false))]) (prStep base) (1 + (most + 1 - 1).toNat) (fun i c c' hi e4 => ?_) (most + 1 - 1).toNat 1 1 x (Nat.le_refl _) (by rw [e1]; exact h)).pre (by walk_at "mine sub"))) ?_
  · unfold prStep at e4
    rw [Option.bind_eq_some_iff] at e4
    obtain ⟨x1, e5, e6⟩ := e4
    exact ⟨_, _, AsT.name rfl, .cons (StT.assign (d := I c') (.inl (EvT.mulO e6 (EvT.name rfl) (EvT.sub (EvT.powO e5 (EvT.name rfl) (EvT.name rfl)) EvT.int))) rfl) .nil, by walk_at "mine sub"⟩
  exact .post (.stop (StT.ret (σ' := []) (.inl (EvT.name rfl))) nofun) Sub.nil
end
section
/-! _law_words -/
noncomputable abbrev Wl := Str × List Int
noncomputable abbrev wl (w : Wl) : PyData := .tuple [.str w.1, .list (iLs w.2)]
noncomputable def wdK (w : Wl) (i : Nat) (more : List Wl) : Option (List Wl) := (w.2[i]?).bind fun v => if more.length < 10000 ∧ w.1.length < 1000 ∧ w.2.length ≤ 3 then (if 0 < v then some (more ++ [(w.1 ++ ⟨#[97 + i]⟩, w.2.take i ++ [v - 1] ++ w.2.drop (i + 1))]) else some more) else none
noncomputable def wdW (w : Wl) (more : List Wl) : Option (List Wl) := if w.2.length ≤ 3 then itO (wdK w) 0 w.2.length more else none
noncomputable def wdS (i : Nat) (ws : List Wl) : Option (List Wl) := foldO wdW ws []
noncomputable def wordsP (counts : List Int) : Option (List Str) :=
  if counts.length ≤ 3 ∧ (∀ x ∈ counts, 0 ≤ x ∧ x < 1000) then (itO wdS 0 counts.sum.toNat [(⟨#[]⟩, counts)]).bind fun ws => if ws.length < 10000 then some (ws.map (·.1)) else none else none
variable {u : U} {k : Nat}
theorem law_words (T : Tops u) (F : Fn u "_law_words" 22) {counts : List Int} {r : List Str} (h : wordsP counts = some r) : CaT u (k + 1) "_law_words" [Ls (iLs counts)] [] [] (Ls (r.map .str)) := by
  unfold wordsP at h
  split at h
  case isFalse => cases h
  rename_i hm
  rw [Option.bind_eq_some_iff] at h
  obtain ⟨ws, h1, h2⟩ := h
  split at h2
  case isFalse => cases h2
  rename_i hw
  cases h2
  have hs : ∀ l : List Int, (∀ x ∈ l, 0 ≤ x ∧ x < 1000) → 0 ≤ l.sum ∧ l.sum ≤ 1000 * l.length := sum_bd (m := 1000) (by decide)
  have hl : ∀ j, j < counts.length → InLong (counts.getD j 0) ∧ InLong ((counts.take (j + 1)).sum) := by
    intro j hj
    have h2 : counts.getD j 0 ∈ counts := by rw [List.getD_eq_getElem?_getD, List.getElem?_eq_getElem hj]; exact List.getElem_mem hj
    have h3 := hm.2 _ h2
    have h4 := hs (counts.take (j + 1)) fun y hy => hm.2 y (List.mem_of_mem_take hy)
    have h5 : (counts.take (j + 1)).length ≤ 3 := by simp; omega
    unfold InLong
    constructor <;> constructor <;> omega
  have hsum := hs counts hm.2
  refine CaT.fn1 (n1 := "counts") (σ' := []) F ?_ gives
  refine .cons (StT.assign (d := Ls ([(⟨#[]⟩, counts)].map wl)) (.inl (EvT.list (ds := [wl (⟨#[]⟩, counts)]) (.of1 (EvT.tup2 EvT.str (EvT.name rfl))))) rfl) ?_
  refine .cons (StT.for_ (IterX.range1 (n := counts.sum) (T.bl (by decide) rfl) (.inl (EvT.sum (T.bl (by decide) rfl) (EvT.name rfl) hl)) (by omega) (by omega))
    ((LoopT.range (fun ws : List Wl => [("words", (Ls (ws.map wl), false))]) wdS counts.sum.toNat (fun i c c' hi e4 => ?_) counts.sum.toNat 0 _ ws (by omega) h1).pre (by walk_at "mine sub"))) ?_
  · unfold wdS at e4
    refine ⟨_, _, AsT.name rfl, .cons (StT.assignF (.inl (EvFr.list (ds := []) .nil)) rfl) (.cons (StT.for_ (IterT.x (IterT.list (EvT.name rfl))) ((LoopT.items (fun m : List Wl => [("more", (Ls (m.map wl), true))]) wl wdW (fun w a a' e5 => ?_) c [] c' e4).pre (by walk_at "mine sub"))) (.disown (x := "more") rfl (.cons (StT.assign (.inl (EvT.name rfl)) rfl) .nil))), by walk_at "mine sub"⟩
    unfold wdW at e5
    split at e5
    case isFalse => cases e5
    rename_i hw3
    refine ⟨_, _, AsT.tuple (.cons (AsT.name rfl) (.cons (AsT.name rfl) .nil)), .cons (StT.for_ (IterX.range1 (n := (w.2.length : Int)) (T.bl (by decide) rfl) (.inl (.toI (EvT.lenl (T.bl (by decide) rfl) (EvT.name rfl) (by simp; omega)) (by simp))) (by omega) (by omega))
      ((LoopT.range (fun m : List Wl => [("more", (Ls (m.map wl), true)), ("word", (S w.1, false)), ("left", (Ls (iLs w.2), false))]) (wdK w) w.2.length (fun i m m' hi e6 => ?_) (w.2.length : Int).toNat 0 a a' (by simp) (by simpa using e5)).pre (by walk_at "mine sub"))) .nil, by walk_at "mine sub"⟩
    unfold wdK at e6
    rw [Option.bind_eq_some_iff] at e6
    obtain ⟨v, e7, e8⟩ := e6
    split at e8
    case isFalse => cases e8
    rename_i hc
    have hc3 : (Str.ofString "abc").cps[(i : Int).toNat]? = some (97 + i) := by
      have : i = 0 ∨ i = 1 ∨ i = 2 := by omega
      rcases this with rfl | rfl | rfl <;> rfl
    split at e8
    · rename_i hv
      cases e8
      refine ⟨_, _, AsT.name rfl, .cons (StT.ifT (.to (TsT.cmp (EvT.item (d := .int v) (EvT.name rfl) (EvT.name rfl) (by omega) (by omega) (by simp [e7])) EvT.int CmpR.gt) (by simpa using hv))
        (.cons (StT.append (d := wl (w.1 ++ ⟨#[97 + i]⟩, w.2.take i ++ [v - 1] ++ w.2.drop (i + 1))) rfl (.inl (EvT.tup2 (EvT.sadd (EvT.name rfl) (EvT.sitem EvT.str (EvT.name rfl) (by omega) (by omega) hc3) (by rw [sizeLine_eq]; show _ + 1 ≤ _; omega))
          (.to (EvT.ladd (EvT.ladd (EvT.upto (EvT.name rfl) (EvT.name rfl) (by omega) (by simp; omega)) (EvT.list (ds := [.int (v - 1)]) (.of1 (EvT.sub (EvT.item (d := .int v) (EvT.name rfl) (EvT.name rfl) (by omega) (by omega) (by simp [e7])) EvT.int))) (by rw [sizeLine_eq]; simp; omega))
            (EvT.dropf (EvT.name rfl) (EvT.add (EvT.name rfl) EvT.int) (by omega) (by simp; omega)) (by rw [sizeLine_eq]; simp; omega)) (by rw [show ((i : Int) + 1).toNat = i + 1 by omega]; simp [List.map_take, List.map_drop])))) (by rw [sizeLine_eq]; simp; omega)) .nil)) .nil, ?_⟩
      have e9 : List.map wl m ++ [wl (w.1 ++ ⟨#[97 + i]⟩, w.2.take i ++ [v - 1] ++ w.2.drop (i + 1))] = List.map wl (m ++ [(w.1 ++ ⟨#[97 + i]⟩, w.2.take i ++ [v - 1] ++ w.2.drop (i + 1))]) := by simp
      rw [e9]
      walk_at "mine sub"
    · rename_i hv
      cases e8
      exact ⟨_, _, AsT.name rfl, .cons (StT.ifF (.to (TsT.cmp (EvT.item (d := .int v) (EvT.name rfl) (EvT.name rfl) (by omega) (by omega) (by simp [e7])) EvT.int CmpR.gt) (by simpa using hv)) .nil) .nil, by walk_at "mine sub"⟩
  refine .post (.stop (StT.ret (σ' := []) (.inl (.to (EvFr.ev (EvFr.comp (σf := []) (ds := ws.map wl) (ys := ws.map fun w => .str w.1) ⟨rfl, rfl, rfl, rfl, fun y e h => by cases h⟩ (IterT.list (EvT.name rfl)) (CompR.map wl (fun w => .str w.1) ws fun b hb => ⟨_, AsL.tuple (.cons (AsL.name rfl) (.cons (AsL.name rfl) .nil)), Sub.nil, EvT.name rfl⟩) (by simp; omega))) (by simp)))) nofun) Sub.nil
/-! _law_rings -/
noncomputable abbrev Rg := List Bool × Int × Int
noncomputable def rgIn (after : List Int) : Nat → Rg → Option Rg
  | 0, _ => none
  | f + 1, a => if 0 ≤ a.2.1 ∧ a.2.1 < 10000 ∧ a.1.length < 10000 then (a.1[a.2.1.toNat]?).bind fun b => if b = true then some a else (after[a.2.1.toNat]?).bind fun nx => rgIn after f (a.1.set a.2.1.toNat true, nx, a.2.2 + 1) else none
noncomputable def rgOut (after : List Int) (i : Nat) (a : List Bool × List Int) : Option (List Bool × List Int) := (rgIn after 50 (a.1, (i : Int), 0)).bind fun x => if a.2.length < 1000 then some (x.1, if 0 < x.2.2 then a.2 ++ [x.2.2] else a.2) else none
noncomputable def ringsP (after : List Int) : Option (List Int) := if after.length < 1000 then (itO (rgOut after) 0 after.length (List.replicate after.length false, [])).bind fun x => some x.2 else none
noncomputable def rgSt (after ls : List Int) (a : Rg) : St := [("seen", (Ls (a.1.map .bool), true)), ("at", (I a.2.1, false)), ("length", (I a.2.2, false)), ("after", (Ls (iLs after), false)), ("lengths", (Ls (iLs ls), true))]
end
section
noncomputable abbrev rgBody : List Stmt := match (bodyAt 23)[(2 : Nat)]? with
  | some (.For _ _ b _ _) => b
  | _ => []
noncomputable abbrev rgTest : Expr := match rgBody[(2 : Nat)]? with
  | some (.While t _ _ _) => t
  | _ => .Constant .none 0 default
noncomputable abbrev rgTurn : List Stmt := match rgBody[(2 : Nat)]? with
  | some (.While _ b _ _) => b
  | _ => []
section
variable {u : U} {k : Nat}
theorem rg_while (after ls : List Int) : ∀ (f : Nat) (a a' : Rg), rgIn after f a = some a' → WhT u k (scopeAt 23) rgTest rgTurn (rgSt after ls a) .next (rgSt after ls a') := by
  intro f
  induction f with
  | zero => intro a a' h; cases h
  | succ f ih =>
    intro a a' h
    unfold rgIn at h
    split at h
    case isFalse => cases h
    rename_i hc
    rw [Option.bind_eq_some_iff] at h
    obtain ⟨b, h1, h2⟩ := h
    have hlt : a.2.1.toNat < a.1.length := (List.getElem?_eq_some_iff.mp h1).1
    have hs : TsT u k (scopeAt 23) (allplain (rgSt after ls a)) rgTest (!b) := TsT.not (TsT.vbool (EvT.item (d := .bool b) (EvT.name rfl) (EvT.name rfl) hc.1 (by omega) (by simp [h1])))
    cases b with
    | true =>
      rw [if_pos rfl] at h2
      cases h2
      exact WhT.stop hs
    | false =>
      rw [if_neg (by decide), Option.bind_eq_some_iff] at h2
      obtain ⟨nx, h3, h4⟩ := h2
      refine WhT.turn (flb := .next) hs (.cons (StT.setItem (d := .bool true) rfl (.inl EvT.bool) (EvT.name rfl) hc.1 (by simp; omega) (by simp; omega))
        (.cons (StT.assign (d := I nx) (.inl (EvT.item (d := .int nx) (EvT.name rfl) (EvT.name rfl) hc.1 (by omega) (by simp [h3]))) rfl) (.cons (StT.assign (d := I (a.2.2 + 1)) (.inl (EvT.add (EvT.name rfl) EvT.int)) rfl) .nil))) (.inl rfl) ((ih _ a' h4).pre ?_)
      have e9 : (a.1.map PyData.bool).set a.2.1.toNat (.bool true) = (a.1.set a.2.1.toNat true).map PyData.bool := by simp
      rw [e9]
      unfold rgSt
      walk_at "mine sub"
theorem law_rings (T : Tops u) (F : Fn u "_law_rings" 23) {after r : List Int} (h : ringsP after = some r) : CaT u (k + 1) "_law_rings" [Ls (iLs after)] [] [] (Ls (iLs r)) := by
  unfold ringsP at h
  split at h
  case isFalse => cases h
  rename_i hm
  rw [Option.bind_eq_some_iff] at h
  obtain ⟨x, h1, h2⟩ := h
  cases h2
  refine CaT.fn1 (n1 := "after") (σ' := []) F ?_ gives
  refine .cons (StT.assignF (.inl (EvFr.list (ds := []) .nil)) rfl) ?_
  refine .cons (StT.assignF (xs := (List.replicate after.length false).map .bool) (.inl ?_) rfl) ?_
  · have e : (List.replicate after.length false).map PyData.bool = List.replicate (after.length : Int).toNat (PyData.bool false) := by simp
    rw [e]
    exact EvFr.lmul (EvT.list (ds := [.bool false]) (.of1 EvT.bool)) (.toI (EvT.lenl (T.bl (by decide) rfl) (EvT.name rfl) (by simp; omega)) (by simp)) (by omega) (by omega)
  refine .cons (StT.for_ (IterX.range1 (n := (after.length : Int)) (T.bl (by decide) rfl) (.inr ⟨rfl, .toI (EvT.lenl (T.bl (by decide) rfl) (EvT.name rfl) (by simp; omega)) (by simp)⟩) (by omega) (by omega))
    ((LoopT.range (fun a : List Bool × List Int => [("seen", (Ls (a.1.map .bool), true)), ("after", (Ls (iLs after), false)), ("lengths", (Ls (iLs a.2), true))]) (rgOut after) after.length (fun i c c' hi e4 => ?_) (after.length : Int).toNat 0 _ x (by simp) (by simpa using h1)).pre (by walk_at "mine sub"))) ?_
  · unfold rgOut at e4
    rw [Option.bind_eq_some_iff] at e4
    obtain ⟨y, e5, e6⟩ := e4
    split at e6
    case isFalse => cases e6
    rename_i hc
    cases e6
    by_cases hp : 0 < y.2.2
    · rw [if_pos hp]
      refine ⟨_, _, AsT.name rfl, .cons (StT.assign (d := I 0) (.inl EvT.int) rfl) (.cons (StT.assign (d := I i) (.inl (EvT.name rfl)) rfl) (.cons (StT.while_ ((rg_while after c.2 50 _ y e5).pre (by unfold rgSt; walk_at "mine sub"))) (.cons (StT.ifT (.to (TsT.cmp (EvT.name rfl) EvT.int CmpR.gt) (by simpa using hp)) (.cons (StT.append (d := .int y.2.2) rfl (.inl (EvT.name rfl)) (by rw [sizeLine_eq]; simp; omega)) .nil)) .nil))), ?_⟩
      have e9 : iLs c.2 ++ [PyData.int y.2.2] = iLs (c.2 ++ [y.2.2]) := by simp
      rw [e9]
      unfold rgSt
      walk_at "mine sub"
    · rw [if_neg hp]
      exact ⟨_, _, AsT.name rfl, .cons (StT.assign (d := I 0) (.inl EvT.int) rfl) (.cons (StT.assign (d := I i) (.inl (EvT.name rfl)) rfl) (.cons (StT.while_ ((rg_while after c.2 50 _ y e5).pre (by unfold rgSt; walk_at "mine sub"))) (.cons (StT.ifF (.to (TsT.cmp (EvT.name rfl) EvT.int CmpR.gt) (by simpa using hp)) .nil) .nil))), by unfold rgSt; walk_at "mine sub"⟩
  exact .disown (x := "lengths") rfl (.post (.stop (StT.ret (σ' := []) (.inl (EvT.name rfl))) nofun) Sub.nil)
end
end
section
/-! lists made by a comprehension whose target lies in a cell -/
section
variable {u : U} {k : Nat} {sc cs : Scope} {σ σf σ1 σ2 : St} {env : Env} {N : Addr → Prop} {ad : Str → Addr} {A : Around} {s : Shared} {p pos : Pos} {x : Str} {v : Value} {c : Addr} {elt iter : Expr} {ds ys : List PyData}
theorem store_cel {Q : Unit → Shared → Prop} (he : EnvIs sc env) (f : FrOk u env s.heap) (hk : sc.names.lookup x = some .cell) (hc : env.cells.lookup x = some c)
    (h : ∀ h' tk, Keeps u (fun a => a = c) s.heap h' → FrOk u env h' → Sees env h' x v → (∀ y w, y ≠ x → Sees env s.heap y w → Sees env h' y w) → Q () { s with heap := h', toks := tk }) :
    wpAny u.M A (storeName env x v) Q NoE s := by
  have hl : env.kindOf x = some .cell := by rw [he.kindOf]; exact hk
  obtain ⟨v0, hv0⟩ := f.cell x c hc
  have hF : c ≠ env.locals := fun q => by
    obtain ⟨o, o1, o2⟩ := hv0
    obtain ⟨m, o', es, ep, o3, o4, _⟩ := f.ns
    rw [← q, o1] at o3; cases o3; rw [o2] at o4; cases o4
  refine wpAny_storeName_cell he.fn hl hc hv0 fun h' hc' hs => ?_
  obtain ⟨o', e', _, tr', _⟩ := cell_get hc'
  obtain ⟨o, e, _, _, nt⟩ := cell_get hv0
  refine h h' s.toks (.upd (f.cellNew x c hc) hs rfl ⟨o', e', tr'⟩ (fun its n q => by rw [e] at q; cases q; exact nt _ _ rfl) (cell_notCode hv0)) (f.upd hs (fun m q _ => (hF q).elim) fun y v hy _ => ⟨_, hc'⟩) (.inr ⟨.inl hl, c, hc, hc'⟩) fun y w ne hw => ?_
  rcases hw with ⟨e1, m1, hn1, hm1⟩ | ⟨e1, c1, hc1, hv⟩
  · exact .inl ⟨e1, m1, hn1.sameBut hs (Ne.symm hF), hm1⟩
  · exact .inr ⟨e1, c1, hc1, hv.sameBut hs fun q => ne (f.cellInj y x c (q ▸ hc1) hc)⟩
inductive CompW (u : U) (k : Nat) (sc : Scope) (σ : St) (x : Str) (elt : Expr) : List PyData → List PyData → Prop
  | nil : CompW u k sc σ x elt [] []
  | take {d ds y ys} : EvT u k sc ((x, (.py d, false)) :: σ) elt (.py y) → CompW u k sc σ x elt ds ys → CompW u k sc σ x elt (d :: ds) (y :: ys)
theorem CompW.map {β : Type} (d f : β → PyData) (bs : List β) (h : ∀ b ∈ bs, EvT u k sc ((x, (.py (d b), false)) :: σ) elt (.py (f b))) : CompW u k sc σ x elt (bs.map d) (bs.map f) := by
  induction bs with
  | nil => exact .nil
  | cons b bs ih => exact .take (h b (.head _)) (ih fun b hb => h b (.tail _ hb))
theorem comp_loopW {cs0 : Scope} (cw : CompW u k sc σ x elt ds ys) (noOwn : ∀ y d, look σ y ≠ some (d, true)) (hx : look σ x = none) (hk : sc.names.lookup x = some .cell) :
    ∀ (env : Env) (N : Addr → Prop) (ad : Str → Addr) (A : Around) (s : Shared) (I D c : Addr) (ws : Array Value) (m : Nat) (zs : List PyData) (R : Result → Shared → Prop), EnvIs sc env → Ok A k → Wd u s.heap → MatchS u N ad env s.heap σ → env.cells.lookup x = some c →
      ItRep (Full N ad σ env) s.heap I ds → u.lim ≤ I → s.heap.get? D = some (listOf ws m) → N D → u.lim ≤ D → RepPs (Full N ad σ env) s.heap ws.toList zs → zs.length + ds.length ≤ 2 ^ 20 →
      (∀ h' tk ws' m', Keeps u (fun a => a = c ∨ a = I ∨ a = D) s.heap h' → MatchS u N ad env h' σ → h'.get? D = some (listOf ws' m') → RepPs (Full N ad σ env) h' ws'.toList (zs ++ ys) → R (.ok .next) { s with heap := h', toks := tk }) →
      codeAny u.M A (.compLoop (.ListComp elt [⟨.Name x p, iter, [], 0⟩] cs0 pos) 0 (.ref I) (.ref D) env) R s := by
  induction cw with
  | nil =>
    intro env N ad A s I D c ws m zs R he ok wd M hc it hI hD hN hDB hr hz hR
    refine code_comp (it.done ok.handled hI fun h1 t1 k1 => ?_)
    have dI : D ≠ I := fun e => it.new _ (e ▸ hD) tr_list
    refine hR h1 t1 ws m (k1.mono fun _ q => .inr (.inl q)) (M.iter k1 it.new) (k1.old _ _ hD kp_list dI) ?_
    rw [List.append_nil]
    exact hr.stepN k1 fun a e => .inr (e ▸ it.new)
  | @take d ds y ys el cr ih =>
    intro env N ad A s I D c ws m zs R he ok wd M hc it hI hD hN hDB hr hz hR
    have n0 := it.new
    have dI : D ≠ I := fun e => n0 _ (e ▸ hD) tr_list
    refine code_comp (it.next hI fun v h1 t1 k1 r1 it1 => it1.go (s := { s with heap := h1, toks := t1 }) ?_)
    have M1 := M.iter k1 n0
    have hr1 := hr.stepN k1 fun a e => .inr (e ▸ n0)
    have hD1 := k1.old _ _ hD kp_list dI
    have hkind : env.kindOf x = some .cell := by rw [he.kindOf]; exact hk
    refine wpAny_assign_Name (store_cel (s := { s with heap := h1, toks := t1 }) he M1.fr hk hc fun h2 t2 k2 F hv ho => ?_)
    have M2 := M1.store (k2.mono fun a q => .inr ⟨x, hkind, q ▸ hc⟩) F hv ho (d := .py d) r1
    have dl : D ≠ c := fun e => M1.fr.notList hD1 (.inr ⟨x, e ▸ hc⟩)
    have lF : ∀ a, a = c → Full N ad σ env a := fun a e => .inr (.inl (.inr ⟨x, hkind, e ▸ hc⟩))
    have Il : I ≠ c := fun e => by
      obtain ⟨o, q1, q2, _⟩ := M1.fr.aliveFA (a := I) (.inr ⟨x, e ▸ hc⟩)
      exact it1.new o q1 q2
    have hD2 := k2.old _ _ hD1 kp_list dl
    have hr2 := hr1.step k2 lF
    have it2 := it1.step k2 (fun a e => .inl (lF a e)) Il
    refine TsTs.use (ifs := []) (k := k) (b := true) rfl (s := { s with heap := h2, toks := t2 }) (M2.here he ok (k2.wd (k1.wd wd))) fun h3 t3 k3 => ?_
    rw [if_pos rfl]
    have M3 := M2.step k3
    refine el.use (s := { s with heap := h3, toks := t3 }) (M3.here he ok (k3.wd (k2.wd (k1.wd wd)))) fun w h4 t4 k4 H4 r4 => ?_
    have k34 := k3.trans k4
    have hD4 := k34.old _ _ hD2 kp_list id
    have hlen := hr.length
    simp only [Array.length_toList] at hlen
    simp only [List.length_cons] at hz
    have r4' : RepP (Full N ad σ env) h4 w y := RepP.anti r4 fun b q => q.imp id fun q => q.imp id fun ⟨z, d, hz, _⟩ => (noOwn z d hz).elim
    refine list_app (s := { s with heap := h4, toks := t4 }) hD4 (by rw [hlen, sizeLine_eq]; omega) hDB fun h5 m5 k5 hD5 => ?_
    have dF : ∀ a, a = D → Full N ad σ env a := fun a e => .inl (e ▸ hN)
    have sb : Sub σ ((x, (.py d, false)) :: σ) := fun y e hy => by
      rw [look_cons]
      split
      · rename_i q; subst q; rw [hx] at hy; cases hy
      · exact hy
    have M4 := (M2.step k34).sub sb
    have K : Keeps u (fun a => a = c ∨ a = I ∨ a = D) s.heap h5 := (((k1.mono fun _ q => .inr (.inl q)).trans (k2.mono fun _ q => .inl q)).trans (k34.mono fun _ => nonil)).trans (k5.mono fun _ q => .inr (.inr q))
    refine ih env N ad A { s with heap := h5, toks := t4 } I D c (ws.push w) m5 (zs ++ [y]) R he ok (k5.wd H4.wd) (M4.touch k5 hN hD4) hc ((it2.step k34 (fun _ => nonil) id).step k5 (fun a e => .inl (dF a e)) (Ne.symm dI)) hI hD5 hN hDB ?_ (by simp; omega) fun h6 t6 ws' m' k6 M6 hD6 hr6 => ?_
    · rw [Array.toList_push]
      exact ((hr2.step k34 fun _ => nonil).step k5 dF).append (.cons (r4'.step k5 dF) .nil)
    · exact hR h6 t6 ws' m' (K.trans k6) M6 hD6 (by rw [List.append_assoc] at hr6; exact hr6)
end
end
section
/-- what the scopes must show, where one name x of the comprehension's own lies in a cell -/
structure CompOkW (cs sc : Scope) (σ σf : St) (x : Str) : Prop where
  kind : cs.kind = .function
  own : cs.names.all (fun y => y.2 != .cell || y.1 == x) = true
  cf : ∀ n acc, cellsFrom n cs.names acc = (x, n) :: acc
  pc : ∀ h, pushCells h cs.names = h.push { cls := .type "cell", data := .cell none }
  hx : (relabelS cs sc).names.lookup x = some .cell
  xf : look σf x = none
  locs : cs.names.all (fun x => x.2 != .local || cs.names.lookup x.1 == some .local) = true
  frees : cs.names.all (fun y => y.2 != .free || (sc.names.lookup y.1 == some .cell && y.1 != x)) = true
  fv : ∀ y e, look σf y = some e → ∃ d, e = (.py d, false) ∧ look σ y = some (.py d, false) ∧ (y, NameKind.free) ∈ cs.names ∧ (relabelS cs sc).names.lookup y = some .cell ∧ sc.names.lookup y = some .cell
section
variable {u : U} {k : Nat} {sc cs : Scope} {σ σf : St} {env : Env} {N : Addr → Prop} {A : Around} {s : Shared} {p pos : Pos} {x : Str} {elt iter : Expr} {ds ys : List PyData}
theorem CompOkW.freeOf (O : CompOkW cs sc σ σf x) {y : Str} (hy : (y, NameKind.free) ∈ cs.names) : sc.names.lookup y = some .cell ∧ y ≠ x := by
  have q := List.all_eq_true.mp O.frees _ hy
  have q2 : (sc.names.lookup y == some NameKind.cell && y != x) = true := by simpa using q
  rw [Bool.and_eq_true] at q2
  exact ⟨eq_of_beq q2.1, by simpa using q2.2⟩
theorem CompOkW.clos (O : CompOkW cs sc σ σf x) (he : EnvIs sc env) : ∀ y, (y, NameKind.free) ∈ cs.names → ∃ c, env.cells.lookup y = some c := fun y hy => he.cells y (O.freeOf hy).1
theorem CompOkW.locals (O : CompOkW cs sc σ σf x) : ∀ y ∈ cs.names, y.2 = .local → cs.names.lookup y.1 = some .local := fun y hy e => by
  have q := List.all_eq_true.mp O.locs _ hy
  rw [e] at q
  exact eq_of_beq (by simpa using q)
/-- the frame of a comprehension, with its cells -/
theorem newEnv_cells {g : Addr} {cl : List (Str × Addr)} {qual : Str} {code : Value} {o : Env} {b : Addr} {Q : Env → Shared → Prop} (hcf : ∀ n acc, cellsFrom n cs.names acc = (x, n) :: acc) (hpc : ∀ h, pushCells h cs.names = h.push { cls := .type "cell", data := .cell none })
    (h : ∀ h', h' = (s.heap.push { cls := .type "dict", data := .dict #[] }).push { cls := .type "cell", data := .cell none } → Q (newEnv cs s.heap.objs.size g ((x, s.heap.objs.size + 1) :: cl) qual none code (some o) b) { s with heap := h' }) :
    wpAny u.M A (newFunctionEnv cs g cl [] qual none code (some o) b) Q NoE s := by
  simp only [newFunctionEnv, Option.isSome_some, if_true]
  refine wpAny_bind (wpAny_alloc ?_)
  refine wpAny_bind (wpAny_layCells _ (fun name kind cells => by cases hkc : kind == NameKind.cell <;> simp [hkc]) _ _ _ _ ?_)
  rw [hcf, hpc]
  rw [show ({ s with heap := s.heap.push { cls := .type "dict", data := .dict #[] } } : Shared).heap.objs.size = s.heap.objs.size + 1 from Heap.size_push ..]
  refine wpAny_bind ?_
  rw [List.forIn_nil]
  exact wpAny_pure (wpAny_pure (h _ rfl))
theorem comp_blockW {I : Addr} {cl : List (Str × Addr)} {RR : Value → Addr → Result → Shared → Prop} (O : CompOkW cs sc σ σf x) (c : CompW u k (relabelS cs sc) σf x elt ds ys) (he : EnvIs sc env) (ok : Ok A k) (wd : Wd u s.heap) (fr : FrOk u env s.heap) (lv : Live N s.heap) (lk : Look u N env s.heap σ)
    (hcl : ∀ x c, cl.lookup x = some c → env.cells.lookup x = some c) (hcl2 : ∀ x, (x, NameKind.free) ∈ cs.names → cl.lookup x = env.cells.lookup x) (it : ItRep N s.heap I ds) (hI : u.lim ≤ I) (hz : ds.length ≤ 2 ^ 20)
    (hRR : ∀ D C h' tk ws m mC, NewK s.heap D → NewK s.heap C → D ≠ C → u.lim ≤ D → u.lim ≤ C → Keeps u (fun a => a = I) s.heap h' → h'.Ns C mC → h'.get? D = some (listOf ws m) → RepPs (fun b => N b ∨ b = D) h' ws.toList ys → RR (.ref D) C (.ok .next) { s with heap := h', toks := tk }) :
    wpAny u.M A (newList []) (fun acc s₃ => wpAny u.M A (newFunctionEnv cs env.globals cl [] env.qual none .none (some env)) (fun cenv s₄ =>
      codeAny u.M A (.compStart (.ListComp elt [⟨.Name x p, iter, [], 0⟩] cs pos) 0 (.ref I) acc { cenv with scope := relabel cs env }) (RR acc cenv.locals) s₄) NoE s₃) NoE s := by
  refine wpAny_newObj_type (newEnv_cells O.cf O.pc fun h₁ hh₁ => ?_)
  dsimp only at hh₁ ⊢
  generalize hH2 : s.heap.push { cls := .type "list", dict := none, data := .seq ([] : List Value).toArray } = H2 at hh₁ ⊢
  generalize hH3 : H2.push { cls := .type "dict", data := .dict #[] } = H3 at hh₁
  have hC : H2.objs.size = s.heap.objs.size + 1 := by rw [← hH2, Heap.size_push]
  have hC3 : H3.objs.size = H2.objs.size + 1 := by rw [← hH3, Heap.size_push]
  have hDC : s.heap.objs.size ≠ H2.objs.size := by rw [hC]; omega
  have old2 : ∀ b o, s.heap.get? b = some o → H2.get? b = some o := fun b o e => hH2 ▸ Heap.get?_push_of_some _ e
  have old3 : ∀ b o, H2.get? b = some o → H3.get? b = some o := fun b o e => hH3 ▸ Heap.get?_push_of_some _ e
  have old4 : ∀ b o, H3.get? b = some o → h₁.get? b = some o := fun b o e => hh₁ ▸ Heap.get?_push_of_some _ e
  have old : ∀ b o, s.heap.get? b = some o → h₁.get? b = some o := fun b o e => old4 b o (old3 b o (old2 b o e))
  have K1 : Keeps u Nil s.heap h₁ := .ext old
  have hD1 : h₁.get? s.heap.objs.size = some (listOf #[] 0) := old4 _ _ (old3 _ _ (hH2 ▸ Heap.get?_push_size _ rfl))
  have hns₁ : h₁.Ns H2.objs.size (fun _ => none) := (hH3 ▸ Heap.Ns.new H2 (.type "dict") : H3.Ns H2.objs.size (fun _ => none)).keeps old4
  have hcell₁ : h₁.IsCell H3.objs.size none := ⟨_, hh₁ ▸ Heap.get?_push_size _ rfl, rfl⟩
  have nD : s.heap.get? s.heap.objs.size = none := none_size _
  have nC : s.heap.get? H2.objs.size = none := Heap.get?_none_of_le (by rw [hC]; omega)
  have nX : s.heap.get? H3.objs.size = none := Heap.get?_none_of_le (by rw [hC3, hC]; omega)
  have hDB := wd.size
  have hCB : u.lim ≤ H2.objs.size := by rw [hC]; omega
  have hXB : u.lim ≤ H3.objs.size := by rw [hC3]; omega
  rw [show H2.objs.size + 1 = H3.objs.size from hC3.symm]
  -- the frame of the comprehension
  let cenv : Env := { newEnv cs H2.objs.size env.globals ((x, H3.objs.size) :: cl) env.qual none .none (some env) 0 with scope := relabel cs env }
  have hloc : cenv.locals = H2.objs.size := rfl
  have hcells : cenv.cells = (x, H3.objs.size) :: cl := rfl
  have hcx : cenv.cells.lookup x = some H3.objs.size := by rw [hcells]; simp
  have hcy : ∀ y, y ≠ x → cenv.cells.lookup y = cl.lookup y := fun y ne => by rw [hcells, List.lookup_cons, beq_eq_false_iff_ne.mpr ne]
  have hE : EnvIs (relabelS cs sc) cenv := by
    refine ⟨relabel_eq he, O.kind, he.globals, he.builtins, fun y hy => ?_⟩
    by_cases hyx : y = x
    · exact ⟨_, hyx ▸ hcx⟩
    have q := mem_of_lookup hy
    obtain ⟨p, hp, e⟩ := List.mem_map.mp q
    obtain ⟨n', k'⟩ := p
    dsimp only at e
    split at e
    · rename_i hk
      cases e
      simp only [Bool.and_eq_true] at hk
      have hk1 : k' = .free := eq_of_beq hk.1.1
      subst hk1
      obtain ⟨c, hc⟩ := he.cells y (eq_of_beq hk.2)
      exact ⟨c, by rw [hcy y hyx, hcl2 y hp]; exact hc⟩
    · cases e
      have q := List.all_eq_true.mp O.own _ hp
      exact absurd (by simpa using q) hyx
  have fr1 := fr.step K1 fun _ _ => id
  have inCl : ∀ y c, cenv.cells.lookup y = some c → (y = x ∧ c = H3.objs.size) ∨ env.cells.lookup y = some c := fun y c hy => by
    by_cases hyx : y = x
    · subst hyx; rw [hcx] at hy; cases hy; exact .inl ⟨rfl, rfl⟩
    · rw [hcy y hyx] at hy; exact .inr (hcl y c hy)
  have notX : ∀ y c, env.cells.lookup y = some c → c ≠ H3.objs.size := fun y c hy e => by
    obtain ⟨v, o, e1, _⟩ := fr.cell y c hy
    rw [e, nX] at e1; cases e1
  have hF : FrOk u cenv h₁ := by
    refine ⟨⟨_, hns₁⟩, fun y c hy => ?_, hCB, fun y c hy => ?_, fun y z c hy hz => ?_⟩
    · rcases inCl y c hy with ⟨_, rfl⟩ | q
      · exact ⟨_, hcell₁⟩
      · exact fr1.cell y c q
    · rcases inCl y c hy with ⟨_, rfl⟩ | q
      · exact hXB
      · exact fr.cellNew y c q
    · rcases inCl y c hy with ⟨rfl, rfl⟩ | q <;> rcases inCl z _ hz with ⟨rfl, e⟩ | r
      · rfl
      · exact (notX _ _ r rfl).elim
      · exact (notX _ _ q e).elim
      · exact fr.cellInj y z c q r
  have noOwn : ∀ y d, look σf y ≠ some (d, true) := fun y d hy => by
    obtain ⟨d', e, _⟩ := O.fv y _ hy
    cases e
  have fwNo : ∀ a, FW cenv a → NoLs s.heap a := by
    rintro a (rfl | ⟨y, _, hy⟩)
    · exact .none nC
    · rcases inCl y a hy with ⟨_, rfl⟩ | q
      · exact .none nX
      · intro vs n e
        obtain ⟨v, o, e1, e2⟩ := fr.cell y a q
        rw [e] at e1; cases e1; cases e2
  have fs : ∀ a, Full (fun a => (N a ∧ ¬ FW cenv a) ∨ a = s.heap.objs.size) (fun _ => 0) σf cenv a → N a ∨ NoLs s.heap a := by
    rintro a ((q | rfl) | q | ⟨y, d, hy, _⟩)
    · exact .inl q.1
    · exact .inr (.none nD)
    · exact .inr (fwNo a q)
    · exact (noOwn y d hy).elim
  have M : MatchS u (fun a => (N a ∧ ¬ FW cenv a) ∨ a = s.heap.objs.size) (fun _ => 0) cenv h₁ σf := by
    refine ⟨fun a q => ?_, hF, fun a q nn => ?_, fun y d hy => ?_, fun y d hy => (noOwn y d hy).elim, fun y z d e hy => (noOwn y d hy).elim⟩
    · rcases q with q | rfl
      · exact (lv.step K1) a q.1
      · exact ⟨_, hD1, tr_list⟩
    · rcases nn with nn | rfl
      · exact nn.2 q
      · exact hF.notList hD1 q.fa
    · obtain ⟨d', e, hσ, hfree, hrc, hsc⟩ := O.fv y _ hy
      cases e
      obtain ⟨v, hv, r⟩ := lk y _ hσ
      obtain ⟨c, hc⟩ := he.cells y hsc
      have cc := sees_cellG he hsc hc (hv.step fr K1 fun _ _ => id)
      exact ⟨v, .inr ⟨.inl (by rw [hE.kindOf]; exact hrc), c, by rw [hcy y (O.freeOf hfree).2, hcl2 y hfree]; exact hc, cc⟩, (RepP.off r fs).step K1 fun _ => nonil⟩
  have it1 : ItRep (Full (fun a => (N a ∧ ¬ FW cenv a) ∨ a = s.heap.objs.size) (fun _ => 0) σf cenv) h₁ I ds := (it.off fs).step K1 (fun _ => nonil) id
  have loop : codeAny u.M A (.compLoop (.ListComp elt [⟨.Name x p, iter, [], 0⟩] cs pos) 0 (.ref I) (.ref s.heap.objs.size) cenv) (RR (.ref s.heap.objs.size) H2.objs.size) { s with heap := h₁, toks := s.toks } := by
    refine comp_loopW c noOwn O.xf O.hx cenv _ (fun _ => 0) A { s with heap := h₁, toks := s.toks } I s.heap.objs.size H3.objs.size #[] 0 [] _ hE ok (K1.wd wd) M hcx it1 hI hD1 (.inr rfl) hDB RepPs.nil (by simpa using hz) fun h' tk ws' m' K M' hD' hr' => ?_
    obtain ⟨mC, hmC⟩ := M'.fr.ns
    refine hRR s.heap.objs.size H2.objs.size h' tk ws' m' mC (.none nD) (.none nC) hDC hDB hCB (Keeps.then (X := fun a => a = I) (K1.mono fun _ => nonil) K fun b o _ e _ q => ?_) hmC hD' (hr'.anti fun b q => ?_)
    · rcases q with rfl | q | rfl
      · rw [nX] at e; cases e
      · exact q
      · rw [nD] at e; cases e
    · rcases q with q | q
      · by_cases w : FW cenv b
        · exact .inr (.inl w)
        · exact .inl (.inl ⟨q, w⟩)
      · exact .inl (.inr q)
  exact codeAny_compStart_list loop (it1.self (s := { s with heap := h₁, toks := s.toks }) loop |> up)
/-- y = [comprehension], the target in a cell -/
theorem StT.assignW {y : Str} {py spos : Pos} (O : CompOkW cs sc σ σf x) (ti : IterT u k sc σ iter ds) (c : CompW u k (relabelS cs sc) σf x elt ds ys) (hz : ds.length ≤ 2 ^ 20) (hk : canStore sc y = true)
    (hsw : ∀ env, EnvIs sc env → swapsWith (.ListComp elt [⟨.Name x p, iter, [], 0⟩] cs pos) (some (.Name y py)) spos.line env = pure true := by rintro ⟨sc', _, _, _, _, _, _, _, _⟩ he; have h9 : sc' = _ := he.scope; subst h9; rfl)
    (hs : ∀ env x, EnvIs sc env → foldedSetIterable iter env x = pure x := by intros; rfl) :
    StT u k sc σ (.Assign [.Name y py] (.ListComp elt [⟨.Name x p, iter, [], 0⟩] cs pos) spos) .next ((y, (Ls ys, false)) :: σ) := fun env N ad A s Q he ok wd M h => by
  obtain ⟨cl, e1, e2, e3⟩ := closure_of (scope := cs) (env := env) (O.clos he)
  rw [exec_Assign_Name_used _ _ _ _ (hsw env he)]
  refine wpAny_bind (wpAny_standAt (wpAny_bind ?_))
  show wpAny _ A (do let _ ← comprehension (.ListComp elt [⟨.Name x p, iter, [], 0⟩] cs pos) cs env _ (newList []) false (eval iter env) (some (PySem.assign (.Name y py) env))) _ _ s
  have H := M.here he ok wd
  refine wpAny_bind (wpAny_mono (wpAny_comprehension_free (use := some (PySem.assign (.Name y py) env)) (Q := fun _ s' => Q .next s') rfl (fun x => hs env x he) e1 O.kind O.locals (ti env _ A s _ H fun I h1 t1 k1 n1 z1 i1 => ?_)) (fun _ s' hq => wpAny_pure (wpAny_pure hq)) fun _ _ e => e)
  have H1 := H.step k1
  refine comp_blockW (s := { s with heap := h1, toks := t1 }) (RR := fun acc C => compPost u.M A NoE (some (PySem.assign (.Name y py) env)) (fun _ s' => Q .next s') acc C) O c H1.is H1.ok H1.wd H1.fr H1.live H1.lk e2 e3 i1 z1 hz fun D C h' tk ws m mC nD nC ne dB cB K hC hD hr => ?_
  have kT : Keeps u Nil s.heap h' := Keeps.then (X := Nil) k1 K fun b o kp e _ q => (n1 o (q ▸ e) kp).elim
  have nC0 := goneK k1 nC
  have nD0 := goneK k1 nD
  obtain ⟨oC, gC, _, trC, _⟩ := ns_get hC
  have M' := M.addNew kT nC0.new ⟨oC, gC, trC⟩
  have dF : ¬ Full (fun a => N a ∨ a = C) ad σ env D := fun q => by
    rcases q with (q | q) | q | ⟨x, d, hx, q⟩
    · obtain ⟨o, e, t⟩ := M.live D q
      exact nD0.new o e t
    · exact ne q
    · obtain ⟨o, e, t, _⟩ := M.fr.aliveFA q.fa
      exact nD0.new o e t
    · obtain ⟨vs, n, xs, _, _, g, _⟩ := M.own x d hx
      exact nD0.new _ (q ▸ g) tr_list
  have rD : Rep u (Full (fun a => N a ∨ a = C) ad σ env) h' (.ref D) (Ls ys) := RepP.list_mk hD dF (hr.off fun b q => by
    rcases q with (q | rfl) | q
    · exact .inl (.inl (.inl q))
    · exact .inr (ns_nols hC)
    · exact .inl (.inl (.inr q)))
  show wpAny _ A (PySem.assign (.Name y py) env (.ref D)) _ _ _
  refine wpAny_assign_Name (store_use (s := { s with heap := h', toks := tk }) hk he M' rD fun h2 t2 k2 M2 => ?_)
  have hC2 : h2.Ns C mC := ns_step hC k2 fun q => by
    obtain ⟨o, e, t, _⟩ := M.fr.aliveFA q.fa
    exact nC0.new o e t
  refine ⟨mC, hC2, fun h3 hs3 => ?_⟩
  have nNC : ¬ N C := fun q => by
    obtain ⟨o, e, t⟩ := M.live C q
    exact nC0.new o e t
  have M3 : MatchS u N ad env h3 ((y, (Ls ys, false)) :: σ) := M2.off (.inr rfl) hs3 hC2 (fun a q => .inl q) nNC
  have k3 : Keeps u (Mut ad σ env) s.heap h3 := ((kT.mono fun _ => nonil).trans (k2.mono fun a q => .inl q)).drop hs3 nC0 cB (ns_notCode hC2)
  exact h .next h3 t2 ad trivial k3 fun _ => ⟨fun x d hx => .inl ⟨x, d, OwnSub.refl.cons x d hx, rfl⟩, M3⟩
end
end
section
noncomputable def sgnOf (t : Int) : Int := 4 + (t + 2).fmod 5
noncomputable def lens1 (s a b : Int) : List Int := if s < 7 then [1 + a.fmod (s - 1), 1 + b.fmod (s - (1 + a.fmod (s - 1)))] else [1 + a.fmod (s - 1)]
noncomputable def lensOf (s a b : Int) : List Int := if (lens1 s a b).sum < s then lens1 s a b ++ [s - (lens1 s a b).sum] else lens1 s a b
noncomputable def numAt (script : List Int) (i : Nat) : Int := (keptOf script ++ [1, 3].drop (keptOf script).length).getD i 0
noncomputable def stA (t s : Int) (L : List Int) : St := [("lengths", (Ls (iLs L), false)), ("signs", (I s, false)), ("total", (I t, false))]
variable {u : U} {k : Nat} {fl : Fl} {σ' : St}
theorem nums_get (script : List Int) {i : Nat} (hi : i < 2) : (iLs (keptOf script ++ [1, 3].drop (keptOf script).length))[i]? = some (.int (numAt script i)) := by
  have : i < (keptOf script ++ [1, 3].drop (keptOf script).length).length := by
    have := kept_len script
    simp; omega
  unfold numAt
  rw [List.getElem?_map, List.getElem?_eq_getElem this, List.getD_eq_getElem?_getD, List.getElem?_eq_getElem this]
  rfl
theorem sgn_in (t : Int) : 4 ≤ sgnOf t ∧ sgnOf t ≤ 8 := by
  have := fmod_in (t + 2) (m := 5) (by decide)
  unfold sgnOf; omega
/-- the lengths add up -/
theorem lens1_in {s : Int} (a b : Int) (hs : 4 ≤ s ∧ s ≤ 8) : 1 ≤ (lens1 s a b).sum ∧ (lens1 s a b).sum ≤ s ∧ (lens1 s a b).length ≤ 2 ∧ ∀ x ∈ lens1 s a b, 1 ≤ x ∧ x ≤ 8 := by
  have h1 := fmod_in a (m := s - 1) (by omega)
  have h2 := fmod_in b (m := s - (1 + a.fmod (s - 1))) (by omega)
  generalize hx : a.fmod (s - 1) = x at h1 h2
  unfold lens1
  rw [hx]
  split
  · generalize b.fmod (s - (1 + x)) = y at h2
    simp; omega
  · simp; omega
theorem lens_sum_long {l : List Int} (hl : l.length ≤ 3) (h : ∀ x ∈ l, 0 ≤ x ∧ x < 1000) : ∀ j, j < l.length → InLong (l.getD j 0) ∧ InLong ((l.take (j + 1)).sum) := by
  intro j hj
  have h2 : l.getD j 0 ∈ l := by rw [List.getD_eq_getElem?_getD, List.getElem?_eq_getElem hj]; exact List.getElem_mem hj
  have h3 := h _ h2
  have h4 := sum_bd (m := 1000) (by decide) (l.take (j + 1)) fun y hy => h y (List.mem_of_mem_take hy)
  have h5 : (l.take (j + 1)).length ≤ 3 := by simp; omega
  unfold InLong
  constructor <;> constructor <;> omega
theorem segA (T : Tops u) {script : List Int} (hl : script.length ≤ 63) (h : ExT u k (scopeAt 26) (stA (totOf script) (sgnOf (totOf script)) (lensOf (sgnOf (totOf script)) (numAt script 0) (numAt script 1))) ((bodyAt 26).drop 7) fl σ') :
    ExT u k (scopeAt 26) [("script", (.big (iLs script), false))] (bodyAt 26) fl σ' := by
  have kl := kept_len script
  have hs := sgn_in (totOf script)
  refine .cons (StT.assignC (σf := []) (ds := iLs (script.take 6)) (ys := iLs (keptOf script)) ?o ?ti ?c ?hz ?hk) ?_
  case o => exact ⟨rfl, rfl, rfl, rfl, fun y e h => by cases h⟩
  case ti => exact IterT.list (.to (EvT.uptoB (EvT.name rfl) EvT.int (by decide) (by simp; omega)) (by simp [List.map_take]))
  case hz => simp; omega
  case hk => rfl
  case c =>
    have e : iLs (keptOf script) = (script.take 6).map fun x => .int (x.fmod 1000000) := by
      unfold keptOf
      show List.map PyData.int (List.map _ _) = _
      rw [List.map_map]; rfl
    rw [e]
    exact CompR.map (fun x : Int => PyData.int x) (fun x => .int (x.fmod 1000000)) (script.take 6) fun b hb => ⟨_, AsL.name rfl, Sub.nil, EvT.mod (EvT.name rfl) EvT.int (by decide)⟩
  refine .cons (StT.assign (d := I (totOf script)) (.inl (EvT.sum (T.bl (by decide) rfl) (EvT.name rfl) (kept_long script))) rfl) ?_
  refine .cons (StT.assign (d := I (sgnOf (totOf script))) (.inl (EvT.add EvT.int (EvT.mod (EvT.add (EvT.name rfl) EvT.int) EvT.int (by decide)))) rfl) ?_
  refine .cons (StT.assign (d := Ls (iLs (keptOf script ++ [1, 3].drop (keptOf script).length))) (.inl (.to (EvT.ladd (EvT.name rfl) (EvT.dropf (a := ((keptOf script).length : Int)) (xs := [.int 1, .int 3]) (EvT.list (.of2 EvT.int EvT.int)) (.toI (EvT.lenl (T.bl (by decide) rfl) (EvT.name rfl) (by simp; omega)) (by simp)) (by omega) (by simp)) (by rw [sizeLine_eq]; simp; omega)) (by simp [List.map_drop]))) rfl) ?_
  generalize hss : sgnOf (totOf script) = s at *
  have h1 := fmod_in (numAt script 0) (m := s - 1) (by omega)
  have h2 := fmod_in (numAt script 1) (m := s - (1 + (numAt script 0).fmod (s - 1))) (by omega)
  have hi := lens1_in (numAt script 0) (numAt script 1) hs
  refine .cons (StT.assignF (.inl (EvFr.list (ds := [.int (1 + (numAt script 0).fmod (s - 1))]) (.of1 (EvT.add EvT.int (EvT.mod (EvT.item (d := .int (numAt script 0)) (EvT.name rfl) EvT.int (by decide) (by decide) (nums_get script (by decide))) (EvT.sub (EvT.name rfl) EvT.int) (by omega)))))) rfl) ?_
  refine .cons (σ' := [("lengths", (Ls (iLs (lens1 s (numAt script 0) (numAt script 1))), true)), ("signs", (I s, false)), ("total", (I (totOf script), false))]) ?_ ?_
  · by_cases q : s < 7
    · have e : iLs (lens1 s (numAt script 0) (numAt script 1)) = [PyData.int (1 + (numAt script 0).fmod (s - 1))] ++ [.int (1 + (numAt script 1).fmod (s - (1 + (numAt script 0).fmod (s - 1))))] := by unfold lens1; rw [if_pos q]; rfl
      rw [e]
      exact StT.ifT (.to (TsT.cmp (EvT.name rfl) EvT.int CmpR.lt) (by simpa using q)) (.post (.cons (StT.append (d := .int (1 + (numAt script 1).fmod (s - (1 + (numAt script 0).fmod (s - 1))))) rfl (.inr ⟨rfl, EvT.add EvT.int (EvT.mod (EvT.item (d := .int (numAt script 1)) (EvT.name rfl) EvT.int (by decide) (by decide) (nums_get script (by decide))) (EvT.sub (EvT.name rfl) (EvT.item (d := .int (1 + (numAt script 0).fmod (s - 1))) (EvT.name rfl) EvT.int (by decide) (by decide) rfl)) (by omega))⟩) (by rw [sizeLine_eq]; simp)) .nil) (by walk_at "mine sub"))
    · have e : iLs (lens1 s (numAt script 0) (numAt script 1)) = [PyData.int (1 + (numAt script 0).fmod (s - 1))] := by unfold lens1; rw [if_neg q]; rfl
      rw [e]
      exact StT.ifF (.to (TsT.cmp (EvT.name rfl) EvT.int CmpR.lt) (by simpa using q)) (.post .nil (by walk_at "mine sub"))
  have hlong := lens_sum_long (l := lens1 s (numAt script 0) (numAt script 1)) (by omega) fun x hx => by have := hi.2.2.2 x hx; omega
  unfold lensOf at h
  generalize lens1 s (numAt script 0) (numAt script 1) = l at h hi hlong ⊢
  split at h
  · rename_i q
    have e : iLs l ++ [PyData.int (s - l.sum)] = iLs (l ++ [s - l.sum]) := by simp
    refine .cons (StT.ifT (.to (TsT.cmp (EvT.sum (T.bl (by decide) rfl) (EvT.name rfl) hlong) (EvT.name rfl) CmpR.lt) (by simpa using q)) (.cons (StT.append (d := .int (s - l.sum)) rfl (.inr ⟨rfl, EvT.sub (EvT.name rfl) (EvT.sum (T.bl (by decide) rfl) (EvT.name rfl) hlong)⟩) (by rw [sizeLine_eq]; simp; omega)) .nil)) ?_
    rw [e]
    exact .disown (x := "lengths") rfl (h.pre (by unfold stA; walk_at "mine sub"))
  · rename_i q
    refine .cons (StT.ifF (.to (TsT.cmp (EvT.sum (T.bl (by decide) rfl) (EvT.name rfl) hlong) (EvT.name rfl) CmpR.lt) (by simpa using q)) .nil) ?_
    exact .disown (x := "lengths") rfl (h.pre (by unfold stA; walk_at "mine sub"))
end
section
noncomputable def eols : List Str := [⟨#[10]⟩, ⟨#[13]⟩, ⟨#[13, 10]⟩]
noncomputable def tyOf (d : Int) : Str := if 1 < d then reps 46 (d - 1).toNat else ⟨#[97]⟩
noncomputable def meOf (d : Int) : Str := if 1 < d then reps 46 d.toNat else ⟨#[97]⟩
noncomputable def mStep (t : Int) (L : List Int) (i : Nat) (a : Str × Str × Str) : Option (Str × Str × Str) := (L[i]?).bind fun d => (eols[((t + i).fmod 3).toNat]?).bind fun e =>
  if 1 ≤ d ∧ d < 1000 ∧ a.1.length < 10000 ∧ a.2.1.length < 10000 ∧ a.2.2.length < 10000 ∧ e.length < 10 ∧ (tyOf d).length < 1000 ∧ (meOf d).length < 1000 then some (a.1 ++ tyOf d ++ e, a.2.1 ++ meOf d ++ ⟨#[13, 10]⟩, a.2.2 ++ reps 32 (d - 1).toNat ++ ⟨#[9]⟩) else none
noncomputable def stB (t s : Int) (text due : Str) : St := [("sent", (S due, false)), ("text", (S text, false)), ("signs", (I s, false)), ("total", (I t, false))]
variable {u : U} {k : Nat} {fl : Fl} {σ' : St}
theorem segB (T : Tops u) (F18 : Fn u "quotedata" 18) (n1 : Pat u "_twin_re_1" code1) (n2 : Pat u "_twin_re_2" code2) (nc : StrG u "CRLF" ⟨#[13, 10]⟩)
    {t s : Int} {L : List Int} {mail due text : Str} (hb : itO (mStep t L) 0 L.length (⟨#[]⟩, ⟨#[]⟩, ⟨#[]⟩) = some (mail, due, text)) (hq : quoteP mail = some due) (hd : PyData.strOk due = true) (hl : L.length < 64)
    (h : ExT u (k + 1) (scopeAt 26) (stB t s text due) ((bodyAt 26).drop 13) fl σ') :
    ExT u (k + 1) (scopeAt 26) (stA t s L) ((bodyAt 26).drop 7) fl σ' := by
  refine .cons (StT.assign (d := S ⟨#[]⟩) (.inl EvT.str) rfl) (.cons (StT.assign (d := S ⟨#[]⟩) (.inl EvT.str) rfl) (.cons (StT.assign (d := S ⟨#[]⟩) (.inl EvT.str) rfl) ?_))
  refine .cons (StT.for_ (IterX.range1 (T.bl (by decide) rfl) (.inl (EvT.lenl (T.bl (by decide) rfl) (EvT.name rfl) (by simp; omega))) (by simp; omega) (by simp; omega)) ((LoopT.range (fun a : Str × Str × Str => [("text", (S a.2.2, false)), ("due", (S a.2.1, false)), ("mail", (S a.1, false)), ("lengths", (Ls (iLs L), false)), ("signs", (I s, false)), ("total", (I t, false))]) (mStep t L) L.length (fun i a a' hi e => ?_) (((iLs L).length : Int)).toNat 0 (⟨#[]⟩, ⟨#[]⟩, ⟨#[]⟩) (mail, due, text) (by simp) (by rw [show (((iLs L).length : Int)).toNat = L.length by simp]; exact hb)).pre (by unfold stA; walk_at "mine sub"))) ?_
  · unfold mStep at e
    rw [Option.bind_eq_some_iff] at e
    obtain ⟨d, e1, e⟩ := e
    rw [Option.bind_eq_some_iff] at e
    obtain ⟨el, e2, e⟩ := e
    split at e
    case isFalse => cases e
    rename_i hz
    cases e
    have hm := fmod_in (t + i) (m := 3) (by decide)
    have he : ([.str ⟨#[10]⟩, .str ⟨#[13]⟩, .str ⟨#[13, 10]⟩] : List PyData)[((t + i).fmod 3).toNat]? = some (.str el) := by
      generalize ((t + i).fmod 3).toNat = m at e2
      have : ([.str ⟨#[10]⟩, .str ⟨#[13]⟩, .str ⟨#[13, 10]⟩] : List PyData) = eols.map .str := rfl
      rw [this, List.getElem?_map, e2]; rfl
    have hL : (iLs L)[(i : Int).toNat]? = some (PyData.int d) := by simp [e1]
    refine ⟨_, _, AsT.name rfl, .cons (StT.assign (d := S ⟨#[97]⟩) (.inl EvT.str) rfl) (.cons (StT.assign (d := S ⟨#[97]⟩) (.inl EvT.str) rfl)
      (.cons (σ' := [("typed", (S (tyOf d), false)), ("meant", (S (meOf d), false)), ("place", (I i, false)), ("text", (S a.2.2, false)), ("due", (S a.2.1, false)), ("mail", (S a.1, false)), ("lengths", (Ls (iLs L), false)), ("signs", (I s, false)), ("total", (I t, false))]) ?_
      (.cons (StT.assign (d := S (a.1 ++ tyOf d ++ el)) (.inl (EvT.sadd (EvT.sadd (EvT.name rfl) (EvT.name rfl) (by rw [sizeLine_eq]; omega)) (EvT.item (xs := [.str ⟨#[10]⟩, .str ⟨#[13]⟩, .str ⟨#[13, 10]⟩]) (d := .str el) (EvT.list (.of3 EvT.str EvT.str EvT.str)) (EvT.mod (EvT.add (EvT.name rfl) (EvT.name rfl)) EvT.int (by decide)) (by omega) (by omega) he) (by rw [strLen_append, sizeLine_eq]; omega))) rfl)
      (.cons (StT.assign (d := S (a.2.1 ++ meOf d ++ ⟨#[13, 10]⟩)) (.inl (EvT.sadd (EvT.sadd (EvT.name rfl) (EvT.name rfl) (by rw [sizeLine_eq]; omega)) EvT.str (by rw [strLen_append, sizeLine_eq]; show _ + 2 ≤ _; omega))) rfl)
      (.cons (StT.assign (d := S (a.2.2 ++ reps 32 (d - 1).toNat ++ ⟨#[9]⟩)) (.inl (EvT.sadd (EvT.sadd (EvT.name rfl) (EvT.smul EvT.str (EvT.sub (EvT.item (d := .int d) (EvT.name rfl) (EvT.name rfl) (by omega) (by omega) hL) EvT.int) (by omega) (by omega)) (by rw [reps_len, sizeLine_eq]; omega)) EvT.str (by rw [strLen_append, reps_len, sizeLine_eq]; show _ + 1 ≤ _; omega))) rfl) .nil))))), ?_⟩
    rotate_left
    · walk_at "mine sub"
    · by_cases q : 1 < d
      · have q1 : tyOf d = reps 46 (d - 1).toNat := by unfold tyOf; rw [if_pos q]
        have q2 : meOf d = reps 46 d.toNat := by unfold meOf; rw [if_pos q]
        rw [q1, q2]
        exact StT.ifT (.to (TsT.cmp (EvT.item (d := .int d) (EvT.name rfl) (EvT.name rfl) (by omega) (by omega) hL) EvT.int CmpR.gt) (by simpa using q)) (.post (.cons (StT.assign (d := S (reps 46 (d - 1).toNat)) (.inl (EvT.smul EvT.str (EvT.sub (EvT.item (d := .int d) (EvT.name rfl) (EvT.name rfl) (by omega) (by omega) hL) EvT.int) (by omega) (by omega))) rfl)
          (.cons (StT.assign (d := S (reps 46 d.toNat)) (.inl (EvT.smul EvT.str (EvT.item (d := .int d) (EvT.name rfl) (EvT.name rfl) (by omega) (by omega) hL) (by omega) (by omega))) rfl) .nil)) (by walk_at "mine sub"))
      · have q1 : tyOf d = ⟨#[97]⟩ := by unfold tyOf; rw [if_neg q]
        have q2 : meOf d = ⟨#[97]⟩ := by unfold meOf; rw [if_neg q]
        rw [q1, q2]
        exact StT.ifF (.to (TsT.cmp (EvT.item (d := .int d) (EvT.name rfl) (EvT.name rfl) (by omega) (by omega) hL) EvT.int CmpR.gt) (by simpa using q)) (.post .nil (by walk_at "mine sub"))
  refine .cons (StT.assign (d := S due) (.inl (EvT.callF F18.has (.of1 (EvT.name rfl)) (law_quote (k := k) F18 n1 n2 nc hq))) rfl) ?_
  refine .cons (StT.ifF (.to (TsT.cmp (EvT.name rfl) (EvT.name rfl) (CmpR.ne (shaped_str hd) (shaped_str hd))) (by simp [PyData.eqv])) .nil) ?_
  exact h.pre (by unfold stB; walk_at "mine sub")
end
section
noncomputable def partsOf (x : Str) : List Str := let p := Txt.split x ⟨#[13, 10]⟩; p.take (-1 + (p.length : Int)).toNat
noncomputable def bLs (xs : List Str) (x : Str) : Nat := (bis (fun i => decide ((xs.getD i ⟨#[]⟩).cps.toList < x.cps.toList)) (xs.length + 1) (0, xs.length)).1
noncomputable def rotO (w : Str) : Option Str := (slO (some 1) none w).bind fun a => (slO none (some 1) w).bind fun b => if a.length + b.length ≤ 1000 then some (a ++ b) else none
noncomputable def afStep (ws : List Str) (w : Str) (a : List Int) : Option (List Int) := (rotO w).bind fun r => if ws[bLs ws r]? = some r ∧ PyData.strOk r = true ∧ a.length < 1000 ∧ ws.length < 10000 then some (a ++ [(bLs ws r : Int)]) else none
noncomputable def rwStep (x : Int) (row : List Int) : Option (List Int) := if row.length < 1000 then some (insI x row) else none
noncomputable def stC (t s : Int) (P row : List Int) (text : Str) : St := [("row", (Ls (iLs row), false)), ("parts", (Ls (iLs P), false)), ("text", (S text, false)), ("signs", (I s, false)), ("total", (I t, false))]
variable {u : U} {k : Nat} {fl : Fl} {σ' : St}
theorem strs_at {xs : List Str} {i : Nat} {d : PyData} (h : (xs.map PyData.str)[i]? = some d) : d = .str (xs.getD i ⟨#[]⟩) := by
  rw [List.getElem?_map, Option.map_eq_some_iff] at h
  obtain ⟨v, h1, rfl⟩ := h
  simp [List.getD_eq_getElem?_getD, h1]
theorem caL_str (T : Tops u) (F : FnD u "bisect_left" 13) {xs : List Str} {x : Str} (hz : xs.length ≤ 2 ^ 20) : CaT u (k + 1) "bisect_left" [Ls (xs.map .str), S x] [] [] (I (bLs xs x)) := by
  have b := bisL_none (k := k) (g := "") T (xs := xs.map .str) (dx := S x) (lt := fun i => decide ((xs.getD i ⟨#[]⟩).cps.toList < x.cps.toList)) (by simpa using hz) fun i d h => by rw [strs_at h]; exact CmpR.slt
  rw [List.length_map] at b
  exact CaT.d2 F (.inr (.inr rfl)) b gives
theorem shaped_str1 {r : Str} (h : PyData.strOk r = true) : SeqAt.shaped (.list [.str r]) = true := by
  unfold SeqAt.shaped
  simp [PyData.canLay0, PyData.canLayAll0, h, PyData.depth, PyData.depthAll]
theorem segC (T : Tops u) (F11 : FnD u "insort_right" 11) (F12 : FnD u "bisect_right" 12) (F13 : FnD u "bisect_left" 13) (F22 : Fn u "_law_words" 22) (F23 : Fn u "_law_rings" 23)
    {t s : Int} {P af rs row : List Int} {ws : List Str} {text due : Str} (hd : due.length < 10000) (hP : P = (partsOf due).map fun x => (x.length : Int)) (hps : (Txt.split due ⟨#[13, 10]⟩).length < 10000 ∧ ∀ x ∈ partsOf due, x.length < 10000)
    (hw : wordsP P = some ws) (haf : foldO (afStep ws) ws [] = some af) (hrs : ringsP af = some rs) (hrow : foldO rwStep rs [] = some row)
    (h : ExT u (k + 2) (scopeAt 26) (stC t s P row text) ((bodyAt 26).drop 19) fl σ') :
    ExT u (k + 2) (scopeAt 26) (stB t s text due) ((bodyAt 26).drop 13) fl σ' := by
  have pl : (partsOf due).length < 10000 := by
    unfold partsOf
    simp only [List.length_take]
    have := hps.1
    omega
  refine .cons (StT.assignC (σf := []) (ds := (partsOf due).map .str) (ys := iLs P) ?o ?ti ?c ?hz ?hk) ?_
  case o => exact ⟨rfl, rfl, rfl, rfl, fun y e h => by cases h⟩
  case ti =>
    have e : (partsOf due).map PyData.str = ((Txt.split due ⟨#[13, 10]⟩).map .str).take ((-1 : Int) + (((Txt.split due ⟨#[13, 10]⟩).map PyData.str).length : Int)).toNat := by unfold partsOf; simp [List.map_take]
    rw [e]
    exact IterT.list (EvT.uptoN (EvT.split rfl EvT.str rfl (by rw [sizeLine_eq]; omega)) (EvT.neg EvT.int) (by decide) (by simp; omega))
  case hz => simp; omega
  case hk => rfl
  case c =>
    have e : iLs P = (partsOf due).map fun x => .int (x.length : Int) := by
      rw [hP]
      show List.map PyData.int (List.map _ _) = _
      rw [List.map_map]; rfl
    rw [e]
    exact CompR.map PyData.str (fun x => .int (x.length : Int)) (partsOf due) fun x hx => ⟨_, AsL.name rfl, Sub.nil, EvT.lens (T.bl (by decide) rfl) (EvT.name rfl) (by have := hps.2 x hx; omega)⟩
  refine .cons (StT.assign (d := Ls (ws.map .str)) (.inl (EvT.callF F22.has (.of1 (EvT.name rfl)) ((law_words (k := 0) T F22 hw).up (by omega)))) rfl) ?_
  refine .cons (StT.assignF (.inl (EvFr.list (ds := []) .nil)) rfl) ?_
  refine .cons (StT.for_ (IterT.x (IterT.list (EvT.name rfl))) ((LoopT.items (fun a : List Int => [("after", (Ls (iLs a), true)), ("shelf", (Ls (ws.map .str), false)), ("parts", (Ls (iLs P), false)), ("text", (S text, false)), ("signs", (I s, false)), ("total", (I t, false))]) PyData.str (afStep ws) (fun w a a' e => ?_) ws [] af haf).pre (by unfold stB; walk_at "mine sub"))) ?_
  · unfold afStep at e
    rw [Option.bind_eq_some_iff] at e
    obtain ⟨r, e1, e2⟩ := e
    split at e2
    case isFalse => cases e2
    rename_i hz
    cases e2
    unfold rotO at e1
    rw [Option.bind_eq_some_iff] at e1
    obtain ⟨x, e3, e4⟩ := e1
    rw [Option.bind_eq_some_iff] at e4
    obtain ⟨y, e5, e6⟩ := e4
    split at e6
    case isFalse => cases e6
    rename_i hxy
    cases e6
    have e9 : iLs a ++ [PyData.int (bLs ws (x ++ y) : Int)] = iLs (a ++ [(bLs ws (x ++ y) : Int)]) := by simp
    have e10 : ((ws.map PyData.str).take ((bLs ws (x ++ y) : Int) + 1).toNat).drop ((bLs ws (x ++ y) : Int)).toNat = [.str (x ++ y)] := by
      have q := hz.1
      generalize bLs ws (x ++ y) = m at q ⊢
      rw [show ((m : Int) + 1).toNat = m + 1 by omega, show ((m : Int)).toNat = m by omega, ← List.map_take, ← List.map_drop]
      obtain ⟨q1, q2⟩ := List.getElem?_eq_some_iff.mp q
      rw [List.take_succ_eq_append_getElem q1, q2, List.drop_append, List.drop_eq_nil_of_le (by rw [List.length_take]; exact Nat.min_le_left _ _)]
      simp [Nat.min_eq_left (Nat.le_of_lt q1)]
    refine ⟨_, _, AsT.name rfl, .cons (StT.assign (d := I (bLs ws (x ++ y))) (.inl (EvT.callF F13.has (.of2 (EvT.name rfl) (EvT.sadd (EvT.slO e3 (EvT.name rfl) (EvT.int (i := 1)) trivial) (EvT.slO e5 (EvT.name rfl) trivial (EvT.int (i := 1))) (by rw [sizeLine_eq]; omega))) ((caL_str (k := k) T F13 (by omega)).up (by omega)))) rfl)
      (.cons (StT.ifF (.to (TsT.cmp (a := Ls [.str (x ++ y)]) (b := Ls [.str (x ++ y)]) (.to (EvT.mid (EvT.name rfl) (EvT.name rfl) (EvT.add (EvT.name rfl) EvT.int) (by omega) (by omega) (by simp; omega)) (by rw [e10])) (EvT.list (ds := [.str (x ++ y)]) (.of1 (EvT.sadd (EvT.slO e3 (EvT.name rfl) (EvT.int (i := 1)) trivial) (EvT.slO e5 (EvT.name rfl) trivial (EvT.int (i := 1))) (by rw [sizeLine_eq]; omega)))) (CmpR.ne (shaped_str1 hz.2.1) (shaped_str1 hz.2.1))) (by simp [PyData.eqv, PyData.eqvAll])) .nil)
      (.cons (StT.append (d := .int (bLs ws (x ++ y) : Int)) rfl (.inl (EvT.name rfl)) (by rw [sizeLine_eq]; simp; omega)) .nil)), ?_⟩
    rw [e9]
    walk_at "mine sub"
  refine .disown (x := "after") rfl ?_
  refine .cons (StT.assignF (.inl (EvFr.list (ds := []) .nil)) rfl) ?_
  obtain ⟨ad, dV, kV, doc, pm, an, cd, ct, F, DD⟩ := id F11
  refine .cons (StT.for_ (IterT.x (IterT.list (EvT.callF F23.has (.of1 (EvT.name rfl)) ((law_rings (k := 0) T F23 hrs).up (by omega))))) ((LoopT.items (fun a : List Int => [("row", (Ls (iLs a), true)), ("parts", (Ls (iLs P), false)), ("text", (S text, false)), ("signs", (I s, false)), ("total", (I t, false))]) PyData.int rwStep (fun x a a' e => ?_) rs [] row hrow).pre (by walk_at "mine sub"))) ?_
  · unfold rwStep at e
    split at e
    case isFalse => cases e
    rename_i hz
    cases e
    exact ⟨_, _, AsT.name rfl, .cons (StT.callMut F rfl (.inl (.of1 (EvT.name rfl))) (muI (k := k) T F11 F12 (by omega))) .nil, by walk_at "mine sub"⟩
  exact .disown (x := "row") rfl (h.pre (by unfold stC; walk_at "mine sub"))
end
section
theorem fv1 {cs sc : Scope} {σ : St} {x : Str} {d : PyData} (h1 : look σ x = some (.py d, false)) (h2 : (x, NameKind.free) ∈ cs.names) (h3 : (relabelS cs sc).names.lookup x = some .cell) (h4 : sc.names.lookup x = some .cell) :
    ∀ y e, look [(x, (.py d, false))] y = some e → ∃ d', e = (.py d', false) ∧ look σ y = some (.py d', false) ∧ (y, NameKind.free) ∈ cs.names ∧ (relabelS cs sc).names.lookup y = some .cell ∧ sc.names.lookup y = some .cell := by
  intro y e hy
  rw [look_cons] at hy
  split at hy
  · rename_i q; subst q; cases hy; exact ⟨d, rfl, h1, h2, h3, h4⟩
  · cases hy
/-- several names of the frame outside -/
theorem fvc {cs sc : Scope} {σ σf : St} {x : Str} {d : PyData} (h1 : look σ x = some (.py d, false)) (h2 : (x, NameKind.free) ∈ cs.names) (h3 : (relabelS cs sc).names.lookup x = some .cell) (h4 : sc.names.lookup x = some .cell)
    (h : ∀ y e, look σf y = some e → ∃ d', e = (.py d', false) ∧ look σ y = some (.py d', false) ∧ (y, NameKind.free) ∈ cs.names ∧ (relabelS cs sc).names.lookup y = some .cell ∧ sc.names.lookup y = some .cell) :
    ∀ y e, look ((x, (.py d, false)) :: σf) y = some e → ∃ d', e = (.py d', false) ∧ look σ y = some (.py d', false) ∧ (y, NameKind.free) ∈ cs.names ∧ (relabelS cs sc).names.lookup y = some .cell ∧ sc.names.lookup y = some .cell := by
  intro y e hy
  rw [look_cons] at hy
  split at hy
  · rename_i q; subst q; cases hy; exact ⟨d, rfl, h1, h2, h3, h4⟩
  · exact h y e hy
theorem canLay_t3s : ∀ l : List T3, PyData.canLayAll0 (l.map t3) = true
  | [] => rfl
  | p :: l => by simp only [List.map_cons, PyData.canLayAll0, PyData.canLay0, Bool.true_and, Bool.and_true]; exact canLay_t3s l
theorem depth_t3s : ∀ l : List T3, PyData.depthAll (l.map t3) ≤ 3
  | [] => by simp [PyData.depthAll]
  | p :: l => by
    have h1 : PyData.depthAll (List.map (fun x => t3 x) l) ≤ 3 := depth_t3s l
    have h4 : PyData.depthAll (List.map t3 l) ≤ 3 := depth_t3s l
    simp only [List.map_cons, PyData.depthAll]
    have : PyData.depth (t3 p) ≤ 3 := by simp [PyData.depth, PyData.depthAll]
    omega
theorem shaped_t3s (l : List T3) : SeqAt.shaped (.list (l.map t3)) = true := by
  have h := depth_t3s l
  unfold SeqAt.shaped
  simp only [PyData.canLay0, canLay_t3s, Bool.true_and, decide_eq_true_eq]
  show PyData.depth (.list (l.map t3)) ≤ 64
  unfold PyData.depth
  omega
theorem eqv_t3s (l : List T3) : PyData.eqv (.list (l.map t3)) (.list (l.map t3)) = true := PySem.SeqAt.eqv_refl _ (by simp only [PyData.canLay0, canLay_t3s])
noncomputable def tdSum (z : Int) (P : List Int) : List Int := P.map fun k => (k + z - 1).fdiv z
noncomputable def toldStep (s : Int) (P : List Int) (i : Nat) (a : List T3 × List Int) : Option (List T3 × List Int) :=
  if a.1.length < 1000 ∧ a.2.length < 1000 ∧ P.length ≤ 3 ∧ 1 ≤ i ∧ i < 1000 then
    if P.filter (fun k => decide (k.fmod (i : Int) ≠ 0)) = [] then some (a.1, a.2 ++ [(i : Int)])
    else if (∀ k ∈ P, divO (k + (i : Int) - 1) i = some ((k + (i : Int) - 1).fdiv i)) ∧ (∀ x ∈ tdSum i P, 0 ≤ x ∧ x < 1000) then (mulO (i : Int) (tdSum i P).sum).bind fun p => some (a.1 ++ [((i : Int), p, s)], a.2) else none
  else none
noncomputable def stD (t s : Int) (P row sp : List Int) : St := [("spared", (Ls (iLs sp), false)), ("row", (Ls (iLs row), false)), ("parts", (Ls (iLs P), false)), ("signs", (I s, false)), ("total", (I t, false))]
variable {u : U} {k : Nat} {fl : Fl} {σ' : St} {K : Frag} {C : Addr}
theorem segD (T : Tops u) (W : WsK u K C) (mI : Me u K C "__init__" 1) (m2 : Me u K C "longest_run_of_spaces" 2) (m3 : Me u K C "indent_level" 3) (m5 : Me u K C "not_equal_witness" 5)
    {t s : Int} {P row sp : List Int} {nm : List T3} {text : Str} (hs : 0 ≤ s ∧ s < 1000) (hx : text.length < 10000) (hc : (∀ c ∈ (text ++ ⟨#[120, 32]⟩).cps.toList, PyData.strOk ⟨#[c]⟩ = true) ∧ ∀ c ∈ (reps 32 s.toNat ++ ⟨#[120, 9]⟩).cps.toList, PyData.strOk ⟨#[c]⟩ = true)
    (hn : newP (text ++ ⟨#[120, 32]⟩) (reps 32 s.toNat ++ ⟨#[120, 9]⟩) = some nm) (ht : itO (toldStep s P) 1 (s + 1).toNat ([], []) = some (nm, sp))
    (h : ExT u (k + 2) (scopeAt 26) (stD t s P row sp) ((bodyAt 26).drop 24) fl σ') :
    ExT u (k + 2) (scopeAt 26) (stC t s P row text) ((bodyAt 26).drop 19) fl σ' := by
  have l1 : (text ++ ⟨#[120, 32]⟩ : Str).length = text.length + 2 := by rw [strLen_append]; rfl
  have l2 : (reps 32 s.toNat ++ ⟨#[120, 9]⟩ : Str).length = s.toNat + 2 := by rw [strLen_append, reps_len]; rfl
  refine .cons (StT.assign (d := Ls (nm.map t3)) (.inl (EvT.newit W T m2 m3 m5 hn (EvT.mkWs W T mI (EvT.sadd (EvT.name rfl) EvT.str (by rw [sizeLine_eq]; show _ + 2 ≤ _; omega)) (by omega) hc.1) (EvT.mkWs W T mI (EvT.sadd (EvT.smul EvT.str (EvT.name rfl) (by omega) (by omega)) EvT.str (by rw [reps_len, sizeLine_eq]; show _ + 2 ≤ _; omega)) (by omega) hc.2))) rfl) ?_
  refine .cons (StT.assignF (.inl (EvFr.list (ds := []) .nil)) rfl) (.cons (StT.assignF (.inl (EvFr.list (ds := []) .nil)) rfl) ?_)
  refine .cons (StT.for_ (IterX.range2 (a := 1) (b := s + 2) (T.bl (by decide) rfl) (.inr ⟨rfl, .of2 EvT.int (EvT.add (EvT.name rfl) EvT.int)⟩) (by omega) (by omega) (by omega) (by omega))
    ((LoopT.range (fun a : List T3 × List Int => [("told", (Ls (a.1.map t3), true)), ("spared", (Ls (iLs a.2), true)), ("named", (Ls (nm.map t3), false)), ("row", (Ls (iLs row), false)), ("parts", (Ls (iLs P), false)), ("signs", (I s, false)), ("total", (I t, false))]) (toldStep s P) (1 + (s + 2 - 1).toNat) (fun i a a' hi e => ?_) (s + 2 - 1).toNat 1 ([], []) (nm, sp) (Nat.le_refl _) (by rw [show (s + 2 - 1).toNat = (s + 1).toNat by omega]; exact ht)).pre (by unfold stC; walk_at "mine sub"))) ?_
  · unfold toldStep at e
    split at e
    case isFalse => cases e
    rename_i hz
    split at e
    · rename_i q
      cases e
      have e9 : iLs a.2 ++ [PyData.int (i : Int)] = iLs (a.2 ++ [(i : Int)]) := by simp
      refine ⟨_, _, AsT.name rfl, .cons (StT.ifF (.to (TsT.cmp (EvFr.ev (EvFr.comp (σf := [("size", (I (i : Int), false))]) ⟨rfl, rfl, rfl, rfl, fv1 rfl (by decide) rfl rfl⟩ (IterT.list (EvT.name rfl)) (CompR.filt PyData.int PyData.int (fun k => decide (k.fmod (i : Int) ≠ 0)) P fun x hx => ⟨_, AsL.name rfl, by walk_at "mine sub", .to (TsT.cmp (EvT.mod (EvT.name rfl) (EvT.name rfl) (by omega)) EvT.int (CmpR.ne rfl rfl)) (by by_cases hh : x.fmod (i : Int) = 0 <;> simp [PyData.eqv, hh]), EvT.name rfl⟩) (by simp; omega))) (EvT.list (ds := []) .nil) (CmpR.ne (shaped_ints _) rfl)) ?_) (.cons (StT.append (d := .int (i : Int)) rfl (.inl (EvT.name rfl)) (by rw [sizeLine_eq]; simp; omega)) .nil)) .nil, ?_⟩
      · rw [q]; rfl
      · rw [e9]; walk_at "mine sub"
    · rename_i q
      split at e
      case isFalse => cases e
      rename_i hd
      rw [Option.bind_eq_some_iff] at e
      obtain ⟨p, e1, e2⟩ := e
      cases e2
      have hlong := lens_sum_long (l := tdSum (i : Int) P) (by unfold tdSum; simp; omega) hd.2
      have em : iLs (tdSum (i : Int) P) = P.map fun k => .int ((k + (i : Int) - 1).fdiv i) := by
        show List.map PyData.int (List.map _ _) = _
        rw [List.map_map]; rfl
      have e9 : a.1.map t3 ++ [t3 ((i : Int), p, s)] = (a.1 ++ [((i : Int), p, s)]).map t3 := by simp
      refine ⟨_, _, AsT.name rfl, .cons (StT.ifT (.to (TsT.cmp (EvFr.ev (EvFr.comp (σf := [("size", (I (i : Int), false))]) ⟨rfl, rfl, rfl, rfl, fv1 rfl (by decide) rfl rfl⟩ (IterT.list (EvT.name rfl)) (CompR.filt PyData.int PyData.int (fun k => decide (k.fmod (i : Int) ≠ 0)) P fun x hx => ⟨_, AsL.name rfl, by walk_at "mine sub", .to (TsT.cmp (EvT.mod (EvT.name rfl) (EvT.name rfl) (by omega)) EvT.int (CmpR.ne rfl rfl)) (by by_cases hh : x.fmod (i : Int) = 0 <;> simp [PyData.eqv, hh]), EvT.name rfl⟩) (by simp; omega))) (EvT.list (ds := []) .nil) (CmpR.ne (shaped_ints _) rfl)) ?_)
        (.cons (StT.append (d := t3 ((i : Int), p, s)) rfl (.inl (EvT.tuple (ds := [.int i, .int p, .int s]) (.of3 (EvT.name rfl) (EvT.mulO e1 (EvT.name rfl) (EvT.sum (T.bl (by decide) rfl) (.to (EvFr.ev (EvFr.comp (σf := [("size", (I (i : Int), false))]) ⟨rfl, rfl, rfl, rfl, fv1 rfl (by decide) rfl rfl⟩ (IterT.list (EvT.name rfl)) (CompR.map PyData.int (fun k => .int ((k + (i : Int) - 1).fdiv i)) P fun x hx => ⟨_, AsL.name rfl, by walk_at "mine sub", EvT.divO (hd.1 x hx) (EvT.sub (EvT.add (EvT.name rfl) (EvT.name rfl)) EvT.int) (EvT.name rfl)⟩) (by simp; omega))) (by rw [← em])) hlong)) (EvT.name rfl)))) (by rw [sizeLine_eq]; simp; omega)) .nil)) .nil, ?_⟩
      · cases hl : P.filter (fun k => decide (k.fmod (i : Int) ≠ 0)) with
        | nil => exact absurd hl q
        | cons _ _ => rfl
      · rw [e9]; walk_at "mine sub"
  refine .disown (x := "told") rfl (.disown (x := "spared") rfl ?_)
  refine .cons (StT.ifF (.to (TsT.cmp (EvT.name rfl) (EvT.name rfl) (CmpR.ne (shaped_t3s _) (shaped_t3s _))) (by rw [eqv_t3s]; rfl)) .nil) ?_
  exact h.pre (by unfold stD; walk_at "mine sub")
end
section
theorem rng_map : ∀ (n : Nat) (a : Nat), rng (a : Int) 1 n = (List.range' a n).map fun j => .int (j : Int)
  | 0, _ => rfl
  | n + 1, a => by
    have := rng_map n (a + 1)
    rw [show (((a + 1 : Nat) : Int)) = (a : Int) + 1 by omega] at this
    rw [List.range'_succ, List.map_cons, ← this]; rfl
noncomputable def foundOf (s : Int) (row : List Int) : List Int := ((List.range' 0 (s + 2).toNat).filter fun (j : Nat) => decide (bLi row (j : Int) ≠ bRi row (j : Int))).map fun (j : Nat) => (j : Int)
noncomputable def quoOf (s : Int) (sp : List Int) : List Int := sp.reverse.map fun z => s.fdiv z
noncomputable def shOf (s : Int) (row sp : List Int) : List Int := sp.map fun z => (bRi row (s.fdiv z) : Int) - (bLi row (s.fdiv z) : Int)
noncomputable def stE (t s : Int) (P sp sh : List Int) : St := [("shares", (Ls (iLs sh), false)), ("spared", (Ls (iLs sp), false)), ("parts", (Ls (iLs P), false)), ("signs", (I s, false)), ("total", (I t, false))]
variable {u : U} {k : Nat} {fl : Fl} {σ' : St}
theorem segE (T : Tops u) (F12 : FnD u "bisect_right" 12) (F13 : FnD u "bisect_left" 13) {t s : Int} {P row sp : List Int} (hs : 0 ≤ s ∧ s < 1000) (hl : row.length < 10000 ∧ sp.length < 1000) (hd : ∀ z ∈ sp, divO s z = some (s.fdiv z)) (hf : foundOf s row = quoOf s sp)
    (h : ExT u (k + 2) (scopeAt 26) (stE t s P sp (shOf s row sp)) ((bodyAt 26).drop 27) fl σ') :
    ExT u (k + 2) (scopeAt 26) (stD t s P row sp) ((bodyAt 26).drop 24) fl σ' := by
  refine .cons (StT.assignC (σf := [("row", (Ls (iLs row), false))]) (ds := rng 0 1 (s + 2).toNat) (ys := iLs (foundOf s row)) ?o ?ti ?c ?hz ?hk) ?_
  case o => exact ⟨rfl, rfl, rfl, rfl, fv1 rfl (by decide) rfl rfl⟩
  case ti => exact IterT.range1 (n := s + 2) (T.bl (by decide) rfl) (EvT.add (EvT.name rfl) EvT.int) (by omega) (by omega)
  case hz =>
    rw [show rng 0 1 (s + 2).toNat = (List.range' 0 (s + 2).toNat).map fun j => .int (j : Int) from rng_map _ 0]
    simp; omega
  case hk => rfl
  case c =>
    have e : iLs (foundOf s row) = ((List.range' 0 (s + 2).toNat).filter fun (j : Nat) => decide (bLi row (j : Int) ≠ bRi row (j : Int))).map fun (j : Nat) => .int (j : Int) := by
      show List.map PyData.int (List.map _ _) = _
      rw [List.map_map]; rfl
    rw [e, show rng 0 1 (s + 2).toNat = (List.range' 0 (s + 2).toNat).map fun j => .int (j : Int) from rng_map _ 0]
    exact CompR.filt (fun j : Nat => .int (j : Int)) (fun j : Nat => .int (j : Int)) _ _ fun j hj => ⟨_, AsL.name rfl, by walk_at "mine sub", .to (TsT.cmp (EvT.callF F13.has (.of2 (EvT.name rfl) (EvT.name rfl)) (caL_int (k := k + 1) T F13 (by omega))) (EvT.callF F12.has (.of2 (EvT.name rfl) (EvT.name rfl)) (caR_int (k := k + 1) T F12 (by omega))) (CmpR.ne rfl rfl)) (by by_cases hh : bLi row (j : Int) = bRi row (j : Int) <;> simp [PyData.eqv, hh]; omega), EvT.name rfl⟩
  have eq : iLs (quoOf s sp) = sp.reverse.map fun z => .int (s.fdiv z) := by
    show List.map PyData.int (List.map _ _) = _
    rw [List.map_map]; rfl
  refine .cons (StT.ifF (.to (TsT.cmp (a := Ls (iLs (foundOf s row))) (b := Ls (iLs (quoOf s sp))) (EvT.name rfl) (.to (EvFr.ev (EvFr.comp (ds := iLs sp.reverse) (σf := [("signs", (I s, false))]) ⟨rfl, rfl, rfl, rfl, fv1 rfl (by decide) rfl rfl⟩ (IterT.list (.to (EvT.rev (EvT.name rfl) (EvT.neg EvT.int) (by simp; omega)) (by simp))) (CompR.map PyData.int (fun z => .int (s.fdiv z)) sp.reverse fun x hx => ⟨_, AsL.name rfl, by walk_at "mine sub", EvT.divO (hd x (List.mem_reverse.mp hx)) (EvT.name rfl) (EvT.name rfl)⟩) (by simp; omega))) (by rw [← eq])) (CmpR.ne (shaped_ints _) (shaped_ints _))) ?_) .nil) ?_
  · show (!PyData.eqvAll (iLs _) (iLs _)) = false
    rw [hf, eqv_ints]; simp
  have e2 : iLs (shOf s row sp) = sp.map fun z => .int ((bRi row (s.fdiv z) : Int) - (bLi row (s.fdiv z) : Int)) := by
    show List.map PyData.int (List.map _ _) = _
    rw [List.map_map]; rfl
  refine .cons (StT.assign (d := Ls (iLs (shOf s row sp))) (.inl (EvFr.ev (EvFr.comp (σf := [("row", (Ls (iLs row), false)), ("signs", (I s, false))]) (ds := iLs sp) (ys := iLs (shOf s row sp)) ?o2 ?ti2 ?c2 ?hz2))) rfl (by rintro ⟨sc', _, _, _, _, _, _, _, _⟩ he; have h9 : sc' = _ := he.scope; subst h9; rfl)) ?_
  case o2 => exact ⟨rfl, rfl, rfl, rfl, fvc rfl (by decide) rfl rfl (fv1 rfl (by decide) rfl rfl)⟩
  case ti2 => exact IterT.list (EvT.name rfl)
  case hz2 => simp; omega
  case c2 =>
    rw [e2]
    exact CompR.map PyData.int (fun z => .int ((bRi row (s.fdiv z) : Int) - (bLi row (s.fdiv z) : Int))) sp fun x hx => ⟨_, AsL.name rfl, by walk_at "mine sub", EvT.sub (EvT.callF F12.has (.of2 (EvT.name rfl) (EvT.divO (hd x hx) (EvT.name rfl) (EvT.name rfl))) (caR_int (k := k + 1) T F12 (by omega))) (EvT.callF F13.has (.of2 (EvT.name rfl) (EvT.divO (hd x hx) (EvT.name rfl) (EvT.name rfl))) (caL_int (k := k + 1) T F13 (by omega)))⟩
  exact h.pre (by unfold stE stD; walk_at "mine sub")
end
section
theorem sum_long {l : List Int} (hl : l.length ≤ 1000) (h : ∀ x ∈ l, 0 ≤ x ∧ x < 1000) : ∀ j, j < l.length → InLong (l.getD j 0) ∧ InLong ((l.take (j + 1)).sum) := by
  intro j hj
  have h2 : l.getD j 0 ∈ l := by rw [List.getD_eq_getElem?_getD, List.getElem?_eq_getElem hj]; exact List.getElem_mem hj
  have h3 := h _ h2
  have h4 := sum_bd (m := 1000) (by decide) (l.take (j + 1)) fun y hy => h y (List.mem_of_mem_take hy)
  have h5 : (l.take (j + 1)).length ≤ 1000 := by simp; omega
  unfold InLong
  constructor <;> constructor <;> omega
theorem eqv_zero (x : Int) : PyData.eqv (.int x) (.int 0) = decide (x = 0) := by by_cases h : x = 0 <;> simp [PyData.eqv, h]
noncomputable def shAt (sp sh : List Int) (j : Nat) : List Int := ((List.range' 0 sp.length).filter fun i => decide ((j : Int).fmod (sp.getD i 1) = 0)).map fun i => sh.getD i 0
noncomputable def figsOf (sp sh : List Int) (s : Int) : List Int := (List.range' 0 s.toNat).map fun j => (shAt sp sh j).sum
noncomputable def beStep (b : Int) (d : Int) (a : Int) : Option Int := (prodP d b).bind fun p => mulO a p
variable {u : U} {k : Nat} {fl : Fl} {σ' : St}
theorem segF (T : Tops u) (DD : Divs u) (F6 : FnN u "_int2digits" 6 1) (F24 : Fn u "_law_divided" 24) (F25 : Fn u "_law_product" 25)
    {t s t5 t9 e37 e b be top v bs wh lf pw : Int} {P sp sh : List Int} (hs : 0 ≤ s ∧ s < 1000) (hl : sp.length < 100 ∧ sh.length = sp.length ∧ (∀ x ∈ sh, 0 ≤ x ∧ x < 1000) ∧ (∀ z ∈ sp, 1 ≤ z))
    (h5 : divO t 5 = some t5) (h9 : t5.fmod 9 = t9) (h37 : mulO 37 t9 = some e37) (he : 8 + e37 = e) (hb : powO 2 e = some b) (hbe : foldO (beStep b) P 1 = some be) (htop : prodP s b = some top)
    (hv : ldv top be (t.fmod 3) = some (v, 0)) (hbs : powO b s = some bs) (hwl : ldv v (bs - 1) ((t + 1).fmod 3) = some (wh, lf)) (hpw : mulO wh (bs - 1) = some pw) (hsum : pw + lf = v) (hd : i2d lf e = some (iLs (figsOf sp sh s))) :
    ExT u (k + 48) (scopeAt 26) (stE t s P sp sh) ((bodyAt 26).drop 27) (.ret (B true)) [] := by
  subst h9
  subst he
  refine .cons (StT.assign (d := I b) (.inl (EvT.powO hb EvT.int (EvT.add EvT.int (EvT.mulO h37 EvT.int (EvT.mod (EvT.divO h5 (EvT.name rfl) EvT.int) EvT.int (by decide)))))) rfl) ?_
  refine .cons (StT.assign (d := I 1) (.inl EvT.int) rfl) ?_
  refine .cons (StT.for_ (IterT.x (IterT.list (EvT.name rfl))) ((LoopT.items (fun a : Int => [("below", (I a, false)), ("base", (I b, false)), ("shares", (Ls (iLs sh), false)), ("spared", (Ls (iLs sp), false)), ("signs", (I s, false)), ("total", (I t, false))]) PyData.int (beStep b) (fun d a a' e => ?_) P 1 be hbe).pre (by unfold stE; walk_at "mine sub"))) ?_
  · unfold beStep at e
    rw [Option.bind_eq_some_iff] at e
    obtain ⟨p, e1, e2⟩ := e
    exact ⟨_, _, AsT.name rfl, .cons (StT.assign (d := I a') (.inl (EvT.mulO e2 (EvT.name rfl) (EvT.callF F25.has (.of2 (EvT.name rfl) (EvT.name rfl)) ((law_product (k := 0) T F25 e1).up (by omega))))) rfl) .nil, by walk_at "mine sub"⟩
  have hrest : (0 : Int) = (v, (0 : Int)).2 := rfl
  refine .cons (StT.assignT (.inl (EvT.callF F24.has (.of3 (EvT.callF F25.has (.of2 (EvT.name rfl) (EvT.name rfl)) ((law_product (k := 0) T F25 htop).up (by omega))) (EvT.name rfl) (EvT.mod (EvT.name rfl) EvT.int (by decide))) (law_ldv (k := k + 1) DD F24 hv))) (AsT.tuple (.cons (AsT.name rfl) (.cons (AsT.name rfl) .nil)))) ?_
  refine .cons (StT.ifF (.to (TsT.cmp (EvT.name rfl) EvT.int (CmpR.ne rfl rfl)) (by simp [PyData.eqv])) .nil) ?_
  refine .cons (StT.assignT (.inl (EvT.callF F24.has (.of3 (EvT.name rfl) (EvT.sub (EvT.powO hbs (EvT.name rfl) (EvT.name rfl)) EvT.int) (EvT.mod (EvT.add (EvT.name rfl) EvT.int) EvT.int (by decide))) (law_ldv (k := k + 1) DD F24 hwl))) (AsT.tuple (.cons (AsT.name rfl) (.cons (AsT.name rfl) .nil)))) ?_
  refine .cons (StT.assignW (σf := [("shares", (Ls (iLs sh), false)), ("spared", (Ls (iLs sp), false))]) (ds := rng 0 1 s.toNat) (ys := iLs (figsOf sp sh s)) ?o ?ti ?c ?hz ?hk) ?_
  case o => exact ⟨rfl, rfl, fun _ _ => rfl, fun _ => rfl, rfl, rfl, rfl, rfl, fvc rfl (by decide) rfl rfl (fv1 rfl (by decide) rfl rfl)⟩
  case ti => exact IterT.range1 (n := s) (T.bl (by decide) rfl) (EvT.name rfl) (by omega) (by omega)
  case hz =>
    rw [show rng 0 1 s.toNat = (List.range' 0 s.toNat).map fun j => .int (j : Int) from rng_map _ 0]
    simp; omega
  case hk => rfl
  case c =>
    have e : iLs (figsOf sp sh s) = (List.range' 0 s.toNat).map fun j => .int (shAt sp sh j).sum := by
      show List.map PyData.int (List.map _ _) = _
      rw [List.map_map]; rfl
    rw [e, show rng 0 1 s.toNat = (List.range' 0 s.toNat).map fun j => .int (j : Int) from rng_map _ 0]
    refine CompW.map (fun j : Nat => .int (j : Int)) (fun j => .int (shAt sp sh j).sum) _ fun j hj => ?_
    have hln : (shAt sp sh j).length ≤ 1000 := by
      unfold shAt
      rw [List.length_map]
      refine Nat.le_trans (List.length_filter_le _ _) ?_
      simp; omega
    have hin : ∀ x ∈ shAt sp sh j, 0 ≤ x ∧ x < 1000 := fun x hx => by
      obtain ⟨i, hi, rfl⟩ := List.mem_map.mp hx
      have h2 := List.mem_range'_1.mp (List.mem_filter.mp hi).1
      have h3 : i < sh.length := by omega
      refine hl.2.2.1 _ ?_
      rw [List.getD_eq_getElem?_getD, List.getElem?_eq_getElem h3]; exact List.getElem_mem h3
    refine EvT.sum (T.bl (by decide) rfl) (EvFr.ev (EvFr.comp (σf := [("place", (I (j : Int), false)), ("shares", (Ls (iLs sh), false)), ("spared", (Ls (iLs sp), false))]) (ds := rng 0 1 sp.length) (ys := iLs (shAt sp sh j)) ?oi ?tii ?ci ?hzi)) (sum_long hln hin)
    case oi => exact ⟨rfl, rfl, rfl, rfl, fvc rfl (by decide) rfl rfl (fvc rfl (by decide) rfl rfl (fv1 rfl (by decide) rfl rfl))⟩
    case tii => exact IterT.range1 (n := (sp.length : Int)) (T.bl (by decide) rfl) (.toI (EvT.lenl (T.bl (by decide) rfl) (EvT.name rfl) (by simp; omega)) (by simp)) (by omega) (by omega)
    case hzi =>
      rw [show rng 0 1 sp.length = (List.range' 0 sp.length).map fun j => .int (j : Int) from rng_map _ 0]
      simp; omega
    case ci =>
      have e2 : iLs (shAt sp sh j) = ((List.range' 0 sp.length).filter fun i => decide ((j : Int).fmod (sp.getD i 1) = 0)).map fun i => .int (sh.getD i 0) := by
        show List.map PyData.int (List.map _ _) = _
        rw [List.map_map]; rfl
      rw [e2, show rng 0 1 sp.length = (List.range' 0 sp.length).map fun j => .int (j : Int) from rng_map _ 0]
      refine CompR.filt (fun i : Nat => .int (i : Int)) (fun i => .int (sh.getD i 0)) _ _ fun i hi => ?_
      have h2 := List.mem_range'_1.mp hi
      have h3 : i < sp.length := by omega
      have g1 : (iLs sp)[(i : Int).toNat]? = some (.int (sp.getD i 1)) := by simp [List.getD_eq_getElem?_getD, List.getElem?_eq_getElem h3]
      have g2 : (iLs sh)[(i : Int).toNat]? = some (.int (sh.getD i 0)) := by
        have h4 : i < sh.length := by omega
        simp [List.getD_eq_getElem?_getD, List.getElem?_eq_getElem h4]
      have g3 : 1 ≤ sp.getD i 1 := hl.2.2.2 _ (by rw [List.getD_eq_getElem?_getD, List.getElem?_eq_getElem h3]; exact List.getElem_mem h3)
      exact ⟨_, AsL.name rfl, by walk_at "mine sub", .to (TsT.cmp (EvT.mod (EvT.name rfl) (EvT.item (d := .int (sp.getD i 1)) (EvT.name rfl) (EvT.name rfl) (by omega) (by omega) g1) (by omega)) EvT.int (CmpR.eq rfl rfl)) (eqv_zero _), EvT.item (d := .int (sh.getD i 0)) (EvT.name rfl) (EvT.name rfl) (by omega) (by omega) g2⟩
  refine .stop (StT.ret (.inl (.to (EvT.and2 (b := true) (c := true) (.to (EvT.cmp (EvT.add (EvT.mulO hpw (EvT.name rfl) (EvT.sub (EvT.powO hbs (EvT.name rfl) (EvT.name rfl)) EvT.int)) (EvT.name rfl)) (EvT.name rfl) (CmpR.eq rfl rfl)) ?_) fun _ => .to (EvT.cmp (EvT.callF F6.has (.of2 (EvT.name rfl) (EvT.add EvT.int (EvT.mulO h37 EvT.int (EvT.mod (EvT.divO h5 (EvT.name rfl) EvT.int) EvT.int (by decide))))) ((law_i2d (k := 0) T F6 hd).up (by omega))) (EvT.name rfl) (CmpR.eq (shaped_ints _) (shaped_ints _))) ?_) rfl))) nofun
  · simp [PyData.eqv, hsum]
  · show B (PyData.eqvAll (iLs _) (iLs _)) = B true
    rw [eqv_ints]; simp
end
section
set_option maxRecDepth 100000
/-! the same functions, with words and lists worked out before they are handed on -/
noncomputable def fL {α : Type} : List Nat → (List Nat → α) → α
  | [], f => f []
  | c :: l, f => fN c fun c => fL l fun l => f (c :: l)
theorem fL_eq {α : Type} : ∀ (l : List Nat) (f : List Nat → α), fL l f = f l
  | [], _ => rfl
  | c :: l, f => by unfold fL; rw [fN_eq, fL_eq l]
noncomputable def fS {α : Type} (x : Str) (f : Str → α) : α := fL x.cps.toList fun l => f ⟨l.toArray⟩
theorem fS_eq {α : Type} (x : Str) (f : Str → α) : fS x f = f x := by unfold fS; rw [fL_eq]
noncomputable def fIs {α : Type} : List Int → (List Int → α) → α
  | [], f => f []
  | c :: l, f => fI c fun c => fIs l fun l => f (c :: l)
theorem fIs_eq {α : Type} : ∀ (l : List Int) (f : List Int → α), fIs l f = f l
  | [], _ => rfl
  | c :: l, f => by unfold fIs; rw [fI_eq, fIs_eq l]
noncomputable def fWs {α : Type} : List Wl → (List Wl → α) → α
  | [], f => f []
  | w :: l, f => fS w.1 fun a => fIs w.2 fun b => fWs l fun l => f ((a, b) :: l)
theorem fWs_eq {α : Type} : ∀ (l : List Wl) (f : List Wl → α), fWs l f = f l
  | [], _ => rfl
  | w :: l, f => by unfold fWs; rw [fS_eq, fIs_eq, fWs_eq l]
noncomputable def fBs {α : Type} : List Bool → (List Bool → α) → α
  | [], f => f []
  | true :: l, f => fBs l fun l => f (true :: l)
  | false :: l, f => fBs l fun l => f (false :: l)
theorem fBs_eq {α : Type} : ∀ (l : List Bool) (f : List Bool → α), fBs l f = f l
  | [], _ => rfl
  | true :: l, f => by unfold fBs; rw [fBs_eq l]
  | false :: l, f => by unfold fBs; rw [fBs_eq l]
noncomputable def itOF {α : Type} (fr : α → (α → Option α) → Option α) (f : Nat → α → Option α) : Nat → Nat → α → Option α
  | _, 0, a => some a
  | i, n + 1, a => match f i a with
    | none => none
    | some x => fr x fun x => itOF fr f (i + 1) n x
theorem itOF_eq {α : Type} {fr : α → (α → Option α) → Option α} (h : ∀ x g, fr x g = g x) (f : Nat → α → Option α) : ∀ n i a, itOF fr f i n a = itO f i n a
  | 0, _, _ => rfl
  | n + 1, i, a => by
    unfold itOF itO
    cases f i a with
    | none => rfl
    | some x => exact (h x _).trans (itOF_eq h f n (i + 1) x)
noncomputable def ltF : List Nat → List Nat → Bool
  | _, [] => false
  | [], _ :: _ => true
  | a :: l, b :: m => if a = b then ltF l m else Nat.blt a b
theorem ltF_eq : ∀ l m, ltF l m = decide (l < m)
  | l, [] => by unfold ltF; simp
  | [], b :: m => by unfold ltF; simp
  | a :: l, b :: m => by
    unfold ltF
    rw [ltF_eq l m]
    split
    · rename_i h
      subst h
      rw [decide_eq_decide, List.cons_lt_cons_iff]
      simp
    · rename_i h
      have : Nat.blt a b = decide (a < b) := by
        by_cases q : a < b
        · rw [decide_eq_true q]; exact Nat.blt_eq.mpr q
        · rw [decide_eq_false q]; exact Bool.eq_false_iff.mpr fun e => q (Nat.blt_eq.mp e)
      rw [this, decide_eq_decide, List.cons_lt_cons_iff]
      simp [h]
noncomputable def bisF (up : Nat → Bool) : Nat → Nat × Nat → Nat
  | 0, a => a.1
  | f + 1, a => fN a.1 fun lo => fN a.2 fun hi => if lo < hi then (if up ((lo + hi) / 2) then bisF up f ((lo + hi) / 2 + 1, hi) else bisF up f (lo, (lo + hi) / 2)) else lo
theorem bisF_eq (up : Nat → Bool) : ∀ f a, bisF up f a = (bis up f a).1
  | 0, _ => rfl
  | f + 1, (lo, hi) => by
    unfold bisF bis
    rw [fN_eq, fN_eq]
    dsimp only
    split
    · split
      · exact bisF_eq up f _
      · exact bisF_eq up f _
    · rfl
noncomputable def bLsF (xs : List Str) (x : Str) : Nat := bisF (fun i => ltF (xs.getD i ⟨#[]⟩).cps.toList x.cps.toList) (xs.length + 1) (0, xs.length)
theorem bLsF_eq (xs : List Str) (x : Str) : bLsF xs x = bLs xs x := by
  unfold bLsF bLs
  rw [bisF_eq]
  congr 2
  funext i
  exact ltF_eq _ _
noncomputable def afF (ws : List Str) : List Str → List Int → Option (List Int)
  | [], a => some a
  | w :: l, a => match rotO w with
    | none => none
    | some r => fS r fun r => fN (bLsF ws r) fun i => if ws[i]? = some r ∧ PyData.strOk r = true ∧ a.length < 1000 ∧ ws.length < 10000 then afF ws l (a ++ [(i : Int)]) else none
theorem afF_eq (ws : List Str) : ∀ l a, afF ws l a = foldO (afStep ws) l a
  | [], _ => rfl
  | w :: l, a => by
    unfold afF foldO afStep
    cases rotO w with
    | none => rfl
    | some r =>
      simp only [fS_eq, fN_eq, bLsF_eq, Option.bind_some]
      split
      · exact afF_eq ws l _
      · rfl
noncomputable def wordsF (counts : List Int) : Option (List Str) :=
  if counts.length ≤ 3 ∧ (∀ x ∈ counts, 0 ≤ x ∧ x < 1000) then (itOF fWs wdS 0 counts.sum.toNat [(⟨#[]⟩, counts)]).bind fun ws => if ws.length < 10000 then some (ws.map (·.1)) else none else none
theorem wordsF_eq (c : List Int) : wordsF c = wordsP c := by unfold wordsF wordsP; rw [itOF_eq fWs_eq]
noncomputable def fSs {α : Type} : List Str → (List Str → α) → α
  | [], f => f []
  | w :: l, f => fS w fun a => fSs l fun l => f (a :: l)
theorem fSs_eq {α : Type} : ∀ (l : List Str) (f : List Str → α), fSs l f = f l
  | [], _ => rfl
  | w :: l, f => by unfold fSs; rw [fS_eq, fSs_eq l]
noncomputable def fRg (x : List Bool × List Int) (f : List Bool × List Int → Option (List Bool × List Int)) : Option (List Bool × List Int) := fBs x.1 fun b => fIs x.2 fun l => f (b, l)
theorem fRg_eq (x : List Bool × List Int) (f : List Bool × List Int → Option (List Bool × List Int)) : fRg x f = f x := by unfold fRg; rw [fBs_eq, fIs_eq]
noncomputable def ringsF (after : List Int) : Option (List Int) := if after.length < 1000 then (itOF fRg (rgOut after) 0 after.length (List.replicate after.length false, [])).bind fun x => some x.2 else none
theorem ringsF_eq (a : List Int) : ringsF a = ringsP a := by unfold ringsF ringsP; rw [itOF_eq fRg_eq]
noncomputable def rwF : List Int → List Int → Option (List Int)
  | [], a => some a
  | x :: l, a => if a.length < 1000 then fIs (insI x a) fun a => rwF l a else none
theorem rwF_eq : ∀ l a, rwF l a = foldO rwStep l a
  | [], _ => rfl
  | x :: l, a => by
    unfold rwF foldO rwStep
    split
    · rw [fIs_eq]; exact rwF_eq l _
    · rfl
noncomputable def textOf (L : List Int) : Str := L.foldl (fun a d => a ++ reps 32 (d - 1).toNat ++ ⟨#[9]⟩) ⟨#[]⟩
/-- a shape: signs, lengths, sizes that are spared, shares -/
noncomputable abbrev Sh := Int × List Int × List Int × List Int
noncomputable def okW (e : Sh) : Bool := match wordsF e.2.1 with
  | none => false
  | some ws => fSs ws fun ws => match afF ws ws [] with
    | none => false
    | some af => fIs af fun af => match ringsF af with
      | none => false
      | some rs => match rwF rs [] with
        | none => false
        | some row => fIs row fun row => fS (textOf e.2.1) fun tx => decide (tx.length < 10000) && (tx ++ ⟨#[120, 32]⟩ : Str).cps.toList.all (fun c => PyData.strOk ⟨#[c]⟩) && (reps 32 e.1.toNat ++ ⟨#[120, 9]⟩ : Str).cps.toList.all (fun c => PyData.strOk ⟨#[c]⟩) &&
          (match newP (tx ++ ⟨#[120, 32]⟩) (reps 32 e.1.toNat ++ ⟨#[120, 9]⟩), itO (toldStep e.1 e.2.1) 1 (e.1 + 1).toNat ([], []) with
            | some nm, some x => decide (x.1 = nm) && decide (x.2 = e.2.2.1)
            | _, _ => false) &&
          decide (row.length < 10000) && decide (foundOf e.1 row = quoOf e.1 e.2.2.1) && decide (shOf e.1 row e.2.2.1 = e.2.2.2) &&
          decide (e.2.2.1.length < 100) && e.2.2.2.all (fun x => decide (0 ≤ x ∧ x < 1000)) && e.2.2.1.all (fun z => decide (1 ≤ z) && decide (divO e.1 z = some (e.1.fdiv z))) && decide (0 ≤ e.1 ∧ e.1 < 1000)
end
section
set_option maxRecDepth 100000
/-! the numbers -/
noncomputable def powF (a b : Int) : Option Int := if 0 ≤ b ∧ b ≤ 1000 ∧ a.natAbs < 2 ^ 65536 then some (a ^ b.toNat) else powO a b
theorem powF_eq (a b : Int) : powF a b = powO a b := by
  unfold powF
  split
  · rename_i h
    unfold powO
    have := (bits_le a 65536).mpr h.2.2
    have h1 : (Builtin.Int.intBits a : Int) ≤ 65536 := by omega
    have h2 : (Builtin.Int.intBits a : Int) * b ≤ 134217728 := by
      have := Int.mul_le_mul_of_nonneg_right h1 h.1
      omega
    rw [if_pos ⟨h.1, h2⟩]
  · rfl
noncomputable def prStepF (base : Int) (i : Nat) (v : Int) : Option Int := bI (powF base i) fun x => mulF v (x - 1)
theorem prStepF_eq : prStepF = prStep := by funext b i v; unfold prStepF prStep; simp only [bI_eq, powF_eq, mulF_eq]
noncomputable def prodF (most base : Int) : Option Int := if 0 ≤ most ∧ most < 1000 then itOI (prStepF base) 1 most.toNat 1 else none
theorem prodF_eq (m b : Int) : prodF m b = prodP m b := by unfold prodF prodP; rw [itOI_eq, prStepF_eq]
noncomputable def beF (b : Int) : List Int → Int → Option Int
  | [], a => some a
  | d :: l, a => bI (prodF d b) fun p => bI (mulF a p) fun a => beF b l a
theorem beF_eq (b : Int) : ∀ l a, beF b l a = foldO (beStep b) l a
  | [], _ => rfl
  | d :: l, a => by
    unfold beF foldO beStep
    simp only [bI_eq, prodF_eq, mulF_eq, beF_eq b l]
    cases prodP d b with
    | none => rfl
    | some p => rfl
noncomputable def eqIs : List PyData → List Int → Bool
  | [], [] => true
  | .int a :: l, b :: m => decide (a = b) && eqIs l m
  | _, _ => false
theorem eqIs_eq : ∀ (l : List PyData) (m : List Int), eqIs l m = true → l = iLs m
  | [], [], _ => rfl
  | .int a :: l, b :: m, h => by
    unfold eqIs at h
    rw [Bool.and_eq_true, decide_eq_true_eq] at h
    rw [h.1, eqIs_eq l m h.2]; rfl
  | [], _ :: _, h => by cases h
  | .int a :: l, [], h => by cases h
  | .none :: _, _, h => by cases h
  | .bool _ :: _, _, h => by cases h
  | .str _ :: _, _, h => by cases h
  | .list _ :: _, _, h => by cases h
  | .tuple _ :: _, _, h => by cases h
noncomputable def okV (e : Sh) (ee k3 b be top bs : Int) : Bool := match ldvF top be k3 with
  | none => false
  | some x => fI x.1 fun v => decide (x.2 = 0) && (match ldvF v (bs - 1) ((k3 + 1).fmod 3) with
    | none => false
    | some y => fI y.1 fun wh => fI y.2 fun lf => (match mulF wh (bs - 1) with
      | none => false
      | some pw => decide (pw + lf = v) && (match i2dF lf ee with
        | none => false
        | some ys => eqIs ys (figsOf e.2.2.1 e.2.2.2 e.1))))
noncomputable def okN (e : Sh) (i : Nat) (k3 : Int) : Bool := fN (2 ^ (8 + 37 * i)) fun b => match beF (b : Int) e.2.1 1, prodF e.1 (b : Int), powF (b : Int) e.1 with
  | some be, some top, some bs => fI be fun be => fI top fun top => fI bs fun bs => okV e (8 + 37 * (i : Int)) k3 (b : Int) be top bs
  | _, _, _ => false
/-- what is left by 3 -/
noncomputable def k3Of (s : Int) (i : Nat) : Int := (5 * (i : Int) + (s + 4).fmod 5).fmod 3
end
section
set_option maxRecDepth 100000
/-! the pattern's machine, with its numbers worked out after each step -/
noncomputable def fB {α : Type} (b : Bool) (f : Bool → α) : α := match b with
  | true => f true
  | false => f false
theorem fB_eq {α : Type} (b : Bool) (f : Bool → α) : fB b f = f b := by cases b <;> rfl
noncomputable def fFr {α : Type} (x : Sre.Frame) (f : Sre.Frame → α) : α := match x with
  | ⟨w, pc, pos, o, c, k, l, b⟩ => fN pc fun pc => fN pos fun pos => fB o fun o => f ⟨w, pc, pos, o, c, k, l, b⟩
theorem fFr_eq {α : Type} (x : Sre.Frame) (f : Sre.Frame → α) : fFr x f = f x := by
  obtain ⟨w, pc, pos, o, c, k, l, b⟩ := x
  show fN pc (fun pc => fN pos fun pos => fB o fun o => f ⟨w, pc, pos, o, c, k, l, b⟩) = _
  rw [fN_eq, fN_eq, fB_eq]
noncomputable def fFrs {α : Type} : List Sre.Frame → (List Sre.Frame → α) → α
  | [], f => f []
  | x :: l, f => fFr x fun x => fFrs l fun l => f (x :: l)
theorem fFrs_eq {α : Type} : ∀ (l : List Sre.Frame) (f : List Sre.Frame → α), fFrs l f = f l
  | [], _ => rfl
  | x :: l, f => by unfold fFrs; rw [fFr_eq, fFrs_eq l]
noncomputable def fM {α : Type} (m : Sre.M) (f : Sre.M → α) : α := match m with
  | ⟨code, text, lim, start, lastStart, wt, ma, pc, pos, handed, om, marks, lm, li, loops, inner, frames, weight, answer, seen, outcome⟩ =>
    fN start fun start => fB ma fun ma => fN pc fun pc => fN pos fun pos => fN handed fun handed => fB om fun om => fFrs frames fun frames => fN weight fun weight =>
    f ⟨code, text, lim, start, lastStart, wt, ma, pc, pos, handed, om, marks, lm, li, loops, inner, frames, weight, answer, seen, outcome⟩
theorem fM_eq {α : Type} (m : Sre.M) (f : Sre.M → α) : fM m f = f m := by
  obtain ⟨code, text, lim, start, lastStart, wt, ma, pc, pos, handed, om, marks, lm, li, loops, inner, frames, weight, answer, seen, outcome⟩ := m
  unfold fM
  simp only [fN_eq, fB_eq, fFrs_eq]
noncomputable def rfK {α : Type} : Nat → Sre.M → (Sre.M → α) → α
  | 0, m, f => f m
  | n + 1, m, f => if m.outcome.isSome then f m else fM m.step fun m' => rfK n m' f
theorem rfK_eq {α : Type} : ∀ (n : Nat) (m : Sre.M) (f : Sre.M → α), rfK n m f = f (m.runFor n)
  | 0, _, _ => rfl
  | n + 1, m, f => by
    unfold rfK Sre.M.runFor
    split
    · rfl
    · rw [fM_eq, rfK_eq n]
noncomputable def drvF : Nat → Sre.M → Option Sre.M
  | 0, _ => none
  | n + 1, m => rfK PySem.Builtin.Re.reTurnSteps m fun m' => if m'.outcome.isSome then some m' else drvF n m'
theorem drvF_eq : ∀ n m, drvF n m = drv n m
  | 0, _ => rfl
  | n + 1, m => by unfold drvF drv; rw [rfK_eq, drvF_eq n]
noncomputable def runEndF (m : Sre.M) : Option (Option Sre.M) :=
  match drvF 2000 m with
  | some m' => match m'.outcome with
    | some .matched => some (some m')
    | some .failed => some none
    | _ => none
  | none => none
theorem runEndF_eq (m : Sre.M) : runEndF m = runEnd m := by unfold runEndF runEnd; rw [drvF_eq]; all_goals rfl
noncomputable def subRunF (code : Array Nat) (x y : Str) : Nat → Nat → Bool → List Str → Option Str
  | 0, _, _, _ => none
  | n + 1, start, must, acc =>
    match runEndF (Sre.forSearch code x.cps 0 start x.cps.size must) with
    | none => none
    | some (some m) => fN m.handed fun hd => fN m.start fun st => fB (hd == st) fun mu => subRunF code x y n hd mu ((if start < st then acc ++ [cut x start st] else acc) ++ [y])
    | some none => subEnd (if start < x.cps.size then acc ++ [cut x start x.cps.size] else acc)
theorem subRunF_eq (code : Array Nat) (x y : Str) : ∀ n start must acc, subRunF code x y n start must acc = subRun code x y n start must acc
  | 0, _, _, _ => rfl
  | n + 1, start, must, acc => by
    unfold subRunF subRun
    rw [runEndF_eq]
    cases runEnd (Sre.forSearch code x.cps 0 start x.cps.size must) with
    | none => rfl
    | some r =>
      cases r with
      | none => rfl
      | some m => simp only [fN_eq, fB_eq, subRunF_eq code x y n]
noncomputable def subPF (code : Array Nat) (x y : Str) : Option Str := if x.length ≤ sizeLine then subRunF code x y 1000 0 false [] else none
theorem subPF_eq (code : Array Nat) (x y : Str) : subPF code x y = subP code x y := by unfold subPF subP; rw [subRunF_eq]
noncomputable def quoteF (x : Str) : Option Str := (subPF code2 x ⟨#[13, 10]⟩).bind fun y => fS y fun y => subPF code1 y ⟨#[46, 46]⟩
theorem quoteF_eq (x : Str) : quoteF x = quoteP x := by unfold quoteF quoteP; simp only [subPF_eq, fS_eq]
noncomputable def okM (k3 : Int) (L : List Int) : Bool := match itO (mStep k3 L) 0 L.length (⟨#[]⟩, ⟨#[]⟩, ⟨#[]⟩) with
  | some (mail, due, text) => fS mail fun mail => fS due fun due => decide (quoteF mail = some due) && decide (due.length < 10000) && PyData.strOk due && decide (L.length < 64) && decide ((partsOf due).map (fun x => (x.length : Int)) = L) &&
      decide ((Txt.split due ⟨#[13, 10]⟩).length < 10000) && (partsOf due).all (fun x => decide (x.length < 10000)) && decide (text = textOf L)
  | none => false
/-- all that is asked of a shape -/
noncomputable def okSh (e : Sh) : Bool := okW e && (List.range 9).all (fun i => okN e i (k3Of e.1 i)) && okM 0 e.2.1 && okM 1 e.2.1 && okM 2 e.2.1
end
section
set_option maxRecDepth 100000
noncomputable def tab4 : List Sh := [(4, [1, 1, 2], [1], [3]), (4, [1, 2, 1], [1], [3]), (4, [1, 3], [1], [1]), (4, [2, 1, 1], [1], [3]), (4, [2, 2], [1, 2], [1, 1]), (4, [3, 1], [1], [1])]
theorem ok4_0 : okSh (4, [1, 1, 2], [1], [3]) = true := by decide +kernel
theorem ok4_1 : okSh (4, [1, 2, 1], [1], [3]) = true := by decide +kernel
theorem ok4_2 : okSh (4, [1, 3], [1], [1]) = true := by decide +kernel
theorem ok4_3 : okSh (4, [2, 1, 1], [1], [3]) = true := by decide +kernel
theorem ok4_4 : okSh (4, [2, 2], [1, 2], [1, 1]) = true := by decide +kernel
theorem ok4_5 : okSh (4, [3, 1], [1], [1]) = true := by decide +kernel
theorem ok4 : ∀ e ∈ tab4, okSh e = true := List.forall_mem_cons.mpr ⟨ok4_0, List.forall_mem_cons.mpr ⟨ok4_1, List.forall_mem_cons.mpr ⟨ok4_2, List.forall_mem_cons.mpr ⟨ok4_3, List.forall_mem_cons.mpr ⟨ok4_4, List.forall_mem_cons.mpr ⟨ok4_5, List.forall_mem_nil _⟩⟩⟩⟩⟩⟩
noncomputable def tab5 : List Sh := [(5, [1, 1, 3], [1], [4]), (5, [1, 2, 2], [1], [6]), (5, [1, 3, 1], [1], [4]), (5, [1, 4], [1], [1]), (5, [2, 1, 2], [1], [6]), (5, [2, 2, 1], [1], [6]), (5, [2, 3], [1], [2]), (5, [3, 1, 1], [1], [4]), (5, [3, 2], [1], [2]), (5, [4, 1], [1], [1])]
theorem ok5_0 : okSh (5, [1, 1, 3], [1], [4]) = true := by decide +kernel
theorem ok5_1 : okSh (5, [1, 2, 2], [1], [6]) = true := by decide +kernel
theorem ok5_2 : okSh (5, [1, 3, 1], [1], [4]) = true := by decide +kernel
theorem ok5_3 : okSh (5, [1, 4], [1], [1]) = true := by decide +kernel
theorem ok5_4 : okSh (5, [2, 1, 2], [1], [6]) = true := by decide +kernel
theorem ok5_5 : okSh (5, [2, 2, 1], [1], [6]) = true := by decide +kernel
theorem ok5_6 : okSh (5, [2, 3], [1], [2]) = true := by decide +kernel
theorem ok5_7 : okSh (5, [3, 1, 1], [1], [4]) = true := by decide +kernel
theorem ok5_8 : okSh (5, [3, 2], [1], [2]) = true := by decide +kernel
theorem ok5_9 : okSh (5, [4, 1], [1], [1]) = true := by decide +kernel
theorem ok5 : ∀ e ∈ tab5, okSh e = true := List.forall_mem_cons.mpr ⟨ok5_0, List.forall_mem_cons.mpr ⟨ok5_1, List.forall_mem_cons.mpr ⟨ok5_2, List.forall_mem_cons.mpr ⟨ok5_3, List.forall_mem_cons.mpr ⟨ok5_4, List.forall_mem_cons.mpr ⟨ok5_5, List.forall_mem_cons.mpr ⟨ok5_6, List.forall_mem_cons.mpr ⟨ok5_7, List.forall_mem_cons.mpr ⟨ok5_8, List.forall_mem_cons.mpr ⟨ok5_9, List.forall_mem_nil _⟩⟩⟩⟩⟩⟩⟩⟩⟩⟩
noncomputable def tab6 : List Sh := [(6, [1, 1, 4], [1], [5]), (6, [1, 2, 3], [1], [10]), (6, [1, 3, 2], [1], [10]), (6, [1, 4, 1], [1], [5]), (6, [1, 5], [1], [1]), (6, [2, 1, 3], [1], [10]), (6, [2, 2, 2], [1, 2], [14, 2]), (6, [2, 3, 1], [1], [10]), (6, [2, 4], [1, 2], [2, 1]), (6, [3, 1, 2], [1], [10]), (6, [3, 2, 1], [1], [10]), (6, [3, 3], [1, 3], [3, 1]), (6, [4, 1, 1], [1], [5]), (6, [4, 2], [1, 2], [2, 1]), (6, [5, 1], [1], [1])]
theorem ok6_0 : okSh (6, [1, 1, 4], [1], [5]) = true := by decide +kernel
theorem ok6_1 : okSh (6, [1, 2, 3], [1], [10]) = true := by decide +kernel
theorem ok6_2 : okSh (6, [1, 3, 2], [1], [10]) = true := by decide +kernel
theorem ok6_3 : okSh (6, [1, 4, 1], [1], [5]) = true := by decide +kernel
theorem ok6_4 : okSh (6, [1, 5], [1], [1]) = true := by decide +kernel
theorem ok6_5 : okSh (6, [2, 1, 3], [1], [10]) = true := by decide +kernel
theorem ok6_6 : okSh (6, [2, 2, 2], [1, 2], [14, 2]) = true := by decide +kernel
theorem ok6_7 : okSh (6, [2, 3, 1], [1], [10]) = true := by decide +kernel
theorem ok6_8 : okSh (6, [2, 4], [1, 2], [2, 1]) = true := by decide +kernel
theorem ok6_9 : okSh (6, [3, 1, 2], [1], [10]) = true := by decide +kernel
theorem ok6_10 : okSh (6, [3, 2, 1], [1], [10]) = true := by decide +kernel
theorem ok6_11 : okSh (6, [3, 3], [1, 3], [3, 1]) = true := by decide +kernel
theorem ok6_12 : okSh (6, [4, 1, 1], [1], [5]) = true := by decide +kernel
theorem ok6_13 : okSh (6, [4, 2], [1, 2], [2, 1]) = true := by decide +kernel
theorem ok6_14 : okSh (6, [5, 1], [1], [1]) = true := by decide +kernel
theorem ok6 : ∀ e ∈ tab6, okSh e = true := List.forall_mem_cons.mpr ⟨ok6_0, List.forall_mem_cons.mpr ⟨ok6_1, List.forall_mem_cons.mpr ⟨ok6_2, List.forall_mem_cons.mpr ⟨ok6_3, List.forall_mem_cons.mpr ⟨ok6_4, List.forall_mem_cons.mpr ⟨ok6_5, List.forall_mem_cons.mpr ⟨ok6_6, List.forall_mem_cons.mpr ⟨ok6_7, List.forall_mem_cons.mpr ⟨ok6_8, List.forall_mem_cons.mpr ⟨ok6_9, List.forall_mem_cons.mpr ⟨ok6_10, List.forall_mem_cons.mpr ⟨ok6_11, List.forall_mem_cons.mpr ⟨ok6_12, List.forall_mem_cons.mpr ⟨ok6_13, List.forall_mem_cons.mpr ⟨ok6_14, List.forall_mem_nil _⟩⟩⟩⟩⟩⟩⟩⟩⟩⟩⟩⟩⟩⟩⟩
noncomputable def tab7 : List Sh := [(7, [1, 6], [1], [1]), (7, [2, 5], [1], [3]), (7, [3, 4], [1], [5]), (7, [4, 3], [1], [5]), (7, [5, 2], [1], [3]), (7, [6, 1], [1], [1])]
theorem ok7_0 : okSh (7, [1, 6], [1], [1]) = true := by decide +kernel
theorem ok7_1 : okSh (7, [2, 5], [1], [3]) = true := by decide +kernel
theorem ok7_2 : okSh (7, [3, 4], [1], [5]) = true := by decide +kernel
theorem ok7_3 : okSh (7, [4, 3], [1], [5]) = true := by decide +kernel
theorem ok7_4 : okSh (7, [5, 2], [1], [3]) = true := by decide +kernel
theorem ok7_5 : okSh (7, [6, 1], [1], [1]) = true := by decide +kernel
theorem ok7 : ∀ e ∈ tab7, okSh e = true := List.forall_mem_cons.mpr ⟨ok7_0, List.forall_mem_cons.mpr ⟨ok7_1, List.forall_mem_cons.mpr ⟨ok7_2, List.forall_mem_cons.mpr ⟨ok7_3, List.forall_mem_cons.mpr ⟨ok7_4, List.forall_mem_cons.mpr ⟨ok7_5, List.forall_mem_nil _⟩⟩⟩⟩⟩⟩
noncomputable def tab8 : List Sh := [(8, [1, 7], [1], [1]), (8, [2, 6], [1, 2], [3, 1]), (8, [3, 5], [1], [7]), (8, [4, 4], [1, 2, 4], [8, 1, 1]), (8, [5, 3], [1], [7]), (8, [6, 2], [1, 2], [3, 1]), (8, [7, 1], [1], [1])]
theorem ok8_0 : okSh (8, [1, 7], [1], [1]) = true := by decide +kernel
theorem ok8_1 : okSh (8, [2, 6], [1, 2], [3, 1]) = true := by decide +kernel
theorem ok8_2 : okSh (8, [3, 5], [1], [7]) = true := by decide +kernel
theorem ok8_3 : okSh (8, [4, 4], [1, 2, 4], [8, 1, 1]) = true := by decide +kernel
theorem ok8_4 : okSh (8, [5, 3], [1], [7]) = true := by decide +kernel
theorem ok8_5 : okSh (8, [6, 2], [1, 2], [3, 1]) = true := by decide +kernel
theorem ok8_6 : okSh (8, [7, 1], [1], [1]) = true := by decide +kernel
theorem ok8 : ∀ e ∈ tab8, okSh e = true := List.forall_mem_cons.mpr ⟨ok8_0, List.forall_mem_cons.mpr ⟨ok8_1, List.forall_mem_cons.mpr ⟨ok8_2, List.forall_mem_cons.mpr ⟨ok8_3, List.forall_mem_cons.mpr ⟨ok8_4, List.forall_mem_cons.mpr ⟨ok8_5, List.forall_mem_cons.mpr ⟨ok8_6, List.forall_mem_nil _⟩⟩⟩⟩⟩⟩⟩
end
section
set_option maxRecDepth 100000
structure FaW (e : Sh) where
  ws : List Str
  af : List Int
  rs : List Int
  row : List Int
  nm : List T3
  hw : wordsP e.2.1 = some ws
  haf : foldO (afStep ws) ws [] = some af
  hrs : ringsP af = some rs
  hrow : foldO rwStep rs [] = some row
  hx : (textOf e.2.1).length < 10000
  hc : (∀ c ∈ (textOf e.2.1 ++ ⟨#[120, 32]⟩ : Str).cps.toList, PyData.strOk ⟨#[c]⟩ = true) ∧ ∀ c ∈ (reps 32 e.1.toNat ++ ⟨#[120, 9]⟩ : Str).cps.toList, PyData.strOk ⟨#[c]⟩ = true
  hn : newP (textOf e.2.1 ++ ⟨#[120, 32]⟩) (reps 32 e.1.toNat ++ ⟨#[120, 9]⟩) = some nm
  ht : itO (toldStep e.1 e.2.1) 1 (e.1 + 1).toNat ([], []) = some (nm, e.2.2.1)
  hl : row.length < 10000 ∧ e.2.2.1.length < 100
  hf : foundOf e.1 row = quoOf e.1 e.2.2.1
  hsh : shOf e.1 row e.2.2.1 = e.2.2.2
  hin : ∀ x ∈ e.2.2.2, 0 ≤ x ∧ x < 1000
  hd : ∀ z ∈ e.2.2.1, 1 ≤ z ∧ divO e.1 z = some (e.1.fdiv z)
  hs : 0 ≤ e.1 ∧ e.1 < 1000
theorem okW_out {e : Sh} (h : okW e = true) : Nonempty (FaW e) := by
  unfold okW at h
  split at h
  · cases h
  rename_i ws hw
  rw [fSs_eq] at h
  split at h
  · cases h
  rename_i af haf
  rw [fIs_eq] at h
  split at h
  · cases h
  rename_i rs hrs
  split at h
  · cases h
  rename_i row hrow
  rw [fIs_eq, fS_eq] at h
  simp only [Bool.and_eq_true, decide_eq_true_eq, List.all_eq_true] at h
  obtain ⟨⟨⟨⟨⟨⟨⟨⟨⟨⟨a1, a2⟩, a3⟩, a4⟩, a5⟩, a6⟩, a7⟩, a8⟩, a9⟩, a10⟩, a11⟩ := h
  split at a4
  case h_2 => cases a4
  rename_i nm x hn ht
  rw [Bool.and_eq_true, decide_eq_true_eq, decide_eq_true_eq] at a4
  obtain ⟨b1, b2⟩ := a4
  obtain ⟨x1, x2⟩ := x
  dsimp only at b1 b2
  subst b1
  subst b2
  exact ⟨⟨ws, af, rs, row, _, (wordsF_eq _).symm.trans hw, (afF_eq _ _ _).symm.trans haf, (ringsF_eq _).symm.trans hrs, (rwF_eq _ _).symm.trans hrow, a1, ⟨a2, a3⟩, hn, ht, ⟨a5, a8⟩, a6, a7, a9, a10, a11⟩⟩
structure FaN (e : Sh) (i : Nat) (k3 : Int) where
  be : Int
  top : Int
  bs : Int
  v : Int
  wh : Int
  lf : Int
  pw : Int
  hbe : foldO (beStep ((2 ^ (8 + 37 * i) : Nat) : Int)) e.2.1 1 = some be
  htop : prodP e.1 ((2 ^ (8 + 37 * i) : Nat) : Int) = some top
  hbs : powO ((2 ^ (8 + 37 * i) : Nat) : Int) e.1 = some bs
  hv : ldv top be k3 = some (v, 0)
  hwl : ldv v (bs - 1) ((k3 + 1).fmod 3) = some (wh, lf)
  hpw : mulO wh (bs - 1) = some pw
  hsum : pw + lf = v
  hd : i2d lf (8 + 37 * (i : Int)) = some (iLs (figsOf e.2.2.1 e.2.2.2 e.1))
theorem okN_out {e : Sh} {i : Nat} {k3 : Int} (h : okN e i k3 = true) : Nonempty (FaN e i k3) := by
  unfold okN at h
  rw [fN_eq] at h
  split at h
  case h_2 => cases h
  rename_i be top bs hbe htop hbs
  rw [fI_eq, fI_eq, fI_eq] at h
  unfold okV at h
  split at h
  · cases h
  rename_i x hx
  obtain ⟨v, r⟩ := x
  rw [fI_eq, Bool.and_eq_true, decide_eq_true_eq] at h
  obtain ⟨h0, h⟩ := h
  dsimp only at h0 h
  subst h0
  split at h
  · cases h
  rename_i y hy
  obtain ⟨wh, lf⟩ := y
  rw [fI_eq, fI_eq] at h
  dsimp only at h
  split at h
  · cases h
  rename_i pw hpw
  rw [Bool.and_eq_true, decide_eq_true_eq] at h
  obtain ⟨h1, h⟩ := h
  split at h
  · cases h
  rename_i ys hys
  exact ⟨⟨be, top, bs, v, wh, lf, pw, (beF_eq _ _ _).symm.trans hbe, (prodF_eq _ _).symm.trans htop, (powF_eq _ _).symm.trans hbs, by rw [← ldvF_eq]; exact hx, by rw [← ldvF_eq]; exact hy, (mulF_eq _ _).symm.trans hpw, h1, by rw [← i2dF_eq, hys, eqIs_eq _ _ h]⟩⟩
structure FaM (k3 : Int) (L : List Int) where
  mail : Str
  due : Str
  hb : itO (mStep k3 L) 0 L.length (⟨#[]⟩, ⟨#[]⟩, ⟨#[]⟩) = some (mail, due, textOf L)
  hq : quoteP mail = some due
  hd : due.length < 10000
  hok : PyData.strOk due = true
  hl : L.length < 64
  hP : L = (partsOf due).map fun x => (x.length : Int)
  hps : (Txt.split due ⟨#[13, 10]⟩).length < 10000 ∧ ∀ x ∈ partsOf due, x.length < 10000
theorem okM_out {k3 : Int} {L : List Int} (h : okM k3 L = true) : Nonempty (FaM k3 L) := by
  unfold okM at h
  split at h
  case h_2 => cases h
  rename_i mail due text hb
  rw [fS_eq, fS_eq] at h
  simp only [Bool.and_eq_true, decide_eq_true_eq, List.all_eq_true] at h
  obtain ⟨⟨⟨⟨⟨⟨⟨a1, a2⟩, a3⟩, a4⟩, a5⟩, a6⟩, a7⟩, a8⟩ := h
  subst a8
  exact ⟨⟨mail, due, hb, (quoteF_eq _).symm.trans a1, a2, a3, a4, a5.symm, a6, a7⟩⟩
/-! which shape it is -/
noncomputable def lxy (s : Int) (x y : Nat) : List Int := if (if s < 7 then [1 + (x : Int), 1 + (y : Int)] else [1 + (x : Int)]).sum < s then (if s < 7 then [1 + (x : Int), 1 + (y : Int)] else [1 + (x : Int)]) ++ [s - (if s < 7 then [1 + (x : Int), 1 + (y : Int)] else [1 + (x : Int)]).sum] else (if s < 7 then [1 + (x : Int), 1 + (y : Int)] else [1 + (x : Int)])
theorem lens_xy {s : Int} (a b : Int) (hs : 4 ≤ s ∧ s ≤ 8) : ∃ x y : Nat, (x : Int) < s - 1 ∧ (y : Int) < s - 1 - x ∧ lensOf s a b = lxy s x y := by
  have h1 := fmod_in a (m := s - 1) (by omega)
  have h2 := fmod_in b (m := s - (1 + a.fmod (s - 1))) (by omega)
  refine ⟨(a.fmod (s - 1)).toNat, (b.fmod (s - (1 + a.fmod (s - 1)))).toNat, by omega, by omega, ?_⟩
  unfold lensOf lxy lens1
  rw [Int.toNat_of_nonneg h1.1, Int.toNat_of_nonneg h2.1]
noncomputable def okL (l : List Sh) (s : Int) (n : Nat) : Bool := (List.range n).all fun x => (List.range (n - x)).all fun y => l.any fun e => decide (e.1 = s) && decide (e.2.1 = lxy s x y)
theorem okL_out {l : List Sh} {s : Int} {n : Nat} (h : okL l s n = true) (hn : (n : Int) = s - 1) (ok : ∀ e ∈ l, okSh e = true) {x y : Nat} (hx : (x : Int) < s - 1) (hy : (y : Int) < s - 1 - x) : ∃ e : Sh, e.1 = s ∧ e.2.1 = lxy s x y ∧ okSh e = true := by
  have h1 := List.all_eq_true.mp h x (List.mem_range.mpr (by omega))
  have h2 := List.all_eq_true.mp h1 y (List.mem_range.mpr (by omega))
  obtain ⟨e, he, h3⟩ := List.any_eq_true.mp h2
  rw [Bool.and_eq_true, decide_eq_true_eq, decide_eq_true_eq] at h3
  exact ⟨e, h3.1, h3.2, ok e he⟩
theorem okL4 : okL tab4 4 3 = true := by decide +kernel
theorem okL5 : okL tab5 5 4 = true := by decide +kernel
theorem okL6 : okL tab6 6 5 = true := by decide +kernel
theorem okL7 : okL tab7 7 6 = true := by decide +kernel
theorem okL8 : okL tab8 8 7 = true := by decide +kernel
theorem shape_of {s : Int} (a b : Int) (hs : 4 ≤ s ∧ s ≤ 8) : ∃ e : Sh, e.1 = s ∧ e.2.1 = lensOf s a b ∧ okSh e = true := by
  obtain ⟨x, y, hx, hy, e⟩ := lens_xy a b hs
  rw [e]
  have : s = 4 ∨ s = 5 ∨ s = 6 ∨ s = 7 ∨ s = 8 := by omega
  rcases this with rfl | rfl | rfl | rfl | rfl
  · exact okL_out okL4 rfl ok4 hx hy
  · exact okL_out okL5 rfl ok5 hx hy
  · exact okL_out okL6 rfl ok6 hx hy
  · exact okL_out okL7 rfl ok7 hx hy
  · exact okL_out okL8 rfl ok8 hx hy
/-! the sum and what it leaves -/
theorem fmod3 (t : Int) (i : Int) : (t + i).fmod 3 = (t.fmod 3 + i).fmod 3 := by
  rw [Int.fmod_eq_emod_of_nonneg _ (by decide), Int.fmod_eq_emod_of_nonneg _ (by decide), Int.fmod_eq_emod_of_nonneg t (by decide)]
  omega
theorem mStep_mod (t : Int) (L : List Int) : mStep t L = mStep (t.fmod 3) L := by
  funext i a
  unfold mStep
  rw [fmod3 t i]
theorem k3_of (t : Int) (ht : 0 ≤ t) : ∃ i : Nat, i < 9 ∧ (t.fdiv 5).fmod 9 = (i : Int) ∧ t.fmod 3 = k3Of (sgnOf t) i := by
  have h1 := fmod_in (t.fdiv 5) (m := 9) (by decide)
  refine ⟨((t.fdiv 5).fmod 9).toNat, by omega, by omega, ?_⟩
  unfold k3Of sgnOf
  rw [Int.toNat_of_nonneg h1.1]
  simp only [Int.fmod_eq_emod_of_nonneg _ (by decide : (0 : Int) ≤ 9), Int.fmod_eq_emod_of_nonneg _ (by decide : (0 : Int) ≤ 5), Int.fmod_eq_emod_of_nonneg _ (by decide : (0 : Int) ≤ 3), Int.fdiv_eq_ediv_of_nonneg _ (by decide : (0 : Int) ≤ 5)]
  omega
theorem mul37 : ∀ i : Nat, i < 9 → mulO 37 (i : Int) = some (37 * (i : Int)) := by decide +kernel
theorem pow2 (i : Nat) (hi : i < 9) : powO 2 (8 + 37 * (i : Int)) = some ((2 ^ (8 + 37 * i) : Nat) : Int) := by
  unfold powO
  have e : Builtin.Int.intBits 2 = 2 := by decide +kernel
  rw [e, if_pos (by omega), cast_pow2, show (8 + 37 * (i : Int)).toNat = 8 + 37 * i by omega]
theorem div5 (t : Int) : divO t 5 = some (t.fdiv 5) := by
  unfold divO
  rw [if_pos ⟨by decide, by_small t 5 (Nat.lt_of_lt_of_le (by decide : (5 : Int).natAbs < 2 ^ 3) (Nat.pow_le_pow_right (by decide) (by decide)))⟩]
/-- all that the walk must find in the heap -/
structure Found (u : U) (K : Frag) (C : Addr) : Prop where
  T : Tops u
  D : Divs u
  W : WsK u K C
  mI : Me u K C "__init__" 1
  m2 : Me u K C "longest_run_of_spaces" 2
  m3 : Me u K C "indent_level" 3
  m5 : Me u K C "not_equal_witness" 5
  F11 : FnD u "insort_right" 11
  F12 : FnD u "bisect_right" 12
  F13 : FnD u "bisect_left" 13
  F18 : Fn u "quotedata" 18
  n1 : Pat u "_twin_re_1" code1
  n2 : Pat u "_twin_re_2" code2
  nc : StrG u "CRLF" ⟨#[13, 10]⟩
  F22 : Fn u "_law_words" 22
  F23 : Fn u "_law_rings" 23
  F24 : Fn u "_law_divided" 24
  F25 : Fn u "_law_product" 25
  F26 : Fn u "law" 26
variable {u : U} {k : Nat} {K : Frag} {C : Addr}
theorem law02 (F : Found u K C) {script : List Int} (hl : script.length ≤ 63) : CaT u (k + 49) "law" [.big (iLs script)] [] [] (B true) := by
  have hs := sgn_in (totOf script)
  obtain ⟨i, hi, h9, h3⟩ := k3_of (totOf script) (tot_in script).1
  obtain ⟨e, e1, e2, ok⟩ := shape_of (numAt script 0) (numAt script 1) hs
  unfold okSh at ok
  simp only [Bool.and_eq_true, List.all_eq_true] at ok
  obtain ⟨⟨⟨⟨okw, okn⟩, m0⟩, m1⟩, m2⟩ := ok
  obtain ⟨w⟩ := okW_out okw
  have okn' := okn i (List.mem_range.mpr hi)
  rw [e1, ← h3] at okn'
  obtain ⟨n⟩ := okN_out okn'
  have okm : okM ((totOf script).fmod 3) e.2.1 = true := by
    have h := fmod_in (totOf script) (m := 3) (by decide)
    have : (totOf script).fmod 3 = 0 ∨ (totOf script).fmod 3 = 1 ∨ (totOf script).fmod 3 = 2 := by omega
    rcases this with q | q | q <;> rw [q]
    · exact m0
    · exact m1
    · exact m2
  obtain ⟨m⟩ := okM_out okm
  refine CaT.fn1 (n1 := "script") (σ' := []) (k := k + 48) F.F26 ?_ gives
  refine segA (k := k + 48) F.T hl ?_
  rw [← e2, ← e1]
  refine segB (k := k + 47) F.T F.F18 F.n1 F.n2 F.nc (by rw [mStep_mod]; exact m.hb) m.hq m.hok m.hl ?_
  refine segC (k := k + 46) F.T F.F11 F.F12 F.F13 F.F22 F.F23 m.hd m.hP m.hps w.hw w.haf w.hrs w.hrow ?_
  refine segD (k := k + 46) F.T F.W F.mI F.m2 F.m3 F.m5 w.hs w.hx w.hc w.hn w.ht ?_
  refine segE (k := k + 46) F.T F.F12 F.F13 w.hs ⟨w.hl.1, by have := w.hl.2; omega⟩ (fun z hz => (w.hd z hz).2) w.hf ?_
  rw [w.hsh]
  have hlen : e.2.2.2.length = e.2.2.1.length := by rw [← w.hsh]; unfold shOf; simp
  exact segF (k := k) F.T F.D F.D.F6 F.F24 F.F25 w.hs ⟨w.hl.2, hlen, w.hin, fun z hz => (w.hd z hz).1⟩ (div5 _) h9 (mul37 i hi) rfl (pow2 i hi) n.hbe n.htop n.hv n.hbs (by rw [fmod3]; exact n.hwl) n.hpw n.hsum n.hd
end
section
set_option maxRecDepth 100000
open PySem.Builtin.Re
/-! what is read off the written heap -/
noncomputable def oCls (o : Obj) : Value := o.cls
noncomputable def oData (o : Obj) : Data := o.data
noncomputable def oField (i : Nat) (o : Obj) : Option Value := match o.data with
  | .fields vs => vs[i]?
  | _ => none
theorem look_of {K : Frag} {a : Addr} {α : Type} {f : Obj → α} {x : α} (e : (K.lookup a).map f = some x) : ∃ o, K.lookup a = some o ∧ f o = x := Option.map_eq_some_iff.mp e
noncomputable def KCode (K : Frag) (c : Addr) (q : Str) (t : Tok) : Prop := (K.lookup c).map (fun o => (oCls o, oField 1 o)) = some (.type "code", some (.str q t))
noncomputable def KObj (K : Frag) (a : Addr) (fd : FuncData) : Prop := (K.lookup a).map (fun o => (oCls o, oData o)) = some (.type "function", .func fd)
noncomputable def KFn (K : Frag) (f : Str) (i : Nat) : Prop := ∃ a doc pm an c ct t, nsIn K mainGlobals f = some (some (.ref a)) ∧ KObj K a (fnX f f (paramsAt i) (bodyAt i) (scopeAt i) [] .none .none doc pm an (.ref c) ct) ∧ KCode K c f t
noncomputable def KFnD (K : Frag) (f : Str) (i : Nat) : Prop := ∃ a T D t n doc pm an c ct tt, nsIn K mainGlobals f = some (some (.ref a)) ∧ KObj K a (fnX f f (paramsAt i) (bodyAt i) (scopeAt i) [] (.ref T) (.ref D) doc pm an (.ref c) ct) ∧ KCode K c f tt ∧
  K.lookup T = some (tupOf #[.int 0 t, .none] n) ∧ (K.lookup D).map oCls = some (.type "dict") ∧ nsOkIn K D = true ∧ nsIn K D "key" = some (some .none)
noncomputable def KNest (K : Frag) (q : Nest) : Prop := (∃ o vs file tf flags tg inF text tt, K.lookup q.c = some o ∧ o.cls = .type "code" ∧ o.data = .fields vs ∧ vs[11]? = some (.ref q.p) ∧ vs.getD 11 .none = .ref q.p ∧ vs.getD 18 .none = .str file tf ∧
    vs.getD 7 .none = .int flags tg ∧ vs.getD 9 .none = .bool inF ∧ vs.getD 10 .none = .int text tt ∧ q.c ≠ q.p) ∧ mainGlobals ≠ q.p ∧ q.p ≠ cStatics
noncomputable def KFnN (K : Frag) (tabs : List Nest) (f : Str) (i j : Nat) : Prop := ∃ a doc pm an ct t q, nsIn K mainGlobals f = some (some (.ref a)) ∧ KObj K a (fnX f f (paramsAt i) (bodyAt i) (scopeAt i) [] .none .none doc pm an (.ref q.c) ct) ∧ KCode K q.c f t ∧
  q ∈ tabs ∧ q.pos = inPos i j ∧ q.qual = f ++ ".<locals>." ++ "inner"
noncomputable def KMe (K : Frag) (C : Addr) (name : Str) (j : Nat) : Prop := ∃ f doc pm an c ct t, findIn K (.ref C) name = some (some (.ref f)) ∧ typeIn K (.ref f) = some (.type "function") ∧ keepIn K (.ref f) = true ∧
  KObj K f (fnX name ("Whitespace." ++ name) (mParams j) (mBody j) (mScope j) [] .none .none doc pm an (.ref c) ct) ∧ KCode K c ("Whitespace." ++ name) t
noncomputable def KPat (K : Frag) (x : Str) (code : Array Nat) : Prop := ∃ P o fs ct vs n, nsIn K mainGlobals x = some (some (.ref P)) ∧ K.lookup P = some o ∧ (o.cls = .type "re.Pattern" ∧ o.dict = none) ∧ o.data = .fields fs ∧ reRawNat (fs.getD 6 .none) = 0 ∧
  fs.getD 5 .none = .ref ct ∧ K.lookup ct = some (tupOf vs n) ∧ (vs.map reRawOf).map (·.toNat) = code ∧ reRawNat (fs.getD 2 .none) = 0
noncomputable def KTops : List (Str × Value) := [(("len" : Str), Value.builtin "len"), ("sum", .builtin "sum"), ("max", .builtin "max"), ("divmod", .builtin "divmod"), ("sorted", .builtin "sorted"), ("list", .type "list"), ("range", .type "range"), ("reversed", .type "reversed"), ("tuple", .type "tuple"), ("set", .type "set")]
/-- what the written heap must hold -/
structure KFound (K0 K : Frag) (C : Addr) (tabs : List Nest) : Prop where
  sub : (K.map fun p => K0.lookup p.1) = K.map fun p => some p.2
  tops : KTops.map (fun x => nsIn K mainGlobals x.1) = KTops.map fun _ => some none
  topsb : KTops.map (fun x => bootBuiltins x.1) = KTops.map fun x => some x.2
  F4 : KFn K "_div2n1n" 4
  F5 : KFn K "_div3n2n" 5
  L : ∃ t, nsIn K mainGlobals "_DIV_LIMIT" = some (some (.int 4000 t))
  F6 : KFnN K tabs "_int2digits" 6 1
  F7 : KFnN K tabs "_digits2int" 7 0
  F8 : KFn K "_divmod_pos" 8
  F9 : KFn K "int_divmod" 9
  nest : ∀ q ∈ tabs, KNest K q
  apart : ∀ q ∈ tabs, ∀ r ∈ tabs, r.p = q.p → r = q
  g : (K.lookup mainGlobals).map oCls = some (.type "dict")
  wmg : nsIn K mainGlobals "Whitespace" = some (some (.ref C))
  cls : K.all (fun p => match p.2.cls with | .none => false | _ => true) = true
  makes : makesIn K C = true
  over : plainOver K C = true
  setA : findIn K (.ref C) "__setattr__" = some (some (.builtin "object.__setattr__"))
  getA : findIn K (.ref C) "__getattribute__" = some (some (.builtin "object.__getattribute__"))
  noGet : findIn K (.ref C) "__getattr__" = some none
  hasD : (clsIn K C).any (·.hasDict) = true
  free : (["raw", "n", "nt", "norm", "is_simple"] : List Str).map (fun n => findIn K (.ref C) n) = [some none, some none, some none, some none, some none]
  keep : keepIn K (.ref C) = true
  typ : typeIn K (.ref C) = some (.type "type")
  tga : findIn K (.type "type") "__getattribute__" = some (some (.builtin "type.__getattribute__"))
  tsub : subIn K (.type "type") (.type "type") = some true
  S : ∃ t, findCls K (.ref C) (.type "type") "S" = some (.val (.str ⟨#[32]⟩ t))
  T : ∃ t, findCls K (.ref C) (.type "type") "T" = some (.val (.str ⟨#[9]⟩ t))
  mI : KMe K C "__init__" 1
  m2 : KMe K C "longest_run_of_spaces" 2
  m3 : KMe K C "indent_level" 3
  m5 : KMe K C "not_equal_witness" 5
  F11 : KFnD K "insort_right" 11
  F12 : KFnD K "bisect_right" 12
  F13 : KFnD K "bisect_left" 13
  F18 : KFn K "quotedata" 18
  n1 : KPat K "_twin_re_1" code1
  n2 : KPat K "_twin_re_2" code2
  nc : ∃ t, nsIn K mainGlobals "CRLF" = some (some (.str ⟨#[13, 10]⟩ t))
  F22 : KFn K "_law_words" 22
  F23 : KFn K "_law_rings" 23
  F24 : KFn K "_law_divided" 24
  F25 : KFn K "_law_product" 25
  F26 : KFn K "law" 26
section
variable {u : U} {K : Frag} {C : Addr}
theorem ns_some {h : Heap} {N : Addr} {m : Str → Option Value} {n : Str} {v : Value} (X : K.In h) (G : h.Ns N m) (e : nsIn K N n = some (some v)) : m n = some v := by
  obtain ⟨o, es, ep, ho, hd, _, hf⟩ := G
  unfold nsIn at e
  split at e
  · rename_i c d es' n' sl q
    have := X _ _ q
    rw [ho] at this
    cases this
    cases hd
    split at e
    · rename_i en he
      cases e
      rw [← hf]
      unfold nsFind findBy
      rw [← Array.find?_toList, he]
      rfl
    · split at e <;> cases e
  · cases e
variable (X : K.In u.hB)
include X
theorem KCode.code {c : Addr} {q : Str} {t : Tok} (k : KCode K c q t) : ∃ c' o vs t, Value.ref c = .ref c' ∧ u.hB.get? c' = some o ∧ o.cls ≠ .none ∧ o.data = .fields vs ∧ vs[1]? = some (.str q t) := by
  obtain ⟨o, h1, h2⟩ := look_of k
  injection h2 with h2 h3
  unfold oField at h3
  split at h3
  · rename_i vs hv
    exact ⟨c, o, vs, t, rfl, X _ _ h1, by show oCls o ≠ _; rw [h2]; nofun, hv, h3⟩
  · cases h3
theorem KObj.ob {a : Addr} {fd : FuncData} (k : KObj K a fd) : ∃ o, u.hB.get? a = some o ∧ o.data = .func fd ∧ o.cls ≠ .none := by
  obtain ⟨o, h1, h2⟩ := look_of k
  injection h2 with h2 h3
  exact ⟨o, X _ _ h1, h3, by show oCls o ≠ _; rw [h2]; nofun⟩
theorem KFn.fn {f : Str} {i : Nat} (k : KFn K f i) : Fn u f i := by
  obtain ⟨a, doc, pm, an, c, ct, t, h1, h2, h3⟩ := k
  exact ⟨a, doc, pm, an, _, ct, ⟨ns_some X u.g h1, h2.ob X, h3.code X, rfl, rfl⟩⟩
theorem KFnD.fn {f : Str} {i : Nat} (k : KFnD K f i) : FnD u f i := by
  obtain ⟨a, T, D, t, n, doc, pm, an, c, ct, tt, h1, h2, h3, h6, h7, h9, h10⟩ := k
  have G := Heap.Ns.of_isNs (isNs_of_in X h9)
  obtain ⟨oD, g1, g2⟩ := look_of h7
  exact ⟨a, _, _, doc, pm, an, _, ct, ⟨ns_some X u.g h1, h2.ob X, h3.code X, rfl, rfl⟩, ⟨T, t, n, rfl, X _ _ h6⟩, ⟨D, _, oD, rfl, X _ _ g1, by show oCls oD ≠ _; rw [g2]; nofun, G, ns_some X G h10⟩⟩
theorem KFnN.fn {f : Str} {i j : Nat} (k : KFnN K u.tabs f i j) (N : ∀ q ∈ u.tabs, NestAt u q) : FnN u f i j := by
  obtain ⟨a, doc, pm, an, ct, t, q, h1, h2, h3, h6, h7, h8⟩ := k
  exact ⟨a, doc, pm, an, ct, q, ⟨ns_some X u.g h1, h2.ob X, h3.code X, rfl, rfl⟩, N q h6, h7, h8⟩
theorem KMe.me {name : Str} {j : Nat} (k : KMe K C name j) : Me u K C name j := by
  obtain ⟨f, doc, pm, an, c, ct, t, h1, h2, h3, h4, h5⟩ := k
  exact ⟨f, doc, pm, an, _, ct, h1, h2, h3, ⟨h4.ob X, h5.code X, rfl, rfl⟩⟩
theorem KPat.pat {x : Str} {code : Array Nat} (k : KPat K x code) : Pat u x code := by
  obtain ⟨P, o, fs, ct, vs, n, h1, h2, h3, h4, h5, h6, h7, h8, h9⟩ := k
  exact ⟨P, ns_some X u.g h1, o, fs, ct, vs, n, X _ _ h2, h3, h4, h5, h6, X _ _ h7, h8, h9⟩
end
theorem frag_in {K0 K : Frag} {h : Heap} (X : K0.In h) (e : (K.map fun p => K0.lookup p.1) = K.map fun p => some p.2) : K.In h := fun a o l => by
  have m := frag_mem l
  have := List.map_inj_left.mp e _ m
  exact X _ _ this
theorem cls_ok {K : Frag} (h : K.all (fun p => match p.2.cls with | .none => false | _ => true) = true) : ∀ p ∈ K, p.2.cls ≠ .none := fun p hp e => by
  have := List.all_eq_true.mp h p hp
  rw [e] at this
  cases this
/-- the module of the builtins -/
noncomputable def BMain (h : Heap) (mg : Str → Option Value) : Prop := ∃ bm ob, mg "__builtins__" = some (.ref bm) ∧ bm ≠ builtinsNs ∧ h.get? bm = some ob ∧ ob.cls = .type "module" ∧ ob.dict = some builtinsNs ∧ ob.data = .plain
theorem KFound.found {u : U} {K0 K : Frag} {C : Addr} (k : KFound K0 K C u.tabs) (X0 : K0.In u.hB) (tb : ∀ q ∈ u.tabs, u.hB.get? q.p = some (tabObj #[])) (bm : BMain u.hB u.mg) (st : (u.hB.get? cStatics).map (oDict "thirdparty.any") = some (some none)) (hb : ∀ x : Str, x ≠ "__name__" → u.mb x = bootBuiltins x) : Found u K C := by
  have X := frag_in X0 k.sub
  have tops : Tops u := ⟨fun x hx => ⟨mg_none_of X u.g (List.map_inj_left.mp k.tops x hx), (hb x.1 (by
    have : ∀ y ∈ KTops, y.1 ≠ "__name__" := by decide
    exact this x hx)).trans (List.map_inj_left.mp k.topsb x hx)⟩⟩
  have nest : ∀ q ∈ u.tabs, NestAt u q := fun q hq => by
    obtain ⟨⟨o, vs, file, tf, flags, tg, inF, text, tt, h1, h2⟩, h4, h5⟩ := k.nest q hq
    obtain ⟨bm, ob, b1, b2, b3, b4, b5, b6⟩ := bm
    refine ⟨hq, ⟨o, vs, file, tf, flags, tg, inF, text, tt, X _ _ h1, h2⟩, ⟨bm, ob, b1, b2, fun e => ?_, fun e => ?_, b3, b4, b5, b6⟩, tb q hq, h4, h5, fun r hr e => k.apart q hq r hr e⟩
    · obtain ⟨o', g1, g2⟩ := look_of k.g
      have g3 := X _ _ g1
      rw [← e, b3] at g3; cases g3
      have : ob.cls = .type "dict" := g2
      rw [b4] at this
      injection this with this
      exact absurd this (by decide)
    · have g3 := tb q hq
      rw [← e, b3] at g3; cases g3
      cases b4
  have free : ∀ n ∈ (["raw", "n", "nt", "norm", "is_simple"] : List Str), findIn K (.ref C) n = some none := fun n hn => by
    have e : (["raw", "n", "nt", "norm", "is_simple"] : List Str).map (fun n => findIn K (.ref C) n) = (["raw", "n", "nt", "norm", "is_simple"] : List Str).map fun _ => some none := k.free
    exact List.map_inj_left.mp e n hn
  have stat : ∃ o es n, u.hB.get? cStatics = some o ∧ o.data = .dict es n ∧ lookIn "thirdparty.any" o = some none := by
    obtain ⟨o, g1, g2⟩ := Option.map_eq_some_iff.mp st
    unfold oDict at g2
    split at g2
    · rename_i es n hd
      exact ⟨o, es, n, g1, hd, g2⟩
    · cases g2
  have W : WsK u K C := ⟨ns_some X u.g k.wmg, X, cls_ok k.cls, k.makes, k.over, k.setA, k.getA, k.noGet, k.hasD, free, k.keep, k.typ, k.tga, k.tsub, stat, k.S, k.T⟩
  have D : Divs u := ⟨tops, k.F4.fn X, k.F5.fn X, let ⟨t, e⟩ := k.L; ⟨t, ns_some X u.g e⟩, k.F6.fn X nest, k.F7.fn X nest, k.F8.fn X, k.F9.fn X⟩
  exact ⟨tops, D, W, k.mI.me X, k.m2.me X, k.m3.me X, k.m5.me X, k.F11.fn X, k.F12.fn X, k.F13.fn X, k.F18.fn X, k.n1.pat X, k.n2.pat X, let ⟨t, e⟩ := k.nc; ⟨t, ns_some X u.g e⟩, k.F22.fn X, k.F23.fn X, k.F24.fn X, k.F25.fn X, k.F26.fn X⟩
/-- past the last object -/
theorem exists_lim (h : Heap) (ne : ∃ b o, h.get? b = some o) : ∃ l : Nat, (∀ b o, h.get? b = some o → b < l) ∧ ∃ n o, l = n + 1 ∧ h.get? n = some o := by
  have : ∀ m : Nat, (∀ b o, h.get? b = some o → b < m) → ∃ l : Nat, (∀ b o, h.get? b = some o → b < l) ∧ ∃ n o, l = n + 1 ∧ h.get? n = some o := by
    intro m
    induction m with
    | zero =>
      intro hm
      obtain ⟨b, o, e⟩ := ne
      exact absurd (hm b o e) (Nat.not_lt_zero b)
    | succ m ih =>
      intro hm
      cases e : h.get? m with
      | some o => exact ⟨m + 1, hm, m, o, rfl, e⟩
      | none =>
        refine ih fun b o q => ?_
        have h1 := hm b o q
        rcases Nat.lt_or_eq_of_le (Nat.le_of_lt_succ h1) with h2 | h2
        · exact h2
        · rw [h2, e] at q; cases q
  exact this h.objs.size fun b o e => Heap.lt_size e
theorem wd_start {u : U} (h : ∀ q ∈ u.tabs, u.hB.get? q.p = some (tabObj #[])) : Wd u u.hB :=
  ⟨⟨fun a o e => .inl e, fun a o e => ⟨o, e⟩⟩, u.nl, fun q hq => ⟨#[], h q hq, trivial, nofun⟩⟩
theorem ok_caller : Ok callerA 49 := ⟨rfl, by decide +kernel, by decide +kernel⟩
noncomputable abbrev noTab (K : Frag) : Frag := K.filter fun p => match p.2.cls with | .none => false | _ => true
/-- the law, called as a claim calls it -/
theorem run02 {prog : Program} {w : World} {s₁ : Shared} {mg mb : Str → Option Value} {tabs : List Nest} {K0 : Frag} {C a l : Addr} {vs : List Value} {ns : List Int} {Q : Value → Shared → Prop} {E : Value → Shared → Prop} (k : KFound K0 (noTab K0) C tabs) (X0 : K0.In s₁.heap)
    (tb : ∀ q ∈ tabs, s₁.heap.get? q.p = some (tabObj #[])) (bm : BMain s₁.heap mg) (st : (s₁.heap.get? cStatics).map (oDict "thirdparty.any") = some (some none))
    (g : s₁.heap.Ns mainGlobals mg) (b : s₁.heap.Ns builtinsNs mb) (nl : s₁.heap.NoLimit) (hb : ∀ x : Str, x ≠ "__name__" → mb x = bootBuiltins x) (hi : IntsAre vs ns) (hn : ns.length ≤ 63)
    (ho : s₁.heap.IsList l vs.toArray) (ha : mg "law" = some (.ref a))
    (h : ∀ h' tk, OldK s₁.heap h' → Q (.bool true) { s₁ with heap := h', toks := tk }) : wpAny (model prog w) callerA (call (.ref a) [.ref l]) Q E s₁ := by
  obtain ⟨o, ho, hoc, n, hod⟩ := ho
  obtain ⟨lim, l1, l2⟩ := exists_lim s₁.heap ⟨l, _, ho⟩
  have gc : ∀ o, s₁.heap.get? mainGlobals = some o → o.cls ≠ .none := fun o e => by
    obtain ⟨o', g1, g2⟩ := look_of k.g
    have := (frag_in X0 k.sub) _ _ g1
    rw [e] at this; cases this
    show oCls o ≠ _
    rw [g2]; nofun
  let u : U := { prog := prog, w := w, hB := s₁.heap, mg := mg, mb := mb, tabs := tabs, lim := lim, low := l1, tLow := fun q hq => l1 _ _ (tb q hq), g := g, b := b, nl := nl, last := l2, gc := gc }
  have F : Found u (noTab K0) C := KFound.found (u := u) k X0 tb bm st hb
  have wd : Wd u s₁.heap := wd_start (u := u) tb
  have rep : Rep u Nil s₁.heap (.ref l) (.big (iLs ns)) := ⟨l, o, vs.toArray, n, rfl, ho, hoc, hod, id, by rw [List.toList_toArray]; exact intsAre_rep hi⟩
  refine up (wpAny_call (law02 (k := 0) F hn Nil callerA s₁ _ a [.ref l] [] ok_caller wd (fun b q => q.elim) ha ⟨rep, trivial⟩ trivial fun v h' tk K r => ?_))
  have e := RepP.bool_inv r
  subst e
  exact h h' tk (K.wd wd).old
end
end Mine
namespace Mine
noncomputable abbrev q6 : Nest := ⟨58, 54, inPos 6 1, ("_int2digits" : Str) ++ ".<locals>." ++ "inner"⟩
noncomputable abbrev q7 : Nest := ⟨65, 61, inPos 7 0, ("_digits2int" : Str) ++ ".<locals>." ++ "inner"⟩
theorem two {P : Nest → Prop} (h1 : P q6) (h2 : P q7) : ∀ q ∈ [q6, q7], P q := fun q hq => by
  rcases List.mem_cons.mp hq with rfl | hq
  · exact h1
  · rcases List.mem_cons.mp hq with rfl | hq
    · exact h2
    · cases hq
theorem two_apart : ∀ q ∈ [q6, q7], ∀ r ∈ [q6, q7], r.p = q.p → r = q :=
  two (two (fun _ => rfl) (fun e => absurd e (by decide))) (two (fun e => absurd e (by decide)) fun _ => rfl)
end Mine
open PySem PySem.W PyProof.Rows
set_option maxRecDepth 100000 in
set_option maxHeartbeats 8000000 in
theorem PySem.Challenge.cw_sw0078_02_holds : PySem.Challenge.rw_sw0078_02.Holds := by
  w_on; o_law
  refine holds_open (q := Mine.viewK) (loose := Mine.looseK) (Xt := Mine.xtK) (XP := XL Mine.viewK []) (Yf := Mine.hookK.obs) (Ya := Mine.hookK.val) (YP := Mine.hookK.says) (N := 2608) Mine.leftK Mine.hookK.of Mine.hookK.keeps (fun s e => xl_of s (Bool.and_eq_true_iff.mp e).1) XL.keeps (by rfl) (by rfl) (by rfl) (fun s e => recFacts_of (Bool.and_eq_true_iff.mp e).2) (by rfl) (by first | assumption | decide +kernel) (by decide +kernel) ⟨rfl, rfl, rfl, rfl, rfl, by decide +kernel⟩ ?pqw ?pqc
  case pqw => w_witness2
  case pqc =>
    intro w s₀ s₁ mg mb G Y fa o pm cd doc dV kV ho hd hcd hD hmg hg args vals as hpre hlay hrd hwl hlo
    have Y2 : Mine.kmK.says w s₁.heap ∧ Mine.statK s₁.heap := Y
    have KX := km_in_of Y2.1
    have hT8 := km_tabs_of Y2.1
    have hst := Y2.2
    refine Ground.open G ?_
    intro T B D TE TW
    clear hd ho hcd hD
    wrow_args hpre hlay hrd hwl hlo
    refine Mine.run02 (C := 186) (tabs := [Mine.q6, Mine.q7]) ?kf KX ?tb T.bmain hst T.g T.b T.nolimit T.builtins ‹IntsAre _ _› ?hn ‹Heap.IsList _ _ _› hmg ?fin
    case tb => exact Mine.two (hT8 54 (by simp)) (hT8 61 (by simp))
    case hn => omega
    case fin =>
      intro h' tk K
      refine ⟨.inl ⟨.bool true, _, [], rfl, fun _ => rfl, .bool true, ?pqpost, fun _ => ⟨List.nodup_nil, nofun⟩⟩, K, rfl, .of_eq hg⟩
      refine' postW_of ?pqs ?pqv ?pqe
      case pqs => rfl
      case pqv => wtm_val
      case pqe => w_fin
    case kf =>
      constructor
      case sub => kernel_rfl
      case tops => kernel_rfl
      case topsb => kernel_rfl
      case F4 => exact ⟨_, _, _, _, _, _, _, rfl, rfl, rfl⟩
      case F5 => exact ⟨_, _, _, _, _, _, _, rfl, rfl, rfl⟩
      case L => exact ⟨_, rfl⟩
      case F6 => exact ⟨_, _, _, _, _, _, Mine.q6, rfl, rfl, rfl, .head _, rfl, rfl⟩
      case F7 => exact ⟨_, _, _, _, _, _, Mine.q7, rfl, rfl, rfl, .tail _ (.head _), rfl, rfl⟩
      case F8 => exact ⟨_, _, _, _, _, _, _, rfl, rfl, rfl⟩
      case F9 => exact ⟨_, _, _, _, _, _, _, rfl, rfl, rfl⟩
      case nest => exact Mine.two ⟨⟨_, _, _, _, _, _, _, _, _, rfl, rfl, rfl, rfl, rfl, rfl, rfl, rfl, rfl, by decide⟩, by decide, by decide⟩ ⟨⟨_, _, _, _, _, _, _, _, _, rfl, rfl, rfl, rfl, rfl, rfl, rfl, rfl, rfl, by decide⟩, by decide, by decide⟩
      case apart => exact Mine.two_apart
      case g => rfl
      case wmg => rfl
      case cls => kernel_rfl
      case makes => kernel_rfl
      case over => kernel_rfl
      case setA => kernel_rfl
      case getA => kernel_rfl
      case noGet => kernel_rfl
      case hasD => kernel_rfl
      case free => kernel_rfl
      case keep => kernel_rfl
      case typ => kernel_rfl
      case tga => kernel_rfl
      case tsub => kernel_rfl
      case S => exact ⟨_, rfl⟩
      case T => exact ⟨_, rfl⟩
      case mI => exact ⟨_, _, _, _, _, _, _, rfl, rfl, rfl, rfl, rfl⟩
      case m2 => exact ⟨_, _, _, _, _, _, _, rfl, rfl, rfl, rfl, rfl⟩
      case m3 => exact ⟨_, _, _, _, _, _, _, rfl, rfl, rfl, rfl, rfl⟩
      case m5 => exact ⟨_, _, _, _, _, _, _, rfl, rfl, rfl, rfl, rfl⟩
      case F11 => exact ⟨_, _, _, _, _, _, _, _, _, _, _, rfl, rfl, rfl, rfl, rfl, by kernel_rfl, rfl⟩
      case F12 => exact ⟨_, _, _, _, _, _, _, _, _, _, _, rfl, rfl, rfl, rfl, rfl, by kernel_rfl, rfl⟩
      case F13 => exact ⟨_, _, _, _, _, _, _, _, _, _, _, rfl, rfl, rfl, rfl, rfl, by kernel_rfl, rfl⟩
      case F18 => exact ⟨_, _, _, _, _, _, _, rfl, rfl, rfl⟩
      case n1 => exact ⟨_, _, _, _, _, _, rfl, rfl, ⟨rfl, rfl⟩, rfl, rfl, rfl, rfl, by kernel_rfl, rfl⟩
      case n2 => exact ⟨_, _, _, _, _, _, rfl, rfl, ⟨rfl, rfl⟩, rfl, rfl, rfl, rfl, by kernel_rfl, rfl⟩
      case nc => exact ⟨_, rfl⟩
      case F22 => exact ⟨_, _, _, _, _, _, _, rfl, rfl, rfl⟩
      case F23 => exact ⟨_, _, _, _, _, _, _, rfl, rfl, rfl⟩
      case F24 => exact ⟨_, _, _, _, _, _, _, rfl, rfl, rfl⟩
      case F25 => exact ⟨_, _, _, _, _, _, _, rfl, rfl, rfl⟩
      case F26 => exact ⟨_, _, _, _, _, _, _, rfl, rfl, rfl⟩
