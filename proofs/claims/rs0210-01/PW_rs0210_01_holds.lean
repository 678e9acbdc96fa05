import PyProof.Rows.All
import Wide.All
import OpenK.AllK
import Wide.FinOn
import PySem.Challenge.RW_rs0210_01
open PySem PySem.W PyProof.Rows
set_option Elab.async false
set_option maxRecDepth 100000
set_option maxHeartbeats 8000000
set_option linter.unusedVariables false
set_option linter.unusedSimpArgs false
namespace Mine
noncomputable def fdAt (i : Nat) : Option (Arguments × List Stmt × Scope) := match PySem.Challenge.pw_rs0210_01.main.body[i]? with
  | some (.FunctionDef _ p b _ _ _ sc _ _ _) => some (p, b, sc)
  | _ => none
noncomputable def ob3 (P : Params) : Obj := { cls := Value.type "dict", data := Data.dict #[{ hash := PyData.keyHash P (Str.ofString "__name__"), key := Value.str (Str.ofString "__name__") 165, val := Value.str (Str.ofString "law_rs0210_01") 519 }, { hash := PyData.keyHash P (Str.ofString "__doc__"), key := Value.str (Str.ofString "__doc__") 166, val := Value.none }, { hash := PyData.keyHash P (Str.ofString "__package__"), key := Value.str (Str.ofString "__package__") 167, val := Value.none }, { hash := PyData.keyHash P (Str.ofString "__loader__"), key := Value.str (Str.ofString "__loader__") 168, val := Value.builtin "__main__.__loader__#opaque" }, { hash := PyData.keyHash P (Str.ofString "__spec__"), key := Value.str (Str.ofString "__spec__") 169, val := Value.none }, { hash := PyData.keyHash P (Str.ofString "__annotations__"), key := Value.str (Str.ofString "__annotations__") 170, val := Value.ref 6 }, { hash := PyData.keyHash P (Str.ofString "__builtins__"), key := Value.str (Str.ofString "__builtins__") 171, val := Value.ref 4 }, { hash := PyData.keyHash P (Str.ofString "__file__"), key := Value.str (Str.ofString "__file__") 173, val := Value.str (Str.ofString "/claim/cut.py") 172 }, { hash := PyData.keyHash P (Str.ofString "__cached__"), key := Value.str (Str.ofString "__cached__") 174, val := Value.none }, { hash := PyData.keyHash P (Str.ofString "_DIV_LIMIT"), key := Value.str (Str.ofString "_DIV_LIMIT") 190, val := Value.int 4000 189 }, { hash := PyData.keyHash P (Str.ofString "_div2n1n"), key := Value.str (Str.ofString "_div2n1n") 207, val := Value.ref 21 }, { hash := PyData.keyHash P (Str.ofString "_div3n2n"), key := Value.str (Str.ofString "_div3n2n") 221, val := Value.ref 28 }, { hash := PyData.keyHash P (Str.ofString "_int2digits"), key := Value.str (Str.ofString "_int2digits") 232, val := Value.ref 35 }, { hash := PyData.keyHash P (Str.ofString "_digits2int"), key := Value.str (Str.ofString "_digits2int") 243, val := Value.ref 42 }, { hash := PyData.keyHash P (Str.ofString "_divmod_pos"), key := Value.str (Str.ofString "_divmod_pos") 258, val := Value.ref 49 }, { hash := PyData.keyHash P (Str.ofString "int_divmod"), key := Value.str (Str.ofString "int_divmod") 268, val := Value.ref 56 }, { hash := PyData.keyHash P (Str.ofString "bisect_right"), key := Value.str (Str.ofString "bisect_right") 284, val := Value.ref 65 }, { hash := PyData.keyHash P (Str.ofString "bisect_left"), key := Value.str (Str.ofString "bisect_left") 298, val := Value.ref 74 }, { hash := PyData.keyHash P (Str.ofString "ENDMARKER"), key := Value.str (Str.ofString "ENDMARKER") 302, val := Value.int 0 301 }, { hash := PyData.keyHash P (Str.ofString "LPAR"), key := Value.str (Str.ofString "LPAR") 304, val := Value.int 7 303 }, { hash := PyData.keyHash P (Str.ofString "RPAR"), key := Value.str (Str.ofString "RPAR") 306, val := Value.int 8 305 }, { hash := PyData.keyHash P (Str.ofString "LSQB"), key := Value.str (Str.ofString "LSQB") 308, val := Value.int 9 307 }, { hash := PyData.keyHash P (Str.ofString "RSQB"), key := Value.str (Str.ofString "RSQB") 310, val := Value.int 10 309 }, { hash := PyData.keyHash P (Str.ofString "COLON"), key := Value.str (Str.ofString "COLON") 312, val := Value.int 11 311 }, { hash := PyData.keyHash P (Str.ofString "COMMA"), key := Value.str (Str.ofString "COMMA") 314, val := Value.int 12 313 }, { hash := PyData.keyHash P (Str.ofString "SEMI"), key := Value.str (Str.ofString "SEMI") 316, val := Value.int 13 315 }, { hash := PyData.keyHash P (Str.ofString "PLUS"), key := Value.str (Str.ofString "PLUS") 318, val := Value.int 14 317 }, { hash := PyData.keyHash P (Str.ofString "MINUS"), key := Value.str (Str.ofString "MINUS") 320, val := Value.int 15 319 }, { hash := PyData.keyHash P (Str.ofString "STAR"), key := Value.str (Str.ofString "STAR") 322, val := Value.int 16 321 }, { hash := PyData.keyHash P (Str.ofString "SLASH"), key := Value.str (Str.ofString "SLASH") 324, val := Value.int 17 323 }, { hash := PyData.keyHash P (Str.ofString "VBAR"), key := Value.str (Str.ofString "VBAR") 326, val := Value.int 18 325 }, { hash := PyData.keyHash P (Str.ofString "AMPER"), key := Value.str (Str.ofString "AMPER") 328, val := Value.int 19 327 }, { hash := PyData.keyHash P (Str.ofString "LESS"), key := Value.str (Str.ofString "LESS") 330, val := Value.int 20 329 }, { hash := PyData.keyHash P (Str.ofString "GREATER"), key := Value.str (Str.ofString "GREATER") 332, val := Value.int 21 331 }, { hash := PyData.keyHash P (Str.ofString "EQUAL"), key := Value.str (Str.ofString "EQUAL") 334, val := Value.int 22 333 }, { hash := PyData.keyHash P (Str.ofString "DOT"), key := Value.str (Str.ofString "DOT") 336, val := Value.int 23 335 }, { hash := PyData.keyHash P (Str.ofString "PERCENT"), key := Value.str (Str.ofString "PERCENT") 338, val := Value.int 24 337 }, { hash := PyData.keyHash P (Str.ofString "LBRACE"), key := Value.str (Str.ofString "LBRACE") 340, val := Value.int 25 339 }, { hash := PyData.keyHash P (Str.ofString "RBRACE"), key := Value.str (Str.ofString "RBRACE") 342, val := Value.int 26 341 }, { hash := PyData.keyHash P (Str.ofString "EQEQUAL"), key := Value.str (Str.ofString "EQEQUAL") 344, val := Value.int 27 343 }, { hash := PyData.keyHash P (Str.ofString "NOTEQUAL"), key := Value.str (Str.ofString "NOTEQUAL") 346, val := Value.int 28 345 }, { hash := PyData.keyHash P (Str.ofString "LESSEQUAL"), key := Value.str (Str.ofString "LESSEQUAL") 348, val := Value.int 29 347 }, { hash := PyData.keyHash P (Str.ofString "GREATEREQUAL"), key := Value.str (Str.ofString "GREATEREQUAL") 350, val := Value.int 30 349 }, { hash := PyData.keyHash P (Str.ofString "TILDE"), key := Value.str (Str.ofString "TILDE") 352, val := Value.int 31 351 }, { hash := PyData.keyHash P (Str.ofString "CIRCUMFLEX"), key := Value.str (Str.ofString "CIRCUMFLEX") 354, val := Value.int 32 353 }, { hash := PyData.keyHash P (Str.ofString "LEFTSHIFT"), key := Value.str (Str.ofString "LEFTSHIFT") 356, val := Value.int 33 355 }, { hash := PyData.keyHash P (Str.ofString "RIGHTSHIFT"), key := Value.str (Str.ofString "RIGHTSHIFT") 358, val := Value.int 34 357 }, { hash := PyData.keyHash P (Str.ofString "DOUBLESTAR"), key := Value.str (Str.ofString "DOUBLESTAR") 360, val := Value.int 35 359 }, { hash := PyData.keyHash P (Str.ofString "PLUSEQUAL"), key := Value.str (Str.ofString "PLUSEQUAL") 362, val := Value.int 36 361 }, { hash := PyData.keyHash P (Str.ofString "MINEQUAL"), key := Value.str (Str.ofString "MINEQUAL") 364, val := Value.int 37 363 }, { hash := PyData.keyHash P (Str.ofString "STAREQUAL"), key := Value.str (Str.ofString "STAREQUAL") 366, val := Value.int 38 365 }, { hash := PyData.keyHash P (Str.ofString "SLASHEQUAL"), key := Value.str (Str.ofString "SLASHEQUAL") 368, val := Value.int 39 367 }, { hash := PyData.keyHash P (Str.ofString "PERCENTEQUAL"), key := Value.str (Str.ofString "PERCENTEQUAL") 370, val := Value.int 40 369 }, { hash := PyData.keyHash P (Str.ofString "AMPEREQUAL"), key := Value.str (Str.ofString "AMPEREQUAL") 372, val := Value.int 41 371 }, { hash := PyData.keyHash P (Str.ofString "VBAREQUAL"), key := Value.str (Str.ofString "VBAREQUAL") 374, val := Value.int 42 373 }, { hash := PyData.keyHash P (Str.ofString "CIRCUMFLEXEQUAL"), key := Value.str (Str.ofString "CIRCUMFLEXEQUAL") 376, val := Value.int 43 375 }, { hash := PyData.keyHash P (Str.ofString "LEFTSHIFTEQUAL"), key := Value.str (Str.ofString "LEFTSHIFTEQUAL") 378, val := Value.int 44 377 }, { hash := PyData.keyHash P (Str.ofString "RIGHTSHIFTEQUAL"), key := Value.str (Str.ofString "RIGHTSHIFTEQUAL") 380, val := Value.int 45 379 }, { hash := PyData.keyHash P (Str.ofString "DOUBLESTAREQUAL"), key := Value.str (Str.ofString "DOUBLESTAREQUAL") 382, val := Value.int 46 381 }, { hash := PyData.keyHash P (Str.ofString "DOUBLESLASH"), key := Value.str (Str.ofString "DOUBLESLASH") 384, val := Value.int 47 383 }, { hash := PyData.keyHash P (Str.ofString "DOUBLESLASHEQUAL"), key := Value.str (Str.ofString "DOUBLESLASHEQUAL") 386, val := Value.int 48 385 }, { hash := PyData.keyHash P (Str.ofString "AT"), key := Value.str (Str.ofString "AT") 388, val := Value.int 49 387 }, { hash := PyData.keyHash P (Str.ofString "ATEQUAL"), key := Value.str (Str.ofString "ATEQUAL") 390, val := Value.int 50 389 }, { hash := PyData.keyHash P (Str.ofString "RARROW"), key := Value.str (Str.ofString "RARROW") 392, val := Value.int 51 391 }, { hash := PyData.keyHash P (Str.ofString "ELLIPSIS"), key := Value.str (Str.ofString "ELLIPSIS") 394, val := Value.int 52 393 }, { hash := PyData.keyHash P (Str.ofString "COLONEQUAL"), key := Value.str (Str.ofString "COLONEQUAL") 396, val := Value.int 53 395 }, { hash := PyData.keyHash P (Str.ofString "EXCLAMATION"), key := Value.str (Str.ofString "EXCLAMATION") 398, val := Value.int 54 397 }, { hash := PyData.keyHash P (Str.ofString "NT_OFFSET"), key := Value.str (Str.ofString "NT_OFFSET") 400, val := Value.int 256 399 }, { hash := PyData.keyHash P (Str.ofString "EXACT_TOKEN_TYPES"), key := Value.str (Str.ofString "EXACT_TOKEN_TYPES") 497, val := Value.ref 75 }, { hash := PyData.keyHash P (Str.ofString "ISTERMINAL"), key := Value.str (Str.ofString "ISTERMINAL") 504, val := Value.ref 84 }, { hash := PyData.keyHash P (Str.ofString "ISNONTERMINAL"), key := Value.str (Str.ofString "ISNONTERMINAL") 511, val := Value.ref 91 }, { hash := PyData.keyHash P (Str.ofString "ISEOF"), key := Value.str (Str.ofString "ISEOF") 518, val := Value.ref 98 }, { hash := PyData.keyHash P (Str.ofString "law"), key := Value.str (Str.ofString "law") 526, val := Value.ref 103 }] 73 }
noncomputable def mk21 {p : Arguments} {b : List Stmt} {s : Scope} (_ : fdAt 2 = some (p, b, s)) : Obj := { cls := Value.type "function", data := Data.func { name := Str.ofString "_div2n1n", qualname := Str.ofString "_div2n1n", params := p, body := FuncBody.stmts b, scope := s, globals := 3, closure := [], defaults := Value.none, kwdefaults := Value.none, pyModule := Value.str (Str.ofString "cpy313._pylong") 187, code := Value.ref 20 } }
noncomputable def ob21 : Obj := mk21 rfl
noncomputable def mk28 {p : Arguments} {b : List Stmt} {s : Scope} (_ : fdAt 3 = some (p, b, s)) : Obj := { cls := Value.type "function", data := Data.func { name := Str.ofString "_div3n2n", qualname := Str.ofString "_div3n2n", params := p, body := FuncBody.stmts b, scope := s, globals := 3, closure := [], defaults := Value.none, kwdefaults := Value.none, pyModule := Value.str (Str.ofString "cpy313._pylong") 187, code := Value.ref 27 } }
noncomputable def ob28 : Obj := mk28 rfl
noncomputable def mk35 {p : Arguments} {b : List Stmt} {s : Scope} (_ : fdAt 4 = some (p, b, s)) : Obj := { cls := Value.type "function", data := Data.func { name := Str.ofString "_int2digits", qualname := Str.ofString "_int2digits", params := p, body := FuncBody.stmts b, scope := s, globals := 3, closure := [], defaults := Value.none, kwdefaults := Value.none, pyModule := Value.str (Str.ofString "cpy313._pylong") 187, code := Value.ref 34 } }
noncomputable def ob35 : Obj := mk35 rfl
noncomputable def mk42 {p : Arguments} {b : List Stmt} {s : Scope} (_ : fdAt 5 = some (p, b, s)) : Obj := { cls := Value.type "function", data := Data.func { name := Str.ofString "_digits2int", qualname := Str.ofString "_digits2int", params := p, body := FuncBody.stmts b, scope := s, globals := 3, closure := [], defaults := Value.none, kwdefaults := Value.none, pyModule := Value.str (Str.ofString "cpy313._pylong") 187, code := Value.ref 41 } }
noncomputable def ob42 : Obj := mk42 rfl
noncomputable def mk49 {p : Arguments} {b : List Stmt} {s : Scope} (_ : fdAt 6 = some (p, b, s)) : Obj := { cls := Value.type "function", data := Data.func { name := Str.ofString "_divmod_pos", qualname := Str.ofString "_divmod_pos", params := p, body := FuncBody.stmts b, scope := s, globals := 3, closure := [], defaults := Value.none, kwdefaults := Value.none, pyModule := Value.str (Str.ofString "cpy313._pylong") 187, code := Value.ref 48 } }
noncomputable def ob49 : Obj := mk49 rfl
noncomputable def mk56 {p : Arguments} {b : List Stmt} {s : Scope} (_ : fdAt 7 = some (p, b, s)) : Obj := { cls := Value.type "function", data := Data.func { name := Str.ofString "int_divmod", qualname := Str.ofString "int_divmod", params := p, body := FuncBody.stmts b, scope := s, globals := 3, closure := [], defaults := Value.none, kwdefaults := Value.none, pyModule := Value.str (Str.ofString "cpy313._pylong") 187, code := Value.ref 55 } }
noncomputable def ob56 : Obj := mk56 rfl
noncomputable def mk65 {p : Arguments} {b : List Stmt} {s : Scope} (_ : fdAt 9 = some (p, b, s)) : Obj := { cls := Value.type "function", data := Data.func { name := Str.ofString "bisect_right", qualname := Str.ofString "bisect_right", params := p, body := FuncBody.stmts b, scope := s, globals := 3, closure := [], defaults := Value.ref 57, kwdefaults := Value.ref 58, pyModule := Value.str (Str.ofString "cpy313.bisect") 269, code := Value.ref 64 } }
noncomputable def ob65 : Obj := mk65 rfl
noncomputable def mk74 {p : Arguments} {b : List Stmt} {s : Scope} (_ : fdAt 10 = some (p, b, s)) : Obj := { cls := Value.type "function", data := Data.func { name := Str.ofString "bisect_left", qualname := Str.ofString "bisect_left", params := p, body := FuncBody.stmts b, scope := s, globals := 3, closure := [], defaults := Value.ref 66, kwdefaults := Value.ref 67, pyModule := Value.str (Str.ofString "cpy313.bisect") 269, code := Value.ref 73 } }
noncomputable def ob74 : Obj := mk74 rfl
noncomputable def ob75 (P : Params) : Obj := { cls := Value.type "dict", data := Data.dict #[{ hash := PyData.keyHash P (Str.ofString "!"), key := Value.str (Str.ofString "!") 401, val := Value.int 54 397 }, { hash := PyData.keyHash P (Str.ofString "!="), key := Value.str (Str.ofString "!=") 403, val := Value.int 28 345 }, { hash := PyData.keyHash P (Str.ofString "%"), key := Value.str (Str.ofString "%") 405, val := Value.int 24 337 }, { hash := PyData.keyHash P (Str.ofString "%="), key := Value.str (Str.ofString "%=") 407, val := Value.int 40 369 }, { hash := PyData.keyHash P (Str.ofString "&"), key := Value.str (Str.ofString "&") 409, val := Value.int 19 327 }, { hash := PyData.keyHash P (Str.ofString "&="), key := Value.str (Str.ofString "&=") 411, val := Value.int 41 371 }, { hash := PyData.keyHash P (Str.ofString "("), key := Value.str (Str.ofString "(") 413, val := Value.int 7 303 }, { hash := PyData.keyHash P (Str.ofString ")"), key := Value.str (Str.ofString ")") 415, val := Value.int 8 305 }, { hash := PyData.keyHash P (Str.ofString "*"), key := Value.str (Str.ofString "*") 417, val := Value.int 16 321 }, { hash := PyData.keyHash P (Str.ofString "**"), key := Value.str (Str.ofString "**") 419, val := Value.int 35 359 }, { hash := PyData.keyHash P (Str.ofString "**="), key := Value.str (Str.ofString "**=") 421, val := Value.int 46 381 }, { hash := PyData.keyHash P (Str.ofString "*="), key := Value.str (Str.ofString "*=") 423, val := Value.int 38 365 }, { hash := PyData.keyHash P (Str.ofString "+"), key := Value.str (Str.ofString "+") 425, val := Value.int 14 317 }, { hash := PyData.keyHash P (Str.ofString "+="), key := Value.str (Str.ofString "+=") 427, val := Value.int 36 361 }, { hash := PyData.keyHash P (Str.ofString ","), key := Value.str (Str.ofString ",") 429, val := Value.int 12 313 }, { hash := PyData.keyHash P (Str.ofString "-"), key := Value.str (Str.ofString "-") 431, val := Value.int 15 319 }, { hash := PyData.keyHash P (Str.ofString "-="), key := Value.str (Str.ofString "-=") 433, val := Value.int 37 363 }, { hash := PyData.keyHash P (Str.ofString "->"), key := Value.str (Str.ofString "->") 435, val := Value.int 51 391 }, { hash := PyData.keyHash P (Str.ofString "."), key := Value.str (Str.ofString ".") 437, val := Value.int 23 335 }, { hash := PyData.keyHash P (Str.ofString "..."), key := Value.str (Str.ofString "...") 439, val := Value.int 52 393 }, { hash := PyData.keyHash P (Str.ofString "/"), key := Value.str (Str.ofString "/") 441, val := Value.int 17 323 }, { hash := PyData.keyHash P (Str.ofString "//"), key := Value.str (Str.ofString "//") 443, val := Value.int 47 383 }, { hash := PyData.keyHash P (Str.ofString "//="), key := Value.str (Str.ofString "//=") 445, val := Value.int 48 385 }, { hash := PyData.keyHash P (Str.ofString "/="), key := Value.str (Str.ofString "/=") 447, val := Value.int 39 367 }, { hash := PyData.keyHash P (Str.ofString ":"), key := Value.str (Str.ofString ":") 449, val := Value.int 11 311 }, { hash := PyData.keyHash P (Str.ofString ":="), key := Value.str (Str.ofString ":=") 451, val := Value.int 53 395 }, { hash := PyData.keyHash P (Str.ofString ";"), key := Value.str (Str.ofString ";") 453, val := Value.int 13 315 }, { hash := PyData.keyHash P (Str.ofString "<"), key := Value.str (Str.ofString "<") 455, val := Value.int 20 329 }, { hash := PyData.keyHash P (Str.ofString "<<"), key := Value.str (Str.ofString "<<") 457, val := Value.int 33 355 }, { hash := PyData.keyHash P (Str.ofString "<<="), key := Value.str (Str.ofString "<<=") 459, val := Value.int 44 377 }, { hash := PyData.keyHash P (Str.ofString "<="), key := Value.str (Str.ofString "<=") 461, val := Value.int 29 347 }, { hash := PyData.keyHash P (Str.ofString "="), key := Value.str (Str.ofString "=") 463, val := Value.int 22 333 }, { hash := PyData.keyHash P (Str.ofString "=="), key := Value.str (Str.ofString "==") 465, val := Value.int 27 343 }, { hash := PyData.keyHash P (Str.ofString ">"), key := Value.str (Str.ofString ">") 467, val := Value.int 21 331 }, { hash := PyData.keyHash P (Str.ofString ">="), key := Value.str (Str.ofString ">=") 469, val := Value.int 30 349 }, { hash := PyData.keyHash P (Str.ofString ">>"), key := Value.str (Str.ofString ">>") 470, val := Value.int 34 357 }, { hash := PyData.keyHash P (Str.ofString ">>="), key := Value.str (Str.ofString ">>=") 471, val := Value.int 45 379 }, { hash := PyData.keyHash P (Str.ofString "@"), key := Value.str (Str.ofString "@") 472, val := Value.int 49 387 }, { hash := PyData.keyHash P (Str.ofString "@="), key := Value.str (Str.ofString "@=") 473, val := Value.int 50 389 }, { hash := PyData.keyHash P (Str.ofString "["), key := Value.str (Str.ofString "[") 474, val := Value.int 9 307 }, { hash := PyData.keyHash P (Str.ofString "]"), key := Value.str (Str.ofString "]") 475, val := Value.int 10 309 }, { hash := PyData.keyHash P (Str.ofString "^"), key := Value.str (Str.ofString "^") 476, val := Value.int 32 353 }, { hash := PyData.keyHash P (Str.ofString "^="), key := Value.str (Str.ofString "^=") 477, val := Value.int 43 375 }, { hash := PyData.keyHash P (Str.ofString "{"), key := Value.str (Str.ofString "{") 478, val := Value.int 25 339 }, { hash := PyData.keyHash P (Str.ofString "|"), key := Value.str (Str.ofString "|") 479, val := Value.int 18 325 }, { hash := PyData.keyHash P (Str.ofString "|="), key := Value.str (Str.ofString "|=") 480, val := Value.int 42 373 }, { hash := PyData.keyHash P (Str.ofString "}"), key := Value.str (Str.ofString "}") 481, val := Value.int 26 341 }, { hash := PyData.keyHash P (Str.ofString "~"), key := Value.str (Str.ofString "~") 482, val := Value.int 31 351 }] 48 }
noncomputable def mk84 {p : Arguments} {b : List Stmt} {s : Scope} (_ : fdAt 63 = some (p, b, s)) : Obj := { cls := Value.type "function", data := Data.func { name := Str.ofString "ISTERMINAL", qualname := Str.ofString "ISTERMINAL", params := p, body := FuncBody.stmts b, scope := s, globals := 3, closure := [], defaults := Value.none, kwdefaults := Value.none, pyModule := Value.str (Str.ofString "cpy313.token") 299, code := Value.ref 83 } }
noncomputable def ob84 : Obj := mk84 rfl
noncomputable def mk91 {p : Arguments} {b : List Stmt} {s : Scope} (_ : fdAt 64 = some (p, b, s)) : Obj := { cls := Value.type "function", data := Data.func { name := Str.ofString "ISNONTERMINAL", qualname := Str.ofString "ISNONTERMINAL", params := p, body := FuncBody.stmts b, scope := s, globals := 3, closure := [], defaults := Value.none, kwdefaults := Value.none, pyModule := Value.str (Str.ofString "cpy313.token") 299, code := Value.ref 90 } }
noncomputable def ob91 : Obj := mk91 rfl
noncomputable def mk98 {p : Arguments} {b : List Stmt} {s : Scope} (_ : fdAt 65 = some (p, b, s)) : Obj := { cls := Value.type "function", data := Data.func { name := Str.ofString "ISEOF", qualname := Str.ofString "ISEOF", params := p, body := FuncBody.stmts b, scope := s, globals := 3, closure := [], defaults := Value.none, kwdefaults := Value.none, pyModule := Value.str (Str.ofString "cpy313.token") 299, code := Value.ref 97 } }
noncomputable def ob98 : Obj := mk98 rfl
noncomputable def mk103 {p : Arguments} {b : List Stmt} {s : Scope} (_ : fdAt 67 = some (p, b, s)) : Obj := { cls := Value.type "function", data := Data.func { name := Str.ofString "law", qualname := Str.ofString "law", params := p, body := FuncBody.stmts b, scope := s, globals := 3, closure := [], defaults := Value.none, kwdefaults := Value.none, pyModule := Value.str (Str.ofString "law_rs0210_01") 519, code := Value.ref 102 } }
noncomputable def ob103 : Obj := mk103 rfl
noncomputable def K0 : Params → Frag := fun P => (nat_lit 2, ({ cls := Value.none, data := Data.dict #[] } : Obj)) ::
  (nat_lit 3, ob3 P) ::
  (nat_lit 6, ({ cls := Value.type "dict", data := Data.dict #[] } : Obj)) ::
  (nat_lit 15, ({ cls := Value.type "tuple", data := Data.seq #[] } : Obj)) ::
  (nat_lit 17, ({ cls := Value.type "tuple", data := Data.seq #[Value.str (Str.ofString "a") 194, Value.str (Str.ofString "b") 195, Value.str (Str.ofString "n") 196, Value.str (Str.ofString "pad") 197, Value.str (Str.ofString "half_n") 198, Value.str (Str.ofString "mask") 199, Value.str (Str.ofString "b1") 200, Value.str (Str.ofString "b2") 201, Value.str (Str.ofString "q1") 202, Value.str (Str.ofString "r") 203, Value.str (Str.ofString "q2") 204] } : Obj)) ::
  (nat_lit 18, ({ cls := Value.type "tuple", data := Data.seq #[] } : Obj)) ::
  (nat_lit 20, ({ cls := Value.type "code", data := Data.fields #[Value.str (Str.ofString "_div2n1n") 191, Value.str (Str.ofString "_div2n1n") 192, Value.str (Str.ofString "/claim/cut.py") 193, Value.int 3 0, Value.int 3 0, Value.int 0 0, Value.int 0 0, Value.int 3 0, Value.ref 15, Value.bool true, Value.int 181 0, Value.ref 16, Value.none, Value.ref 17, Value.ref 18, Value.ref 19, Value.int 205 0, Value.int 3 0, Value.str (Str.ofString "/claim/cut.py") 206] } : Obj)) ::
  (nat_lit 21, ob21) ::
  (nat_lit 22, ({ cls := Value.type "tuple", data := Data.seq #[] } : Obj)) ::
  (nat_lit 24, ({ cls := Value.type "tuple", data := Data.seq #[Value.str (Str.ofString "a12") 211, Value.str (Str.ofString "a3") 212, Value.str (Str.ofString "b") 213, Value.str (Str.ofString "b1") 214, Value.str (Str.ofString "b2") 215, Value.str (Str.ofString "n") 216, Value.str (Str.ofString "q") 217, Value.str (Str.ofString "r") 218] } : Obj)) ::
  (nat_lit 25, ({ cls := Value.type "tuple", data := Data.seq #[] } : Obj)) ::
  (nat_lit 27, ({ cls := Value.type "code", data := Data.fields #[Value.str (Str.ofString "_div3n2n") 208, Value.str (Str.ofString "_div3n2n") 209, Value.str (Str.ofString "/claim/cut.py") 210, Value.int 19 0, Value.int 6 0, Value.int 0 0, Value.int 0 0, Value.int 3 0, Value.ref 22, Value.bool true, Value.int 181 0, Value.ref 23, Value.none, Value.ref 24, Value.ref 25, Value.ref 26, Value.int 219 0, Value.int 19 0, Value.str (Str.ofString "/claim/cut.py") 220] } : Obj)) ::
  (nat_lit 28, ob28) ::
  (nat_lit 29, ({ cls := Value.type "tuple", data := Data.seq #[] } : Obj)) ::
  (nat_lit 31, ({ cls := Value.type "tuple", data := Data.seq #[Value.str (Str.ofString "a") 225, Value.str (Str.ofString "n") 226] } : Obj)) ::
  (nat_lit 32, ({ cls := Value.type "tuple", data := Data.seq #[Value.str (Str.ofString "n") 227, Value.str (Str.ofString "a_digits") 228, Value.str (Str.ofString "inner") 229] } : Obj)) ::
  (nat_lit 34, ({ cls := Value.type "code", data := Data.fields #[Value.str (Str.ofString "_int2digits") 222, Value.str (Str.ofString "_int2digits") 223, Value.str (Str.ofString "/claim/cut.py") 224, Value.int 29 0, Value.int 2 0, Value.int 0 0, Value.int 0 0, Value.int 3 0, Value.ref 29, Value.bool true, Value.int 181 0, Value.ref 30, Value.none, Value.ref 31, Value.ref 32, Value.ref 33, Value.int 230 0, Value.int 29 0, Value.str (Str.ofString "/claim/cut.py") 231] } : Obj)) ::
  (nat_lit 35, ob35) ::
  (nat_lit 36, ({ cls := Value.type "tuple", data := Data.seq #[] } : Obj)) ::
  (nat_lit 38, ({ cls := Value.type "tuple", data := Data.seq #[Value.str (Str.ofString "digits") 236, Value.str (Str.ofString "n") 237] } : Obj)) ::
  (nat_lit 39, ({ cls := Value.type "tuple", data := Data.seq #[Value.str (Str.ofString "digits") 238, Value.str (Str.ofString "n") 239, Value.str (Str.ofString "inner") 240] } : Obj)) ::
  (nat_lit 41, ({ cls := Value.type "code", data := Data.fields #[Value.str (Str.ofString "_digits2int") 233, Value.str (Str.ofString "_digits2int") 234, Value.str (Str.ofString "/claim/cut.py") 235, Value.int 45 0, Value.int 2 0, Value.int 0 0, Value.int 0 0, Value.int 3 0, Value.ref 36, Value.bool true, Value.int 181 0, Value.ref 37, Value.none, Value.ref 38, Value.ref 39, Value.ref 40, Value.int 241 0, Value.int 45 0, Value.str (Str.ofString "/claim/cut.py") 242] } : Obj)) ::
  (nat_lit 42, ob42) ::
  (nat_lit 43, ({ cls := Value.type "tuple", data := Data.seq #[] } : Obj)) ::
  (nat_lit 45, ({ cls := Value.type "tuple", data := Data.seq #[Value.str (Str.ofString "a") 247, Value.str (Str.ofString "b") 248, Value.str (Str.ofString "n") 249, Value.str (Str.ofString "a_digits") 250, Value.str (Str.ofString "r") 251, Value.str (Str.ofString "q_digits") 252, Value.str (Str.ofString "a_digit") 253, Value.str (Str.ofString "q_digit") 254, Value.str (Str.ofString "q") 255] } : Obj)) ::
  (nat_lit 46, ({ cls := Value.type "tuple", data := Data.seq #[] } : Obj)) ::
  (nat_lit 48, ({ cls := Value.type "code", data := Data.fields #[Value.str (Str.ofString "_divmod_pos") 244, Value.str (Str.ofString "_divmod_pos") 245, Value.str (Str.ofString "/claim/cut.py") 246, Value.int 54 0, Value.int 2 0, Value.int 0 0, Value.int 0 0, Value.int 3 0, Value.ref 43, Value.bool true, Value.int 181 0, Value.ref 44, Value.none, Value.ref 45, Value.ref 46, Value.ref 47, Value.int 256 0, Value.int 54 0, Value.str (Str.ofString "/claim/cut.py") 257] } : Obj)) ::
  (nat_lit 49, ob49) ::
  (nat_lit 50, ({ cls := Value.type "tuple", data := Data.seq #[] } : Obj)) ::
  (nat_lit 52, ({ cls := Value.type "tuple", data := Data.seq #[Value.str (Str.ofString "a") 262, Value.str (Str.ofString "b") 263, Value.str (Str.ofString "q") 264, Value.str (Str.ofString "r") 265] } : Obj)) ::
  (nat_lit 53, ({ cls := Value.type "tuple", data := Data.seq #[] } : Obj)) ::
  (nat_lit 55, ({ cls := Value.type "code", data := Data.fields #[Value.str (Str.ofString "int_divmod") 259, Value.str (Str.ofString "int_divmod") 260, Value.str (Str.ofString "/claim/cut.py") 261, Value.int 65 0, Value.int 2 0, Value.int 0 0, Value.int 0 0, Value.int 3 0, Value.ref 50, Value.bool true, Value.int 181 0, Value.ref 51, Value.none, Value.ref 52, Value.ref 53, Value.ref 54, Value.int 266 0, Value.int 65 0, Value.str (Str.ofString "/claim/cut.py") 267] } : Obj)) ::
  (nat_lit 56, ob56) ::
  (nat_lit 57, ({ cls := Value.type "tuple", data := Data.seq #[Value.int 0 271, Value.none] } : Obj)) ::
  (nat_lit 58, ({ cls := Value.type "dict", data := Data.dict #[{ hash := PyData.keyHash P (Str.ofString "key"), key := Value.str (Str.ofString "key") 272, val := Value.none }] 1 } : Obj)) ::
  (nat_lit 59, ({ cls := Value.type "tuple", data := Data.seq #[] } : Obj)) ::
  (nat_lit 61, ({ cls := Value.type "tuple", data := Data.seq #[Value.str (Str.ofString "a") 276, Value.str (Str.ofString "x") 277, Value.str (Str.ofString "lo") 278, Value.str (Str.ofString "hi") 279, Value.str (Str.ofString "key") 280, Value.str (Str.ofString "mid") 281] } : Obj)) ::
  (nat_lit 62, ({ cls := Value.type "tuple", data := Data.seq #[] } : Obj)) ::
  (nat_lit 64, ({ cls := Value.type "code", data := Data.fields #[Value.str (Str.ofString "bisect_right") 273, Value.str (Str.ofString "bisect_right") 274, Value.str (Str.ofString "/claim/cut.py") 275, Value.int 77 0, Value.int 4 0, Value.int 0 0, Value.int 1 0, Value.int 3 0, Value.ref 59, Value.bool true, Value.int 181 0, Value.ref 60, Value.none, Value.ref 61, Value.ref 62, Value.ref 63, Value.int 282 0, Value.int 77 0, Value.str (Str.ofString "/claim/cut.py") 283] } : Obj)) ::
  (nat_lit 65, ob65) ::
  (nat_lit 66, ({ cls := Value.type "tuple", data := Data.seq #[Value.int 0 285, Value.none] } : Obj)) ::
  (nat_lit 67, ({ cls := Value.type "dict", data := Data.dict #[{ hash := PyData.keyHash P (Str.ofString "key"), key := Value.str (Str.ofString "key") 286, val := Value.none }] 1 } : Obj)) ::
  (nat_lit 68, ({ cls := Value.type "tuple", data := Data.seq #[] } : Obj)) ::
  (nat_lit 70, ({ cls := Value.type "tuple", data := Data.seq #[Value.str (Str.ofString "a") 290, Value.str (Str.ofString "x") 291, Value.str (Str.ofString "lo") 292, Value.str (Str.ofString "hi") 293, Value.str (Str.ofString "key") 294, Value.str (Str.ofString "mid") 295] } : Obj)) ::
  (nat_lit 71, ({ cls := Value.type "tuple", data := Data.seq #[] } : Obj)) ::
  (nat_lit 73, ({ cls := Value.type "code", data := Data.fields #[Value.str (Str.ofString "bisect_left") 287, Value.str (Str.ofString "bisect_left") 288, Value.str (Str.ofString "/claim/cut.py") 289, Value.int 97 0, Value.int 4 0, Value.int 0 0, Value.int 1 0, Value.int 3 0, Value.ref 68, Value.bool true, Value.int 181 0, Value.ref 69, Value.none, Value.ref 70, Value.ref 71, Value.ref 72, Value.int 296 0, Value.int 97 0, Value.str (Str.ofString "/claim/cut.py") 297] } : Obj)) ::
  (nat_lit 74, ob74) ::
  (nat_lit 75, ob75 P) ::
  (nat_lit 78, ({ cls := Value.type "tuple", data := Data.seq #[] } : Obj)) ::
  (nat_lit 80, ({ cls := Value.type "tuple", data := Data.seq #[Value.str (Str.ofString "x") 501] } : Obj)) ::
  (nat_lit 81, ({ cls := Value.type "tuple", data := Data.seq #[] } : Obj)) ::
  (nat_lit 83, ({ cls := Value.type "code", data := Data.fields #[Value.str (Str.ofString "ISTERMINAL") 498, Value.str (Str.ofString "ISTERMINAL") 499, Value.str (Str.ofString "/claim/cut.py") 500, Value.int 169 0, Value.int 1 0, Value.int 0 0, Value.int 0 0, Value.int 3 0, Value.ref 78, Value.bool true, Value.int 181 0, Value.ref 79, Value.none, Value.ref 80, Value.ref 81, Value.ref 82, Value.int 502 0, Value.int 169 0, Value.str (Str.ofString "/claim/cut.py") 503] } : Obj)) ::
  (nat_lit 84, ob84) ::
  (nat_lit 85, ({ cls := Value.type "tuple", data := Data.seq #[] } : Obj)) ::
  (nat_lit 87, ({ cls := Value.type "tuple", data := Data.seq #[Value.str (Str.ofString "x") 508] } : Obj)) ::
  (nat_lit 88, ({ cls := Value.type "tuple", data := Data.seq #[] } : Obj)) ::
  (nat_lit 90, ({ cls := Value.type "code", data := Data.fields #[Value.str (Str.ofString "ISNONTERMINAL") 505, Value.str (Str.ofString "ISNONTERMINAL") 506, Value.str (Str.ofString "/claim/cut.py") 507, Value.int 171 0, Value.int 1 0, Value.int 0 0, Value.int 0 0, Value.int 3 0, Value.ref 85, Value.bool true, Value.int 181 0, Value.ref 86, Value.none, Value.ref 87, Value.ref 88, Value.ref 89, Value.int 509 0, Value.int 171 0, Value.str (Str.ofString "/claim/cut.py") 510] } : Obj)) ::
  (nat_lit 91, ob91) ::
  (nat_lit 92, ({ cls := Value.type "tuple", data := Data.seq #[] } : Obj)) ::
  (nat_lit 94, ({ cls := Value.type "tuple", data := Data.seq #[Value.str (Str.ofString "x") 515] } : Obj)) ::
  (nat_lit 95, ({ cls := Value.type "tuple", data := Data.seq #[] } : Obj)) ::
  (nat_lit 97, ({ cls := Value.type "code", data := Data.fields #[Value.str (Str.ofString "ISEOF") 512, Value.str (Str.ofString "ISEOF") 513, Value.str (Str.ofString "/claim/cut.py") 514, Value.int 173 0, Value.int 1 0, Value.int 0 0, Value.int 0 0, Value.int 3 0, Value.ref 92, Value.bool true, Value.int 181 0, Value.ref 93, Value.none, Value.ref 94, Value.ref 95, Value.ref 96, Value.int 516 0, Value.int 173 0, Value.str (Str.ofString "/claim/cut.py") 517] } : Obj)) ::
  (nat_lit 98, ob98) ::
  (nat_lit 99, ({ cls := Value.type "tuple", data := Data.seq #[] } : Obj)) ::
  (nat_lit 102, ({ cls := Value.type "code", data := Data.fields #[Value.str (Str.ofString "law") 521, Value.str (Str.ofString "law") 522, Value.str (Str.ofString "/claim/cut.py") 523, Value.int 176 0, Value.int 1 0, Value.int 0 0, Value.int 0 0, Value.int 3 0, Value.ref 99, Value.bool true, Value.int 181 0, Value.ref 100, Value.none, Value.none, Value.none, Value.ref 101, Value.int 524 0, Value.int 176 0, Value.str (Str.ofString "/claim/cut.py") 525] } : Obj)) ::
  (nat_lit 103, ob103) :: []
noncomputable def K0a : List Addr := nat_lit 2 :: nat_lit 3 :: nat_lit 6 :: nat_lit 15 :: nat_lit 17 :: nat_lit 18 :: nat_lit 20 :: nat_lit 21 :: nat_lit 22 :: nat_lit 24 :: nat_lit 25 :: nat_lit 27 :: nat_lit 28 :: nat_lit 29 :: nat_lit 31 :: nat_lit 32 :: nat_lit 34 :: nat_lit 35 :: nat_lit 36 :: nat_lit 38 :: nat_lit 39 :: nat_lit 41 :: nat_lit 42 :: nat_lit 43 :: nat_lit 45 :: nat_lit 46 :: nat_lit 48 :: nat_lit 49 :: nat_lit 50 :: nat_lit 52 :: nat_lit 53 :: nat_lit 55 :: nat_lit 56 :: nat_lit 57 :: nat_lit 58 :: nat_lit 59 :: nat_lit 61 :: nat_lit 62 :: nat_lit 64 :: nat_lit 65 :: nat_lit 66 :: nat_lit 67 :: nat_lit 68 :: nat_lit 70 :: nat_lit 71 :: nat_lit 73 :: nat_lit 74 :: nat_lit 75 :: nat_lit 78 :: nat_lit 80 :: nat_lit 81 :: nat_lit 83 :: nat_lit 84 :: nat_lit 85 :: nat_lit 87 :: nat_lit 88 :: nat_lit 90 :: nat_lit 91 :: nat_lit 92 :: nat_lit 94 :: nat_lit 95 :: nat_lit 97 :: nat_lit 98 :: nat_lit 99 :: nat_lit 102 :: nat_lit 103 :: []
end Mine
open PySem.Calls PySem.Spec
namespace Mine
/-! # Ba -/
noncomputable abbrev Pg : Program := PySem.Challenge.rw_rs0210_01.row.prog
noncomputable abbrev KF (w : World) : Frag := Mine.K0 w.params

/-! ## values, items -/
inductive V where
  | int (n : Int) | bool (b : Bool) | none | str (s : Str) | ref (a : Addr) | any | raw (v : Value)
noncomputable def V.Is : V → Value → Prop
  | .int n, v => ∃ t, v = .int n t
  | .bool b, v => v = .bool b
  | .none, v => v = .none
  | .str s, v => ∃ t, v = .str s t
  | .ref a, v => v = .ref a
  | .any, _ => True
  | .raw x, v => v = x
noncomputable def V.In : V → Option Value → Prop
  | .any, _ => True
  | x, o => ∃ v, o = some v ∧ x.Is v
noncomputable def VsIs : List V → List Value → Prop
  | [], ws => ws = []
  | x :: r, ws => ∃ v q, ws = v :: q ∧ x.Is v ∧ VsIs r q
inductive It where
  | list (vs : List V) | tup (vs : List V) | cell (v : V) | obj (o : Obj) | ns (m : List (Str × V)) | code (q : Str)
  | fn (name qual : Str) (params : Arguments) (body : List Stmt) (scope : Scope) (clos : List (Str × Addr)) (c : Addr)
  | lit (a : Addr) (i : Nat) | rev (a : Addr) (i : Int) | rng (x left step : Int) | rngO (a b c : Int) | pair
noncomputable def NmIs : List (Str × V) → (Str → Option Value) → Prop
  | [], _ => True
  | p :: r, m => p.2.In (m p.1) ∧ NmIs r m
/-- an item holds of the object at an address of a heap -/
noncomputable def It.At (h : Heap) (a : Addr) : It → Prop
  | .list vs => ∃ ws n, h.get? a = some (listOf ws.toArray n) ∧ VsIs vs ws
  | .tup vs => ∃ ws, h.IsTuple a ws.toArray ∧ VsIs vs ws
  | .cell v => ∃ o x, h.get? a = some o ∧ o.data = .cell x ∧ v.In x
  | .obj o => h.get? a = some o
  | .ns m => ∃ m₀, h.Ns a m₀ ∧ NmIs m m₀
  | .code q => ∃ o vs t, h.get? a = some o ∧ o.data = .fields vs ∧ vs[1]? = some (.str q t)
  | .lit b i => h.IsListIter a b i
  | .rev b i => h.IsRevIter a b i
  | .rng x left step => IsRangeIter h a x left step
  | .rngO x y z => ∃ t u v, IsRange h a x y z t u v
  | .pair => ∃ x y, IsPair h a x y
  | .fn name qual params body scope clos c' => ∃ doc pm ctv, h.get? a = some (fnMade name qual params body scope clos doc pm c' ctv)

noncomputable abbrev Nm := List (Str × V)
noncomputable abbrev Lg := List (Addr × It)

structure C where
  w : World
  p : Program
  loose : List Str
  mean : ExcName → Option Value
  mg : Str → Option Value
  mb : Str → Option Value
  A₀ : Around
  base : Heap
  outer : List Env
  h₀ : Heap
  L : Addr
  env : Env
  A : Around
  n : Nat
  ns : List Str

structure C.Ok (c : C) : Prop where
  B : Below c.A₀ c.base c.outer c.h₀
  X : (KF c.w).In c.h₀
  T : Top c.p c.loose c.mean c.mg c.mb c.h₀
  H : CodeHd c.h₀ 41 37 ∧ CodeHd c.h₀ 34 30
  hA : c.A.frames = some (c.env :: c.outer)
  hf : c.env.frame = some c.L
  hL : c.env.locals = c.L
  hg : c.env.globals = mainGlobals
  hb : c.env.builtins = builtinsNs
  hk : c.env.scope.kind = .function
  hh : c.A.handled = none
  hd : c.A.depth + c.n < recursionLimit
  hu : c.A.units + 8 * c.n < cLine
  nd : c.ns.Nodup
  loc : ∀ x ∈ c.ns, c.env.kindOf x = some .local

/-- the state's meaning: names, ledger -/
structure R0 (c : C) (m : Nm) (l : Lg) (h : Heap) : Prop where
  nm : ∃ m₀, Fr c.h₀ c.L h m₀ ∧ NmIs m m₀
  ks : m.map (·.1) = c.ns
  lg : ∀ p ∈ l, (∃ o, h.get? p.1 = some o) ∧ p.1 ≠ c.L ∧ c.h₀.get? p.1 = Option.none ∧ p.2.At h p.1
  nd : (l.map (·.1)).Nodup
/-- the two tables of inner code, hidden behind the ledger -/
noncomputable def TbAt (P : Addr) (line col : Nat) (q : Str) (T : Lg) : Prop := T = [(P, .obj (tabObj #[]))] ∨ ∃ c', T = [(P, .obj (tabObj #[rawInt line, rawInt col, .ref c'])), (c', .code q)]
noncomputable def TbOk (T : Lg) : Prop := ∃ T1 T2, T = T1 ++ T2 ∧ TbAt 37 47 4 "_digits2int.<locals>.inner" T1 ∧ TbAt 30 32 4 "_int2digits.<locals>.inner" T2
noncomputable def It.code? : It → Option (Addr × Str)
  | .fn _ q _ _ _ _ c => some (c, q)
  | _ => none
noncomputable def Lk (l T : Lg) : Prop := ∀ p ∈ l, ∀ c' q, p.2.code? = some (c', q) → (c', It.code q) ∈ T
noncomputable def R (c : C) (m : Nm) (l : Lg) (h : Heap) : Prop := ∃ T, TbOk T ∧ R0 c m (l ++ T) h ∧ Lk l T

noncomputable def Sm (s₀ s : Shared) : Prop := ∃ h tk, s = { s₀ with heap := h, toks := tk }
theorem Sm.refl {s : Shared} : Sm s s := ⟨s.heap, s.toks, rfl⟩
theorem Sm.mk {s₀ s : Shared} (e : Sm s₀ s) (h : Heap) (tk : Nat) : Sm s₀ { s with heap := h, toks := tk } := by
  obtain ⟨h1, t1, rfl⟩ := e; exact ⟨h, tk, rfl⟩
theorem Sm.heap {s₀ s : Shared} (e : Sm s₀ s) (h : Heap) : Sm s₀ { s with heap := h } := by
  obtain ⟨h1, t1, rfl⟩ := e; exact ⟨h, t1, rfl⟩
theorem Sm.tok {s₀ s : Shared} (e : Sm s₀ s) (tk : Nat) : Sm s₀ { s with toks := tk } := by
  obtain ⟨h1, t1, rfl⟩ := e; exact ⟨h1, tk, rfl⟩
theorem Sm.trans {s₀ s₁ s₂ : Shared} (e : Sm s₀ s₁) (f : Sm s₁ s₂) : Sm s₀ s₂ := by
  obtain ⟨h1, t1, rfl⟩ := e; obtain ⟨h2, t2, rfl⟩ := f; exact ⟨h2, t2, rfl⟩

noncomputable abbrev FF : Value → Shared → Prop := fun _ _ => False

/-- from this state the tree ends without a raise in a value and a state of which K holds -/
noncomputable def W {α β : Type} (is : α → β → Prop) (c : C) (t : Sem β) (m : Nm) (l : Lg) (K : α → Nm → Lg → Prop) : Prop :=
  ∀ s, R c m l s.heap → wpAny (model Pg c.w) c.A t (fun b s' => ∃ a m' l', is a b ∧ R c m' l' s'.heap ∧ Sm s s' ∧ K a m' l') FF s
noncomputable abbrev WV := W V.Is
noncomputable abbrev WL := W VsIs
noncomputable abbrev WU := W (fun (_ : Unit) (_ : Unit) => True)
noncomputable abbrev WB := W (@Eq Bool)
inductive Fl where
  | next | brk | cont | ret (v : V)
noncomputable def Fl.Is : Fl → Flow → Prop
  | .next, f => f = .next
  | .brk, f => f = .brk
  | .cont, f => f = .cont
  | .ret x, f => ∃ v, f = .ret v ∧ x.Is v
noncomputable abbrev WF := W Fl.Is

section
variable {α β γ δ : Type} {is : α → β → Prop} {is' : γ → δ → Prop} {c : C} {t : Sem β} {m : Nm} {l : Lg} {K : α → Nm → Lg → Prop}
theorem W.use {s₀ s : Shared} {Q : β → Shared → Prop} (h : W is c t m l K) (e : Sm s₀ s) (r : R c m l s.heap)
    (q : ∀ a b m' l' s', is a b → R c m' l' s'.heap → Sm s₀ s' → K a m' l' → Q b s') : wpAny (model Pg c.w) c.A t Q FF s :=
  wpAny_mono (h s r) (fun b s' ⟨a, m', l', i, r', e', k⟩ => q a b m' l' s' i r' (e.trans e') k) fun _ _ x => x
theorem W.fin {s₀ s : Shared} (h : W is c t m l K) (e : Sm s₀ s) (r : R c m l s.heap) :
    wpAny (model Pg c.w) c.A t (fun b s' => ∃ a m' l', is a b ∧ R c m' l' s'.heap ∧ Sm s₀ s' ∧ K a m' l') FF s :=
  h.use e r fun a b m' l' s' i r' e' k => ⟨a, m', l', i, r', e', k⟩
theorem W.mono {K' : α → Nm → Lg → Prop} (h : W is c t m l K) (q : ∀ a m' l', K a m' l' → K' a m' l') : W is c t m l K' :=
  fun s r => h.use Sm.refl r fun a b m' l' s' i r' e' k => ⟨a, m', l', i, r', e', q _ _ _ k⟩
theorem W_bind {f : β → Sem δ} {K : γ → Nm → Lg → Prop} (h : W is c t m l fun a m' l' => ∀ b, is a b → W is' c (f b) m' l' K) : W is' c (t >>= f) m l K := by
  intro s r
  exact wpAny_bind (h.use Sm.refl r fun a b m' l' s' i r' e' k => (k b i).fin e' r')
theorem W_pure {a : α} {b : β} (i : is a b) (k : K a m l) : W is c (pure b) m l K := fun s r => wpAny_pure ⟨a, m, l, i, r, Sm.refl, k⟩
theorem W_pure' {a : α} {b : β} (i : is a b) (k : K a m l) : W is c (Sem.pure b) m l K := fun s r => wpAny_pure ⟨a, m, l, i, r, Sm.refl, k⟩
theorem W_holding {vs : List Value} (h : W is c t m l K) : W is c (holding vs t) m l K := fun s r => wpAny_holding (h s r)
theorem W_standAt {p : Pos} {f : Unit → Sem δ} {K : γ → Nm → Lg → Prop} (h : W is' c (f ()) m l K) : W is' c (standAt p >>= f) m l K :=
  fun s r => wpAny_bind (wpAny_standAt (h s r))
theorem W.looks {b : β} {f : β → Sem δ} {K : γ → Nm → Lg → Prop} (x : Looks (model Pg c.w) c.h₀ t b) (h : W is' c (f b) m l K) : W is' c (t >>= f) m l K :=
  fun s r => wpAny_bind (x c.A _ FF s (fun b o e => let ⟨_, _, r0, _⟩ := r; let ⟨_, F, _⟩ := r0.nm; F.keep b o e) (h s r))
end
theorem R.nm {c : C} {m : Nm} {l : Lg} {h : Heap} (r : R c m l h) : ∃ m₀, Fr c.h₀ c.L h m₀ ∧ NmIs m m₀ := let ⟨_, _, r, _⟩ := r; r.nm
theorem R.ks {c : C} {m : Nm} {l : Lg} {h : Heap} (r : R c m l h) : m.map (·.1) = c.ns := let ⟨_, _, r, _⟩ := r; r.ks
theorem R.lg {c : C} {m : Nm} {l : Lg} {h : Heap} (r : R c m l h) : ∀ p ∈ l, (∃ o, h.get? p.1 = some o) ∧ p.1 ≠ c.L ∧ c.h₀.get? p.1 = Option.none ∧ p.2.At h p.1 := let ⟨_, _, r, _⟩ := r; fun p hp => r.lg p (List.mem_append_left _ hp)
theorem R.keep {c : C} {m : Nm} {l : Lg} {h : Heap} (r : R c m l h) : ∀ b o, c.h₀.get? b = some o → h.get? b = some o := let ⟨_, F, _⟩ := r.nm; F.keep

/-! ## items kept, made, changed -/
theorem It.At.keep {h h' : Heap} {a : Addr} {it : It} (x : it.At h a) (e : ∀ o, h.get? a = some o → h'.get? a = some o) : it.At h' a := by
  cases it with
  | list vs => obtain ⟨ws, n, g, q⟩ := x; exact ⟨ws, n, e _ g, q⟩
  | tup vs => obtain ⟨ws, ⟨o, g, q0⟩, q⟩ := x; exact ⟨ws, ⟨o, e _ g, q0⟩, q⟩
  | cell v => obtain ⟨o, y, g, q⟩ := x; exact ⟨o, y, e _ g, q⟩
  | obj o => exact e _ x
  | ns m => obtain ⟨m₀, g, q⟩ := x; exact ⟨m₀, g.at' e, q⟩
  | code q => obtain ⟨o, vs, t, g, q⟩ := x; exact ⟨o, vs, t, e _ g, q⟩
  | lit b i => obtain ⟨o, g, q⟩ := x; exact ⟨o, e _ g, q⟩
  | rev b i => obtain ⟨o, g, q⟩ := x; exact ⟨o, e _ g, q⟩
  | rng _ _ _ => exact e _ x
  | pair => obtain ⟨p, q, g⟩ := x; exact ⟨p, q, e _ g⟩
  | rngO _ _ _ => obtain ⟨t, u, v, g⟩ := x; exact ⟨t, u, v, e _ g⟩
  | fn _ _ _ _ _ _ _ => obtain ⟨d, p, ct, g⟩ := x; exact ⟨d, p, ct, e _ g⟩

/-- one place of a list of pairs is put anew -/
inductive Put {α β : Type} (a : α) (b : β) : List (α × β) → List (α × β) → Prop
  | head {b' r} : Put a b ((a, b') :: r) ((a, b) :: r)
  | tail {p r r'} : Put a b r r' → Put a b (p :: r) (p :: r')
theorem Put.keys {α β : Type} {a : α} {b : β} {l l' : List (α × β)} (h : Put a b l l') : l'.map (·.1) = l.map (·.1) := by
  induction h with
  | head => rfl
  | tail _ ih => simp [ih]
theorem Put.key {α β : Type} {a : α} {b : β} {l l' : List (α × β)} (h : Put a b l l') : a ∈ l.map (·.1) := by
  induction h with
  | head => exact .head _
  | tail _ ih => exact .tail _ ih
theorem Put.at {α β : Type} {a : α} {b : β} {l l' : List (α × β)} (h : Put a b l l') (nd : (l.map (·.1)).Nodup) : ∀ p ∈ l', p = (a, b) ∨ (p ∈ l ∧ p.1 ≠ a) := by
  induction h with
  | head =>
    intro p hp
    rcases List.mem_cons.mp hp with rfl | hp
    · exact .inl rfl
    · refine .inr ⟨.tail _ hp, fun e => ?_⟩
      rw [List.map_cons, List.nodup_cons] at nd
      have z := List.mem_map_of_mem (f := Prod.fst) hp
      rw [e] at z
      exact nd.1 z
  | @tail q r r' h ih =>
    intro p hp
    rw [List.map_cons, List.nodup_cons] at nd
    rcases List.mem_cons.mp hp with rfl | hp
    · exact .inr ⟨.head _, fun e => nd.1 (by rw [e]; exact h.key)⟩
    · rcases ih nd.2 p hp with x | ⟨x, y⟩
      · exact .inl x
      · exact .inr ⟨.tail _ x, y⟩

section
variable {c : C} {m m' : Nm} {l l' : Lg} {h h' : Heap} {a : Addr} {it : It} {o : Obj}
theorem R0.lt (r : R0 c m l h) : ∀ p ∈ l, p.1 < h.objs.size := fun p hp => let ⟨o, ho⟩ := (r.lg p hp).1; Heap.lt_size ho
/-- the heap grows, or changes off the ledger and the frame -/
theorem R0.grow (r : R0 c m l h) (e : ∀ b o, h.get? b = some o → h'.get? b = some o) : R0 c m l h' := by
  obtain ⟨m₀, F, q⟩ := r.nm
  exact ⟨⟨m₀, ⟨F.ns.at' fun o => e _ o, fun b o x => e b o (F.keep b o x), F.above⟩, q⟩, r.ks, fun p hp => by
    obtain ⟨⟨o, ho⟩, a1, a2, a3⟩ := r.lg p hp
    exact ⟨⟨o, e _ _ ho⟩, a1, a2, a3.keep fun o => e _ o⟩, r.nd⟩
theorem R0.cons (r : R0 c m l h) (hn : ∀ p ∈ l, p.1 ≠ a) (ho : h.get? a = some o) (hL : a ≠ c.L) (h0 : c.h₀.get? a = none) (hi : it.At h a) : R0 c m ((a, it) :: l) h :=
  ⟨r.nm, r.ks, fun p hp => by
    rcases List.mem_cons.mp hp with rfl | hp
    · exact ⟨⟨o, ho⟩, hL, h0, hi⟩
    · exact r.lg p hp, by rw [List.map_cons, List.nodup_cons]; exact ⟨fun q => by obtain ⟨p, hp, e⟩ := List.mem_map.mp q; exact hn p hp e, r.nd⟩⟩
theorem R0.push (r : R0 c m l h) (hf : o.isFreed = false) (hi : it.At (h.push o) h.objs.size) : R0 c m ((h.objs.size, it) :: l) (h.push o) := by
  obtain ⟨m₀, F, _⟩ := r.nm
  refine (r.grow fun b x e => Heap.get?_push_of_some _ e).cons (fun p hp => Nat.ne_of_lt (r.lt p hp)) (Heap.get?_push_size _ hf) (Nat.ne_of_gt F.ns.lt) ?_ hi
  cases e : c.h₀.get? h.objs.size with
  | none => rfl
  | some x => exact absurd (Heap.lt_size (F.keep _ _ e)) (Nat.lt_irrefl _)
/-- an object of the ledger is changed -/
theorem R0.upd (r : R0 c m l h) (u : Put a it l l') (hs : Heap.SameBut a h h') (ho : h'.get? a = some o) (hi : it.At h' a) : R0 c m l' h' := by
  obtain ⟨m₀, F, q⟩ := r.nm
  have ha : a ≠ c.L ∧ c.h₀.get? a = none := by
    obtain ⟨p, hp, rfl⟩ := List.mem_map.mp u.key
    exact ⟨(r.lg p hp).2.1, (r.lg p hp).2.2.1⟩
  refine ⟨⟨m₀, ⟨F.ns.at' fun o e => (hs.2 _ (Ne.symm ha.1)).trans e, fun b x e => (hs.2 b fun z => by rw [z, ha.2] at e; cases e).trans (F.keep b x e), F.above⟩, q⟩, r.ks, fun p hp => ?_, by rw [u.keys]; exact r.nd⟩
  rcases u.at r.nd p hp with rfl | ⟨hp, hne⟩
  · exact ⟨⟨o, ho⟩, ha.1, ha.2, hi⟩
  · obtain ⟨⟨x, hx⟩, a1, a2, a3⟩ := r.lg p hp
    exact ⟨⟨x, (hs.2 _ hne).trans hx⟩, a1, a2, a3.keep fun o e => (hs.2 _ hne).trans e⟩
/-- part of the ledger is forgotten -/
theorem R0.sub (r : R0 c m l h) (hs : l'.Sublist l) : R0 c m l' h :=
  ⟨r.nm, r.ks, fun p hp => r.lg p (hs.subset hp), (hs.map _).nodup r.nd⟩
end
theorem NmIs.put {x : Str} {v : V} {w : Value} {m m' : Nm} {m₀ : Str → Option Value} (u : Put x v m m') (nd : (m.map (·.1)).Nodup) (hv : v.Is w) (q : NmIs m m₀) : NmIs m' fun y => if y = x then some w else m₀ y := by
  have key : ∀ {r : Nm}, NmIs r m₀ → x ∉ r.map (·.1) → NmIs r fun y => if y = x then some w else m₀ y := by
    intro r
    induction r with
    | nil => intro _ _; trivial
    | cons p r ih =>
      intro q hn
      rw [List.map_cons, List.mem_cons, not_or] at hn
      refine ⟨?_, ih q.2 hn.2⟩
      show p.2.In (if p.1 = x then some w else m₀ p.1)
      rw [if_neg (Ne.symm hn.1)]; exact q.1
  have hin : v.In (some w) := by cases v <;> first | trivial | exact ⟨_, rfl, hv⟩
  induction u with
  | head =>
    rw [List.map_cons, List.nodup_cons] at nd
    refine ⟨?_, key q.2 nd.1⟩
    show v.In (if x = x then some w else _)
    rw [if_pos rfl]; exact hin
  | @tail p r r' u ih =>
    rw [List.map_cons, List.nodup_cons] at nd
    refine ⟨?_, ih nd.2 q.2⟩
    show p.2.In (if p.1 = x then some w else m₀ p.1)
    rw [if_neg (fun e : p.1 = x => nd.1 (by rw [e]; exact u.key))]; exact q.1
theorem NmIs.get {x : Str} {v : V} {m₀ : Str → Option Value} : ∀ {m : Nm}, NmIs m m₀ → (x, v) ∈ m → v.In (m₀ x)
  | _ :: _, q, .head _ => q.1
  | _ :: _, q, .tail _ h => NmIs.get q.2 h
noncomputable def V.Known : V → Bool | .any => false | _ => true
theorem V.In.out {v : V} {o : Option Value} (h : v.In o) (k : v.Known = true) : ∃ w, o = some w ∧ v.Is w := by cases v <;> first | exact h | cases k
theorem R0.set {c : C} {m m' : Nm} {l : Lg} {h h' : Heap} {x : Str} {v : V} {w : Value} (r : R0 c m l h) (hok : c.ns.Nodup) (u : Put x v m m') (hv : v.Is w) (hn : ∀ m₀, h.Ns c.L m₀ → h'.Ns c.L fun y => if y = x then some w else m₀ y) (hs : Heap.SameBut c.L h h') : R0 c m' l h' := by
  obtain ⟨m₀, F, q⟩ := r.nm
  refine ⟨⟨_, F.set (hn m₀ F.ns) hs, q.put u (r.ks ▸ hok) hv⟩, u.keys.trans r.ks, fun p hp => ?_, r.nd⟩
  obtain ⟨⟨x, hx⟩, a1, a2, a3⟩ := r.lg p hp
  exact ⟨⟨x, (hs.2 _ a1).trans hx⟩, a1, a2, a3.keep fun o e => (hs.2 _ a1).trans e⟩

/-- the first part of the ledger is changed, all else stays -/
theorem R0.many {c : C} {m : Nm} {xs xs' l : Lg} {h h' : Heap} (r : R0 c m (xs ++ l) h) (k : ∀ b o, b ∉ xs.map (·.1) → h.get? b = some o → h'.get? b = some o)
    (n : ∀ p ∈ xs', (∃ o, h'.get? p.1 = some o) ∧ p.2.At h' p.1) (hs : (xs'.map (·.1)).Sublist (xs.map (·.1))) : R0 c m (xs' ++ l) h' := by
  obtain ⟨m₀, F, q⟩ := r.nm
  have hL : c.L ∉ xs.map (·.1) := fun e => by
    obtain ⟨p, hp, e⟩ := List.mem_map.mp e
    exact (r.lg p (List.mem_append_left _ hp)).2.1 e
  have nd := r.nd
  rw [List.map_append] at nd
  refine ⟨⟨m₀, ⟨F.ns.at' fun o e => k _ o hL e, fun b o e => k b o (fun z => ?_) (F.keep b o e), F.above⟩, q⟩, r.ks, fun p hp => ?_, ?_⟩
  · obtain ⟨p, hp, e2⟩ := List.mem_map.mp z
    have := (r.lg p (List.mem_append_left _ hp)).2.2.1
    rw [e2, e] at this; cases this
  · rcases List.mem_append.mp hp with hp | hp
    · obtain ⟨p2, hp2, e2⟩ := List.mem_map.mp (hs.subset (List.mem_map_of_mem (f := Prod.fst) hp))
      obtain ⟨_, a1, a2, _⟩ := r.lg p2 (List.mem_append_left _ hp2)
      rw [e2] at a1 a2
      exact ⟨(n p hp).1, a1, a2, (n p hp).2⟩
    · obtain ⟨⟨o, ho⟩, a1, a2, a3⟩ := r.lg p (List.mem_append_right _ hp)
      have hn : p.1 ∉ xs.map (·.1) := fun e => (List.nodup_append.mp nd).2.2 _ e _ (List.mem_map_of_mem (f := Prod.fst) hp) rfl
      exact ⟨⟨o, k _ _ hn ho⟩, a1, a2, a3.keep fun o e => k _ o hn e⟩
  · rw [List.map_append]
    exact (hs.append_right _).nodup nd
inductive Pick {α : Type} (p : α) : List α → List α → Prop
  | head {r} : Pick p (p :: r) r
  | tail {q r r'} : Pick p r r' → Pick p (q :: r) (q :: r')
theorem Pick.perm {α : Type} {p : α} {l l1 : List α} (h : Pick p l l1) : l.Perm (p :: l1) := by
  induction h with
  | head => exact .refl _
  | tail _ ih => exact (ih.cons _).trans (.swap ..)
/-- the second ledger is the first, in another order, with items forgotten -/
noncomputable def Fits (l l2 : Lg) : Prop := ∃ r, l.Perm (l2 ++ r)
theorem Fits.nil {l : Lg} : Fits l [] := ⟨l, .refl _⟩
theorem Fits.refl {l : Lg} : Fits l l := ⟨[], by simp⟩
theorem Fits.cons {p : Addr × It} {l l1 l2 : Lg} (h : Pick p l l1) (f : Fits l1 l2) : Fits l (p :: l2) := let ⟨r, q⟩ := f; ⟨r, h.perm.trans (q.cons _)⟩
theorem Fits.drop {p : Addr × It} {l l2 : Lg} (f : Fits l l2) : Fits (p :: l) l2 := let ⟨r, q⟩ := f; ⟨p :: r, (q.cons p).trans List.perm_middle.symm⟩
theorem Put.app {α β : Type} {a : α} {b : β} {l l' T : List (α × β)} (u : Put a b l l') : Put a b (l ++ T) (l' ++ T) := by
  induction u with
  | head => exact .head
  | tail _ ih => exact .tail ih
theorem Put.lk {a : Addr} {it : It} {l l' T : Lg} (u : Put a it l l') (hi : it.code? = none) (k : Lk l T) : Lk l' T := by
  induction u with
  | head => intro p hp c' q e; rcases List.mem_cons.mp hp with rfl | hp
            · rw [hi] at e; cases e
            · exact k p (.tail _ hp) c' q e
  | tail _ ih => intro p hp c' q e; rcases List.mem_cons.mp hp with rfl | hp
                 · exact k _ (.head _) c' q e
                 · exact ih (fun p hp => k p (.tail _ hp)) p hp c' q e
section
variable {c : C} {m m' : Nm} {l l' : Lg} {h h' : Heap} {a : Addr} {it : It} {o : Obj}
theorem Lk.cons {T : Lg} (k : Lk l T) (hi : it.code? = none) : Lk ((a, it) :: l) T := fun p hp c' q e => by
  rcases List.mem_cons.mp hp with rfl | hp
  · rw [hi] at e; cases e
  · exact k p hp c' q e
theorem R.many {xs xs' : Lg} (r : R c m (xs ++ l) h) (k : ∀ b o, b ∉ xs.map (·.1) → h.get? b = some o → h'.get? b = some o)
    (n : ∀ p ∈ xs', (∃ o, h'.get? p.1 = some o) ∧ p.2.At h' p.1 ∧ p.2.code? = none) (hs : (xs'.map (·.1)).Sublist (xs.map (·.1))) : R c m (xs' ++ l) h' := by
  obtain ⟨T, t, r, q⟩ := r
  refine ⟨T, t, ?_, fun p hp c' q' e => ?_⟩
  · rw [List.append_assoc] at r ⊢
    exact r.many k (fun p hp => ⟨(n p hp).1, (n p hp).2.1⟩) hs
  · rcases List.mem_append.mp hp with hp | hp
    · rw [(n p hp).2.2] at e; cases e
    · exact q p (List.mem_append_right _ hp) c' q' e
/-- the ledger's order does not count, and items may be forgotten -/
theorem R.perm {l2 : Lg} (r : R c m l h) (hs : Fits l l2) : R c m l2 h := by
  obtain ⟨T, t, r, q⟩ := r
  obtain ⟨l3, hp⟩ := hs
  refine ⟨T, t, ⟨r.nm, r.ks, fun p hp' => r.lg p ?_, ?_⟩, fun p hp' => q p (hp.mem_iff.mpr (List.mem_append_left _ hp'))⟩
  · rcases List.mem_append.mp hp' with hp' | hp'
    · exact List.mem_append_left _ (hp.mem_iff.mpr (List.mem_append_left _ hp'))
    · exact List.mem_append_right _ hp'
  · have h1 : (((l2 ++ l3) ++ T).map (·.1)).Nodup := (((hp.append_right T).map _).nodup_iff).mp r.nd
    exact ((((List.sublist_append_left l2 l3).append_right T).map _).nodup h1)
theorem R.lt (r : R c m l h) : ∀ p ∈ l, p.1 < h.objs.size := fun p hp => let ⟨o, ho⟩ := (r.lg p hp).1; Heap.lt_size ho
theorem R.grow (r : R c m l h) (e : ∀ b o, h.get? b = some o → h'.get? b = some o) : R c m l h' := let ⟨T, t, r, k⟩ := r; ⟨T, t, r.grow e, k⟩
theorem R.push (r : R c m l h) (hf : o.isFreed = false) (hi : it.At (h.push o) h.objs.size) (hc : it.code? = none) : R c m ((h.objs.size, it) :: l) (h.push o) := let ⟨T, t, r, k⟩ := r; ⟨T, t, r.push hf hi, k.cons hc⟩
theorem R.upd (r : R c m l h) (u : Put a it l l') (hs : Heap.SameBut a h h') (ho : h'.get? a = some o) (hi : it.At h' a) (hc : it.code? = none) : R c m l' h' := let ⟨T, t, r, k⟩ := r; ⟨T, t, r.upd u.app hs ho hi, u.lk hc k⟩
theorem R.sub (r : R c m l h) (hs : l'.Sublist l) : R c m l' h := let ⟨T, t, r, k⟩ := r; ⟨T, t, r.sub (hs.append_right _), fun p hp => k p (hs.subset hp)⟩
theorem R.set {x : Str} {v : V} {w : Value} (r : R c m l h) (hok : c.ns.Nodup) (u : Put x v m m') (hv : v.Is w) (hn : ∀ m₀, h.Ns c.L m₀ → h'.Ns c.L fun y => if y = x then some w else m₀ y) (hs : Heap.SameBut c.L h h') : R c m' l h' := let ⟨T, t, r, k⟩ := r; ⟨T, t, r.set hok u hv hn hs, k⟩
end
/-! # Bb -/
section
variable {c : C} {m m' : Nm} {l l' : Lg} {env : Env} {K : V → Nm → Lg → Prop} {KB : Bool → Nm → Lg → Prop} {KF' : Fl → Nm → Lg → Prop} {KU : Unit → Nm → Lg → Prop} {KL : List V → Nm → Lg → Prop} {pos : Pos}
noncomputable def Bin (c : C) (op : Operator) (a b : V) (m : Nm) (l : Lg) (K : V → Nm → Lg → Prop) : Prop := ∀ x y, a.Is x → b.Is y → WV c (binaryOp op x y) m l K
noncomputable def Cmp (c : C) (op : CmpOp) (a b : V) (m : Nm) (l : Lg) (K : V → Nm → Lg → Prop) : Prop := ∀ x y, a.Is x → b.Is y → WV c (compareOp op x y) m l K
noncomputable def Una (c : C) (op : UnaryOp) (a : V) (m : Nm) (l : Lg) (K : V → Nm → Lg → Prop) : Prop := ∀ x, a.Is x → WV c (unaryOp op x) m l K
noncomputable def Tru (c : C) (a : V) (m : Nm) (l : Lg) (K : Bool → Nm → Lg → Prop) : Prop := ∀ x, a.Is x → WB c (truthy x) m l K
noncomputable def CallA (c : C) (f : V) (args : List V) (m : Nm) (l : Lg) (K : V → Nm → Lg → Prop) : Prop := ∀ x ys, f.Is x → VsIs args ys → WV c (call x ys) m l K
noncomputable def StoreN (c : C) (env : Env) (x : Str) (v : V) (m : Nm) (l : Lg) (K : Unit → Nm → Lg → Prop) : Prop := ∀ w, v.Is w → WU c (storeName env x w) m l K
noncomputable def SetI (c : C) (o i v : V) (m : Nm) (l : Lg) (K : Unit → Nm → Lg → Prop) : Prop := ∀ x y z, o.Is x → i.Is y → v.Is z → WU c (setItem x y z) m l K
noncomputable def Sub (c : C) (ve se : Expr) (o i : V) (m : Nm) (l : Lg) (K : V → Nm → Lg → Prop) : Prop := ∀ x y, o.Is x → i.Is y → WV c (subscriptTail ve se x y) m l K
noncomputable abbrev Asg (c : C) (t : Expr) (env : Env) (v : V) (m : Nm) (l : Lg) (K : Unit → Nm → Lg → Prop) : Prop := ∀ w, v.Is w → WU c (assign t env w) m l K

/-! ### expressions -/
theorem W_int {i : Int} {k : Nat} (h : K (.int i) m l) : WV c (eval (.Constant (.int i) k pos) env) m l K :=
  fun s r => wpAny_Constant_int ⟨.int i, m, l, ⟨_, rfl⟩, r, Sm.refl.tok _, h⟩
theorem W_none {k : Nat} (h : K .none m l) : WV c (eval (.Constant .none k pos) env) m l K :=
  fun s r => wpAny_Constant_none ⟨.none, m, l, rfl, r, Sm.refl, h⟩
theorem W_str {x : Str} {k : Nat} (h : K (.str x) m l) : WV c (eval (.Constant (.str x) k pos) env) m l K :=
  fun s r => Calls.Constant_str ⟨.str x, m, l, ⟨_, rfl⟩, r, Sm.refl.tok _, h⟩
theorem W_bool {b : Bool} {k : Nat} (h : K (.bool b) m l) : WV c (eval (.Constant (.bool b) k pos) env) m l K :=
  fun s r Γ p hΓ => ⟨.bool b, m, l, rfl, r, Sm.refl, h⟩
theorem W_BinOp {a b : Expr} {op : Operator} (h : WV c (eval a env) m l fun x m1 l1 => WV c (eval b env) m1 l1 fun y m2 l2 => Bin c op x y m2 l2 K) : WV c (eval (.BinOp a op b pos) env) m l K :=
  fun s r => wpAny_BinOp (h.use Sm.refl r fun a x m1 l1 s1 ax r1 e1 k1 => W.use k1 e1 r1 fun b y m2 l2 s2 bx r2 e2 k2 => W.fin (k2 _ _ ax bx) e2 r2)
theorem W_UnaryOp {a : Expr} {op : UnaryOp} (h : WV c (eval a env) m l fun x m1 l1 => Una c op x m1 l1 K) : WV c (eval (.UnaryOp op a pos) env) m l K :=
  fun s r => UnaryOp_ (h.use Sm.refl r fun a x m1 l1 s1 ax r1 e1 k1 => W.fin (k1 _ ax) e1 r1)
theorem W_Compare {a b : Expr} {op : CmpOp} (h : WV c (eval a env) m l fun x m1 l1 => WV c (eval b env) m1 l1 fun y m2 l2 => Cmp c op x y m2 l2 K) (hb : behindInMarks op b = false := by rfl) : WV c (eval (.Compare a [op] [b] pos) env) m l K :=
  fun s r => wpAny_Compare1 (h.use Sm.refl r fun a x m1 l1 s1 ax r1 e1 k1 => W.use k1 e1 r1 fun b y m2 l2 s2 bx r2 e2 k2 => W.fin (k2 _ _ ax bx) e2 r2) hb
theorem W_Subscript {a b : Expr} (h : WV c (eval a env) m l fun x m1 l1 => WV c (eval b env) m1 l1 fun y m2 l2 => Sub c a b x y m2 l2 K) : WV c (eval (.Subscript a b pos) env) m l K :=
  fun s r => Subscript_ (h.use Sm.refl r fun a x m1 l1 s1 ax r1 e1 k1 => W.use k1 e1 r1 fun b y m2 l2 s2 bx r2 e2 k2 => W.fin (k2 _ _ ax bx) e2 r2)
theorem W_IfExp {t a b : Expr} (h : WB c (PySem.isTrue t env (eval t env)) m l fun x m1 l1 => if x = true then WV c (eval a env) m1 l1 K else WV c (eval b env) m1 l1 K) : WV c (eval (.IfExp t a b pos) env) m l K :=
  fun s r => IfExp_ (h.use Sm.refl r fun a x m1 l1 s1 ax r1 e1 k1 => by
    subst ax
    cases a with
    | true => exact W.fin k1 e1 r1
    | false => exact W.fin (by simpa using k1) e1 r1)
/-! ### tests -/
theorem T_Compare {a b : Expr} {op : CmpOp} {whole : Sem Value} (h : WV c (eval a env) m l fun x m1 l1 => WV c (eval b env) m1 l1 fun y m2 l2 => Cmp c op x y m2 l2 fun z m3 l3 => Tru c z m3 l3 KB) (hb : behindInMarks op b = false := by rfl) : WB c (PySem.isTrue (.Compare a [op] [b] pos) env whole) m l KB :=
  fun s r => wpAny_isTrue_Compare1 (h.use Sm.refl r fun a x m1 l1 s1 ax r1 e1 k1 => W.use k1 e1 r1 fun b y m2 l2 s2 bx r2 e2 k2 => W.use (k2 _ _ ax bx) e2 r2 fun d z m3 l3 s3 dx r3 e3 k3 => W.fin (k3 _ dx) e3 r3) hb
theorem T_plain {a : Expr} (h : WV c (eval a env) m l fun z m3 l3 => Tru c z m3 l3 KB) (ha : PySem.isTrue a env (eval a env) = (do let v ← eval a env; standAt a.pos; holding [v] (truthy v)) := by rfl) : WB c (PySem.isTrue a env (eval a env)) m l KB :=
  fun s r => isTrue_plain (h.use Sm.refl r fun d z m3 l3 s3 dx r3 e3 k3 => W.fin (k3 _ dx) e3 r3) ha
theorem T_not {a : Expr} {whole : Sem Value} (h : WB c (PySem.isTrue a env (eval a env)) m l fun b m1 l1 => KB (!b) m1 l1) : WB c (PySem.isTrue (.UnaryOp .Not a pos) env whole) m l KB :=
  fun s r => isTrue_not (h.use Sm.refl r fun d z m3 l3 s3 dx r3 e3 k3 => ⟨_, m3, l3, by rw [dx], r3, e3, k3⟩)
theorem T_and_nil {whole : Sem Value} (h : KB true m l) : WB c (PySem.isTrue (.BoolOp .And [] pos) env whole) m l KB := fun s r => isTrue_and_nil ⟨_, _, _, rfl, r, Sm.refl, h⟩
theorem T_or_nil {whole : Sem Value} (h : KB false m l) : WB c (PySem.isTrue (.BoolOp .Or [] pos) env whole) m l KB := fun s r => isTrue_or_nil ⟨_, _, _, rfl, r, Sm.refl, h⟩
theorem T_and {a : Expr} {rest : List Expr} {whole : Sem Value} (h : WB c (PySem.isTrue a env (eval a env)) m l fun b m1 l1 => if b = true then WB c (PySem.isTrue (.BoolOp .And rest pos) env whole) m1 l1 KB else KB false m1 l1) : WB c (PySem.isTrue (.BoolOp .And (a :: rest) pos) env whole) m l KB :=
  fun s r => isTrue_and (h.use Sm.refl r fun d z m3 l3 s3 dx r3 e3 k3 => by
    subst dx
    cases d with
    | true => exact W.fin (by simpa using k3) e3 r3
    | false => exact ⟨_, _, _, rfl, r3, e3, by simpa using k3⟩)
theorem T_or {a : Expr} {rest : List Expr} {whole : Sem Value} (h : WB c (PySem.isTrue a env (eval a env)) m l fun b m1 l1 => if b = true then KB true m1 l1 else WB c (PySem.isTrue (.BoolOp .Or rest pos) env whole) m1 l1 KB) : WB c (PySem.isTrue (.BoolOp .Or (a :: rest) pos) env whole) m l KB :=
  fun s r => isTrue_or (h.use Sm.refl r fun d z m3 l3 s3 dx r3 e3 k3 => by
    subst dx
    cases d with
    | true => exact ⟨_, _, _, rfl, r3, e3, by simpa using k3⟩
    | false => exact W.fin (by simpa using k3) e3 r3)
theorem Tru_bool {b : Bool} (h : KB b m l) : Tru c (.bool b) m l KB := by rintro x rfl s r; exact wpAny_truthy_bool ⟨_, _, _, rfl, r, Sm.refl, h⟩
theorem Tru_int {n : Int} (h : KB (n != 0) m l) : Tru c (.int n) m l KB := by rintro x ⟨t, rfl⟩ s r; exact truthy_int ⟨_, _, _, rfl, r, Sm.refl, h⟩
/-! ### ints -/
section
variable {a b : Int}
theorem B_add (h : K (.int (a + b)) m l) : Bin c .Add (.int a) (.int b) m l K := by rintro _ _ ⟨t, rfl⟩ ⟨u, rfl⟩ s r; exact add_int ⟨.int _, m, l, ⟨_, rfl⟩, r, Sm.refl.tok _, h⟩
theorem B_sub (h : K (.int (a - b)) m l) : Bin c .Sub (.int a) (.int b) m l K := by rintro _ _ ⟨t, rfl⟩ ⟨u, rfl⟩ s r; exact sub_int ⟨.int _, m, l, ⟨_, rfl⟩, r, Sm.refl.tok _, h⟩
theorem B_mul (h : K (.int (a * b)) m l) (ok : IntMulOk a b) : Bin c .Mult (.int a) (.int b) m l K := by rintro _ _ ⟨t, rfl⟩ ⟨u, rfl⟩ s r; exact mul_int ⟨.int _, m, l, ⟨_, rfl⟩, r, Sm.refl.tok _, h⟩ ok
theorem B_mod (h : K (.int (a.fmod b)) m l) (hb : b ≠ 0) : Bin c .Mod (.int a) (.int b) m l K := by rintro _ _ ⟨t, rfl⟩ ⟨u, rfl⟩ s r; exact mod_int' hb ⟨.int _, m, l, ⟨_, rfl⟩, r, Sm.refl.tok _, h⟩
theorem B_div (h : K (.int (a.fdiv b)) m l) (hb : b ≠ 0) (hn : Builtin.divisionGoesByPylong a b = false) : Bin c .FloorDiv (.int a) (.int b) m l K := by rintro _ _ ⟨t, rfl⟩ ⟨u, rfl⟩ s r; exact floordiv_int hb ⟨.int _, m, l, ⟨_, rfl⟩, r, Sm.refl.tok _, h⟩ (.inl hn)
theorem B_and (h : K (.int (Builtin.bitAnd a b)) m l) : Bin c .BitAnd (.int a) (.int b) m l K := by rintro _ _ ⟨t, rfl⟩ ⟨u, rfl⟩ s r; exact and_int ⟨.int _, m, l, ⟨_, rfl⟩, r, Sm.refl.tok _, h⟩
theorem B_or (h : K (.int (Builtin.bitOr a b)) m l) : Bin c .BitOr (.int a) (.int b) m l K := by rintro _ _ ⟨t, rfl⟩ ⟨u, rfl⟩ s r; exact or_int ⟨.int _, m, l, ⟨_, rfl⟩, r, Sm.refl.tok _, h⟩
theorem B_xor (h : K (.int (Builtin.bitXor a b)) m l) : Bin c .BitXor (.int a) (.int b) m l K := by rintro _ _ ⟨t, rfl⟩ ⟨u, rfl⟩ s r; exact xor_int ⟨.int _, m, l, ⟨_, rfl⟩, r, Sm.refl.tok _, h⟩
theorem B_shl (h : K (.int (a * 2 ^ b.toNat)) m l) (h0 : 0 ≤ b) (h1 : b ≤ 1000000) (h2 : a.natAbs < 2 ^ 64) : Bin c .LShift (.int a) (.int b) m l K := by rintro _ _ ⟨t, rfl⟩ ⟨u, rfl⟩ s r; exact lshift_int_small h0 h1 h2 ⟨.int _, m, l, ⟨_, rfl⟩, r, Sm.refl.tok _, h⟩
theorem B_shlB (h : K (.int (a * 2 ^ b.toNat)) m l) (h0 : 0 ≤ b) (h1 : (Builtin.Int.intBits a : Int) + b ≤ 2 ^ 27) : Bin c .LShift (.int a) (.int b) m l K := by rintro _ _ ⟨t, rfl⟩ ⟨u, rfl⟩ s r; exact lshift_int h0 h1 ⟨.int _, m, l, ⟨_, rfl⟩, r, Sm.refl.tok _, h⟩
theorem B_shr (h : K (.int (a.fdiv (2 ^ b.toNat))) m l) (h0 : 0 ≤ b) : Bin c .RShift (.int a) (.int b) m l K := by rintro _ _ ⟨t, rfl⟩ ⟨u, rfl⟩ s r; exact rshift_int h0 ⟨.int _, m, l, ⟨_, rfl⟩, r, Sm.refl.tok _, h⟩
theorem U_neg (h : K (.int (-a)) m l) : Una c .USub (.int a) m l K := by rintro _ ⟨t, rfl⟩ s r; exact neg_int ⟨.int _, m, l, ⟨_, rfl⟩, r, Sm.refl.tok _, h⟩
theorem U_inv (h : K (.int (Builtin.bitNot a)) m l) : Una c .Invert (.int a) m l K := by rintro _ ⟨t, rfl⟩ s r; exact invert_int ⟨.int _, m, l, ⟨_, rfl⟩, r, Sm.refl.tok _, h⟩
theorem U_not {x : V} (h : Tru c x m l fun b m1 l1 => K (.bool (!b)) m1 l1) : Una c .Not x m l K := fun x hx s r =>
  not_of ((h x hx).use Sm.refl r fun b z m1 l1 s1 bz r1 e1 k1 => ⟨.bool (!b), m1, l1, by rw [bz]; rfl, r1, e1, k1⟩)
theorem C_lt (h : K (.bool (decide (a < b))) m l) : Cmp c .Lt (.int a) (.int b) m l K := by rintro _ _ ⟨t, rfl⟩ ⟨u, rfl⟩ s r; exact lt_int ⟨.bool _, m, l, rfl, r, Sm.refl, h⟩
theorem C_le (h : K (.bool (decide (a ≤ b))) m l) : Cmp c .LtE (.int a) (.int b) m l K := by rintro _ _ ⟨t, rfl⟩ ⟨u, rfl⟩ s r; exact le_int ⟨.bool _, m, l, rfl, r, Sm.refl, h⟩
theorem C_gt (h : K (.bool (decide (b < a))) m l) : Cmp c .Gt (.int a) (.int b) m l K := by rintro _ _ ⟨t, rfl⟩ ⟨u, rfl⟩ s r; exact gt_int ⟨.bool _, m, l, rfl, r, Sm.refl, h⟩
theorem C_ge (h : K (.bool (decide (b ≤ a))) m l) : Cmp c .GtE (.int a) (.int b) m l K := by rintro _ _ ⟨t, rfl⟩ ⟨u, rfl⟩ s r; exact ge_int ⟨.bool _, m, l, rfl, r, Sm.refl, h⟩
theorem C_eq (h : K (.bool (a == b)) m l) : Cmp c .Eq (.int a) (.int b) m l K := by rintro _ _ ⟨t, rfl⟩ ⟨u, rfl⟩ s r; exact eq_int ⟨.bool _, m, l, rfl, r, Sm.refl, h⟩
theorem C_ne (h : K (.bool (!(a == b))) m l) : Cmp c .NotEq (.int a) (.int b) m l K := by rintro _ _ ⟨t, rfl⟩ ⟨u, rfl⟩ s r; exact ne_int ⟨.bool _, m, l, rfl, r, Sm.refl, h⟩
theorem C_is_bool {a b : Bool} (h : K (.bool (a == b)) m l) : Cmp c .Is (.bool a) (.bool b) m l K := by rintro _ _ rfl rfl s r; exact is_bool ⟨.bool _, m, l, rfl, r, Sm.refl, h⟩
theorem C_is_int_none (h : K (.bool false) m l) : Cmp c .Is (.int a) .none m l K := by rintro _ _ ⟨t, rfl⟩ rfl s r; exact is_int_none ⟨.bool _, m, l, rfl, r, Sm.refl, h⟩
theorem C_is_none_none (h : K (.bool true) m l) : Cmp c .Is .none .none m l K := by rintro _ _ rfl rfl s r; exact is_none_none ⟨.bool _, m, l, rfl, r, Sm.refl, h⟩
end
/-! ### names -/
theorem C.Ok.kw {c : C} (ok : c.Ok) : (c.env.scope.kind == .class || (c.env.scope.kind == .module && c.env.locals != c.env.globals)) = false := by rw [ok.hk]; rfl
theorem W_name {x : Str} {v : V} (ok : c.Ok) (hx : (x, v) ∈ m) (hv : v.Known = true) (h : K v m l) (hd : (x == ("__debug__" : Str)) = false := by decide) : WV c (eval (.Name x pos) c.env) m l K := by
  intro s r
  obtain ⟨m₀, F, q⟩ := r.nm
  obtain ⟨w, e, i⟩ := (q.get hx).out hv
  have hl : c.env.kindOf x = some .local := ok.loc x (r.ks ▸ List.mem_map_of_mem (f := Prod.fst) hx)
  exact wpAny_Name (wpAny_loadName_local ok.hk hl (ok.hL ▸ F.ns) e ⟨v, m, l, i, r, Sm.refl, h⟩) hd
theorem N_local {x : Str} {v : V} (ok : c.Ok) (u : Put x v m m') (h : KU () m' l) : StoreN c c.env x v m l KU := by
  intro w hw s r
  obtain ⟨m₀, F, q⟩ := r.nm
  have hl : c.env.kindOf x = some .local := ok.loc x (r.ks ▸ u.key)
  rw [storeName_local hl ok.kw]
  intro Γ p hΓ
  refine Sem.wp_nsSet _ Γ _ p s (ok.hL ▸ F.ns) x w _ (fun h' hn hs => ⟨(), m', l, trivial, ?_, Sm.refl.mk _ _, h⟩)
  rw [ok.hL] at hn hs
  refine r.set ok.nd u hw (fun m₁ n₁ => ?_) hs
  rwa [show m₁ = m₀ from n₁.eq_nsMap.trans F.ns.eq_nsMap.symm]
/-- a cell's value -/
theorem W_cell {x : Str} {v : V} {a : Addr} (hk : env.scope.kind = .function) (hx : env.kindOf x = some .cell ∨ env.kindOf x = some .free) (hc : env.cells.lookup x = some a) (ha : (a, It.cell v) ∈ l) (hv : v.Known = true) (h : K v m l)
    (hd : (x == ("__debug__" : Str)) = false := by decide) (hn : (x == ("__classdict__" : Str)) = false := by decide) : WV c (eval (.Name x pos) env) m l K := by
  intro s r
  obtain ⟨_, _, _, o, y, e, e2, i⟩ := r.lg _ ha
  obtain ⟨w, rfl, i2⟩ := i.out hv
  have hq : ∃ a m' l', V.Is a w ∧ R c m' l' s.heap ∧ Sm s s ∧ K a m' l' := ⟨v, m, l, i2, r, Sm.refl, h⟩
  rcases hx with hx | hx
  · exact wpAny_Name (wpAny_loadName_cell hk hx hc ⟨_, e, e2⟩ hq) hd
  · exact wpAny_Name (wpAny_loadName_free hk hx hc ⟨_, e, e2⟩ hq hn) hd
theorem W_glob {x : Str} {v : Value} {a : V} (ok : c.Ok) (e : nsIn (KF c.w) mainGlobals x = some (some v)) (ha : a.Is v) (hg : env.globals = mainGlobals) (hk : env.scope.kind = .function) (hx : env.kindOf x = some .globalImplicit) (h : K a m l)
    (hd : (x == ("__debug__" : Str)) = false := by decide) : WV c (eval (.Name x pos) env) m l K := by
  intro s r
  obtain ⟨m₀, F, q⟩ := r.nm
  exact Name_function_global hk hx (loadGlobal_global (env := env) (by rw [hg]; exact ok.T.g.keeps F.keep) (mg_of ok.X ok.T.g e) ⟨a, m, l, ha, r, Sm.refl, h⟩) hd
theorem W_boot {x : Str} {v : Value} {a : V} (ok : c.Ok) (e : nsIn (KF c.w) mainGlobals x = some none) (hv : bootBuiltins x = some v) (hn : x ≠ "__name__") (ha : a.Is v) (hg : env.globals = mainGlobals) (hb : env.builtins = builtinsNs) (hk : env.scope.kind = .function) (hx : env.kindOf x = some .globalImplicit) (h : K a m l)
    (hd : (x == ("__debug__" : Str)) = false := by decide) : WV c (eval (.Name x pos) env) m l K := by
  intro s r
  obtain ⟨m₀, F, q⟩ := r.nm
  exact Name_function_global hk hx (loadGlobal_builtin (env := env) (by rw [hg]; exact ok.T.g.keeps F.keep) (mg_none_of ok.X ok.T.g e) (by rw [hb]; exact ok.T.b.keeps F.keep) ((ok.T.builtins x hn).trans hv) ⟨a, m, l, ha, r, Sm.refl, h⟩) hd
/-! ### statements -/
theorem S_nil (h : KF' .next m l) : WF c (execs [] env) m l KF' := fun s r => wpAny_execs_nil ⟨.next, m, l, rfl, r, Sm.refl, h⟩
theorem S_cons {st : Stmt} {rest : List Stmt} (h : WF c (exec st env) m l fun f m1 l1 => match f with | .next => WF c (execs rest env) m1 l1 KF' | f => KF' f m1 l1) : WF c (execs (st :: rest) env) m l KF' :=
  fun s r => wpAny_execs_cons (h.use Sm.refl r fun f g m1 l1 s1 fg r1 e1 k1 => by
    cases f with
    | next => cases fg; exact W.fin k1 e1 r1
    | brk => cases fg; exact ⟨.brk, m1, l1, rfl, r1, e1, k1⟩
    | cont => cases fg; exact ⟨.cont, m1, l1, rfl, r1, e1, k1⟩
    | ret v => obtain ⟨w, rfl, i⟩ := fg; exact ⟨.ret v, m1, l1, ⟨w, rfl, i⟩, r1, e1, k1⟩)
theorem S_Return {e : Expr} (h : WV c (eval e env) m l fun v m1 l1 => KF' (.ret v) m1 l1) : WF c (exec (.Return (some e) pos) env) m l KF' :=
  fun s r => wpAny_Return_some (h.use Sm.refl r fun a x m1 l1 s1 ax r1 e1 k1 => ⟨.ret a, m1, l1, ⟨x, rfl, ax⟩, r1, e1, k1⟩)
theorem S_Return0 (h : KF' (.ret .none) m l) : WF c (exec (.Return none pos) env) m l KF' :=
  fun s r => wpAny_Return_none ⟨.ret .none, m, l, ⟨_, rfl, rfl⟩, r, Sm.refl, h⟩
theorem S_Continue (h : KF' .cont m l) : WF c (exec (.Continue pos) env) m l KF' :=
  fun s r => wpAny_Continue ⟨.cont, m, l, rfl, r, Sm.refl, h⟩
theorem S_If {t : Expr} {a b : List Stmt} (h : WB c (PySem.isTrue t env (eval t env)) m l fun x m1 l1 => if x = true then WF c (execs a env) m1 l1 KF' else WF c (execs b env) m1 l1 KF') : WF c (exec (.If t a b pos) env) m l KF' :=
  fun s r => wpAny_If (h.use Sm.refl r fun a x m1 l1 s1 ax r1 e1 k1 => by
    subst ax
    cases a with
    | true => exact W.fin (by simpa using k1) e1 r1
    | false => exact W.fin (by simpa using k1) e1 r1)
theorem S_Assign {x : Str} {e : Expr} {px : Pos} (h : WV c (eval e env) m l fun v m1 l1 => StoreN c env x v m1 l1 fun _ m2 l2 => KF' .next m2 l2) (hs : swapsWith e (some (.Name x px)) pos.line env = pure false := by rfl) : WF c (exec (.Assign [.Name x px] e pos) env) m l KF' :=
  fun s r => wpAny_Assign_Name (h.use Sm.refl r fun a y m1 l1 s1 ax r1 e1 k1 => W.use (k1 _ ax) e1 r1 fun u _ m2 l2 s2 _ r2 e2 k2 => ⟨.next, m2, l2, rfl, r2, e2, k2⟩) hs
theorem S_AssignSub {o i e : Expr} {px : Pos} (h : WV c (eval e env) m l fun v m1 l1 => WV c (eval o env) m1 l1 fun x m2 l2 => WV c (eval i env) m2 l2 fun y m3 l3 => SetI c x y v m3 l3 fun _ m4 l4 => KF' .next m4 l4) (hs : swapsWith e (some (.Subscript o i px)) pos.line env = pure false := by rfl) : WF c (exec (.Assign [.Subscript o i px] e pos) env) m l KF' :=
  fun s r => wpAny_Assign_Subscript (h.use Sm.refl r fun a x m1 l1 s1 ax r1 e1 k1 => W.use k1 e1 r1 fun b y m2 l2 s2 bx r2 e2 k2 => W.use k2 e2 r2 fun d z m3 l3 s3 dx r3 e3 k3 => W.use (k3 _ _ _ bx dx ax) e3 r3 fun u _ m4 l4 s4 _ r4 e4 k4 => ⟨.next, m4, l4, rfl, r4, e4, k4⟩) hs
theorem S_AssignTup {es : List Expr} {k : Nat} {tp : Pos} {e : Expr} (h : WV c (eval e env) m l fun v m1 l1 => Asg c (.Tuple es k tp) env v m1 l1 fun _ m2 l2 => KF' .next m2 l2)
    (h1 : swapsWithSole [.Tuple es k tp] e pos.line env = pure false := by rfl) (h2 : swappedStores [.Tuple es k tp] e env = pure none := by rfl) : WF c (exec (.Assign [.Tuple es k tp] e pos) env) m l KF' :=
  fun s r => Assign_Tuple (h.use Sm.refl r fun a y m1 l1 s1 ax r1 e1 k1 => W.use (k1 _ ax) e1 r1 fun u _ m2 l2 s2 _ r2 e2 k2 => ⟨.next, m2, l2, rfl, r2, e2, k2⟩) h1 h2
theorem S_While {t : Expr} {b : List Stmt} (I : Nat → Nm → Lg → Prop) {n : Nat} (h0 : I n m l)
    (turn : ∀ n m l, I n m l → WB c (PySem.isTrue t env (eval t env)) m l fun x m1 l1 => if x = true then WF c (execs b env) m1 l1 (fun f m2 l2 => match f with | .next => ∃ k, k < n ∧ I k m2 l2 | .cont => ∃ k, k < n ∧ I k m2 l2 | .brk => KF' .next m2 l2 | .ret v => KF' (.ret v) m2 l2) else KF' .next m1 l1) :
    WF c (exec (.While t b [] pos) env) m l KF' := by
  intro s r
  refine wpAny_While (codeAny_whileLoop (fun n s' => ∃ m l, R c m l s'.heap ∧ Sm s s' ∧ I n m l) ?_ n ⟨m, l, r, Sm.refl, h0⟩)
  rintro n s' ⟨m, l, r', e', hi⟩
  refine wpAny_mono ((turn n m l hi).use (Q := fun b' s₂ => if b' = true then wpAny (model Pg c.w) c.A (execs b env) (fun f s₃ => match f with
        | .next | .cont => ∃ k, k < n ∧ ∃ m l, R c m l s₃.heap ∧ Sm s s₃ ∧ I k m l
        | .brk => ∃ a m' l', Fl.Is a .next ∧ R c m' l' s₃.heap ∧ Sm s s₃ ∧ KF' a m' l'
        | .ret v => ∃ a m' l', Fl.Is a (.ret v) ∧ R c m' l' s₃.heap ∧ Sm s s₃ ∧ KF' a m' l') FF s₂ else ∃ a m' l', Fl.Is a .next ∧ R c m' l' s₂.heap ∧ Sm s s₂ ∧ KF' a m' l') e' r' ?_) ?_ (fun _ _ x => x.elim)
  · intro a x m1 l1 s1 ax r1 e1 k1
    subst ax
    cases a with
    | false =>
      simp only [Bool.false_eq_true, if_false] at k1 ⊢
      exact ⟨.next, m1, l1, rfl, r1, e1, k1⟩
    | true =>
      simp only [if_true] at k1 ⊢
      refine W.use k1 e1 r1 fun f g m2 l2 s2 fg r2 e2 k2 => ?_
      cases f with
      | next => cases fg; obtain ⟨k, hk, hI⟩ := k2; exact ⟨k, hk, m2, l2, r2, e2, hI⟩
      | cont => cases fg; obtain ⟨k, hk, hI⟩ := k2; exact ⟨k, hk, m2, l2, r2, e2, hI⟩
      | brk => cases fg; exact ⟨.next, m2, l2, rfl, r2, e2, k2⟩
      | ret v => obtain ⟨w, rfl, i⟩ := fg; exact ⟨.ret v, m2, l2, ⟨w, rfl, i⟩, r2, e2, k2⟩
  · intro b' s₂ h₂
    cases b' with
    | false => simp only [Bool.false_eq_true, if_false] at h₂ ⊢; exact wpAny_execs_nil h₂
    | true =>
      simp only [if_true] at h₂ ⊢
      exact wpAny_mono h₂ (fun f s₃ h₃ => by cases f <;> exact h₃) fun _ _ x => x.elim
end
/-! # Bc -/
theorem VsIs.length : ∀ {xs : List V} {ws : List Value}, VsIs xs ws → ws.length = xs.length
  | [], _, h => by cases h; rfl
  | _ :: _, _, ⟨_, _, e, _, r⟩ => by subst e; simp [VsIs.length r]
theorem VsIs.nil : VsIs [] [] := rfl
theorem VsIs.cons {x : V} {r : List V} {w : Value} {q : List Value} (i : x.Is w) (h : VsIs r q) : VsIs (x :: r) (w :: q) := ⟨w, q, rfl, i, h⟩
theorem VsIs.get : ∀ {xs : List V} {ws : List Value} {k : Nat} {x : V}, VsIs xs ws → xs[k]? = some x → ∃ w, ws[k]? = some w ∧ x.Is w
  | [], _, _, _, _, e => by simp at e
  | _ :: _, _, 0, _, ⟨v, q, h, i, r⟩, e => by subst h; simp at e; subst e; exact ⟨v, rfl, i⟩
  | _ :: _, _, k + 1, _, ⟨v, q, h, i, r⟩, e => by subst h; simpa using VsIs.get r (by simpa using e)
theorem VsIs.append : ∀ {xs ys : List V} {ws zs : List Value}, VsIs xs ws → VsIs ys zs → VsIs (xs ++ ys) (ws ++ zs)
  | [], _, _, _, h, g => by cases h; exact g
  | _ :: _, _, _, _, ⟨v, q, h, i, r⟩, g => by subst h; exact ⟨v, _, rfl, i, VsIs.append r g⟩
theorem VsIs.take : ∀ {xs : List V} {ws : List Value}, VsIs xs ws → ∀ k : Nat, VsIs (xs.take k) (ws.take k)
  | [], _, h, k => by cases h; simp [VsIs]
  | _ :: _, _, _, 0 => by simp [VsIs]
  | _ :: _, _, ⟨v, q, h, i, r⟩, k + 1 => by subst h; exact ⟨v, _, rfl, i, VsIs.take r k⟩
theorem VsIs.drop : ∀ {xs : List V} {ws : List Value}, VsIs xs ws → ∀ k : Nat, VsIs (xs.drop k) (ws.drop k)
  | [], _, h, k => by cases h; simp [VsIs]
  | _ :: _, _, h, 0 => by simpa using h
  | _ :: _, _, ⟨v, q, h, i, r⟩, k + 1 => by subst h; simpa using VsIs.drop r k
theorem VsIs.reverse : ∀ {xs : List V} {ws : List Value}, VsIs xs ws → VsIs xs.reverse ws.reverse
  | [], _, h => by cases h; exact rfl
  | _ :: _, _, ⟨v, q, h, i, r⟩ => by subst h; rw [List.reverse_cons, List.reverse_cons]; exact (VsIs.reverse r).append (.cons i .nil)
theorem VsIs.set : ∀ {xs : List V} {ws : List Value} {x : V} {w : Value}, VsIs xs ws → x.Is w → ∀ k : Nat, VsIs (xs.set k x) (ws.set k w)
  | [], _, _, _, h, _, k => by cases h; simp [VsIs]
  | _ :: _, _, _, _, ⟨v, q, h, i, r⟩, j, 0 => by subst h; exact ⟨_, _, rfl, j, r⟩
  | _ :: _, _, _, _, ⟨v, q, h, i, r⟩, j, k + 1 => by subst h; exact ⟨_, _, rfl, i, VsIs.set r j k⟩
theorem VsIs.rep {xs : List V} {ws : List Value} (h : VsIs xs ws) : ∀ n : Nat, VsIs (List.replicate n xs).flatten (List.replicate n ws).flatten
  | 0 => rfl
  | n + 1 => by rw [List.replicate_succ, List.replicate_succ, List.flatten_cons, List.flatten_cons]; exact h.append (VsIs.rep h n)
noncomputable abbrev nums (xs : List Int) : List V := xs.map V.int
theorem VsIs.ints' : ∀ {xs : List Int} {ws : List Value}, VsIs (nums xs) ws → IntsAre ws xs
  | [], _, h => by cases h; exact .nil
  | x :: r, _, ⟨v, q, h, ⟨t, i⟩, g⟩ => by subst h i; exact .cons _ _ (VsIs.ints' g)
theorem VsIs.ofInts : ∀ {xs : List Int} {ws : List Value}, IntsAre ws xs → VsIs (Mine.nums xs) ws
  | _, _, .nil => rfl
  | _, _, .cons k t r => ⟨_, _, rfl, ⟨t, rfl⟩, VsIs.ofInts r⟩

/-! ## the bridge to the library's ledger -/
theorem R0.via {c : C} {m : Nm} {l : Lg} {h : Heap} (r : R0 c m l h) : ∃ m₀ news, Fr c.h₀ c.L h m₀ ∧ NmIs m m₀ ∧ News c.h₀ c.L h news ∧ news.map (·.1) = l.map (·.1) := by
  obtain ⟨m₀, F, q⟩ := r.nm
  have key : ∀ l : Lg, (∀ p ∈ l, (∃ o, h.get? p.1 = some o) ∧ p.1 ≠ c.L ∧ c.h₀.get? p.1 = none ∧ p.2.At h p.1) → ∃ news, News c.h₀ c.L h news ∧ news.map (·.1) = l.map (·.1) := by
    intro l
    induction l with
    | nil => intro _; exact ⟨[], News.nil, rfl⟩
    | cons p l ih =>
      intro g
      obtain ⟨news, N, e⟩ := ih fun q hq => g q (.tail _ hq)
      obtain ⟨⟨o, ho⟩, a1, a2, _⟩ := g p (.head _)
      refine ⟨(p.1, o) :: news, fun q hq => ?_, by simp [e]⟩
      rcases List.mem_cons.mp hq with rfl | hq
      · exact ⟨ho, a1, a2⟩
      · exact N q hq
  obtain ⟨news, N, e⟩ := key l r.lg
  exact ⟨m₀, news, F, q, N, e⟩
section
variable {c : C} {m m' : Nm} {l l' : Lg} {h h' : Heap} {news news' : List (Addr × Obj)} {m₀ : Str → Option Value} {a D : Addr} {o : Obj} {it : It}
theorem R0.same (r : R0 c m l h) (N : News c.h₀ c.L h news) (e : news.map (·.1) = l.map (·.1)) (q : NmIs m m₀) (F' : Fr c.h₀ c.L h' m₀) (N' : News c.h₀ c.L h' news) : R0 c m l h' := by
  refine ⟨⟨m₀, F', q⟩, r.ks, fun p hp => ?_, r.nd⟩
  obtain ⟨⟨o, ho⟩, a1, a2, a3⟩ := r.lg p hp
  have : p.1 ∈ news.map (·.1) := by rw [e]; exact List.mem_map_of_mem (f := Prod.fst) hp
  obtain ⟨n, hn, en⟩ := List.mem_map.mp this
  have ho' : h'.get? p.1 = some o := by
    have x := (N n hn).1; have y := (N' n hn).1
    rw [en] at x y; rw [ho] at x; rw [y, ← x]
  exact ⟨⟨o, ho'⟩, a1, a2, a3.keep fun o2 e2 => by rw [ho] at e2; cases e2; exact ho'⟩
theorem R0.new (r : R0 c m l h) (N : News c.h₀ c.L h news) (e : news.map (·.1) = l.map (·.1)) (q : NmIs m m₀) (F' : Fr c.h₀ c.L h' m₀) (N' : News c.h₀ c.L h' ((D, o) :: news)) (lt : ∀ p ∈ news, p.1 < D) (hi : it.At h' D) : R0 c m ((D, it) :: l) h' := by
  have r' := r.same N e q F' fun p hp => N' p (.tail _ hp)
  have z := N' _ (.head _)
  refine r'.cons (fun p hp x => ?_) z.1 z.2.1 z.2.2 hi
  have : p.1 ∈ news.map (·.1) := by rw [e]; exact List.mem_map_of_mem (f := Prod.fst) hp
  obtain ⟨n, hn, en⟩ := List.mem_map.mp this
  have := lt n hn
  rw [en, x] at this
  exact Nat.lt_irrefl _ this
/-- what the library's rules ask and hand back, over the whole ledger -/
structure Via (c : C) (m : Nm) (l : Lg) (h : Heap) (m₀ : Str → Option Value) (news : List (Addr × Obj)) : Prop where
  keys : ∀ p ∈ l, p.1 ∈ news.map (·.1)
  same : ∀ h', Fr c.h₀ c.L h' m₀ → News c.h₀ c.L h' news → R c m l h'
  new : ∀ h' D o it, Fr c.h₀ c.L h' m₀ → News c.h₀ c.L h' ((D, o) :: news) → (∀ p ∈ news, p.1 < D) → it.At h' D → it.code? = none → R c m ((D, it) :: l) h'
theorem R.via (r : R c m l h) : ∃ m₀ news, Fr c.h₀ c.L h m₀ ∧ NmIs m m₀ ∧ News c.h₀ c.L h news ∧ Via c m l h m₀ news := by
  obtain ⟨T, t, r, k⟩ := r
  obtain ⟨m₀, news, F, q, N, e⟩ := r.via
  exact ⟨m₀, news, F, q, N, fun p hp => by rw [e]; exact List.mem_map_of_mem (f := Prod.fst) (List.mem_append_left _ hp), fun h' F' N' => ⟨T, t, r.same N e q F' N', k⟩,
    fun h' D o it F' N' lt hi hc => ⟨T, t, r.new N e q F' N' lt hi, k.cons hc⟩⟩
theorem Via.size (v : Via c m l h m₀ news) (N : News c.h₀ c.L h news) (F' : Fr c.h₀ c.L h' m₀) (N' : News c.h₀ c.L h' ((h.objs.size, o) :: news)) (hi : it.At h' h.objs.size) (hc : it.code? = none) : R c m ((h.objs.size, it) :: l) h' :=
  v.new _ _ _ _ F' N' (fun p hp => Heap.lt_size (N p hp).1) hi hc
theorem Via.apart (v : Via c m l h m₀ news) (lt : ∀ p ∈ news, p.1 < D) : ∀ p ∈ l, p.1 ≠ D := fun p hp x => by
  obtain ⟨n, hn, e9⟩ := List.mem_map.mp (v.keys p hp)
  have := lt n hn
  rw [e9, x] at this
  exact Nat.lt_irrefl _ this
theorem upd_of {o o' : Obj} : ∀ {news : List (Addr × Obj)}, (news.map (·.1)).Nodup → (a, o) ∈ news → ∃ news', Upd a o o' news news' ∧ (∀ p ∈ news, p.1 ≠ a → p ∈ news') ∧ (a, o') ∈ news'
  | [], _, hm => nomatch hm
  | p :: news, nd, hm => by
    rw [List.map_cons, List.nodup_cons] at nd
    rcases List.mem_cons.mp hm with rfl | hm
    · refine ⟨_, .head fun p hp x => nd.1 (by have z := List.mem_map_of_mem (f := Prod.fst) hp; rw [x] at z; exact z), fun p hp hne => ?_, .head _⟩
      rcases List.mem_cons.mp hp with rfl | hp
      · exact absurd rfl hne
      · exact .tail _ hp
    · obtain ⟨news', u, k, z⟩ := upd_of (o' := o') nd.2 hm
      have hp : p.1 ≠ a := fun x => nd.1 (by have z := List.mem_map_of_mem (f := Prod.fst) hm; rw [x]; exact z)
      refine ⟨p :: news', .tail hp u, fun q hq hne => ?_, .tail _ z⟩
      rcases List.mem_cons.mp hq with rfl | hq
      · exact .head _
      · exact .tail _ (k q hq hne)
/-- an object of the ledger is changed by a rule of the library -/
theorem R0.viaUpd {o o' : Obj} (r : R0 c m l h) (u : Put a it l l') (ho : h.get? a = some o) : ∃ m₀ news news', Fr c.h₀ c.L h m₀ ∧ News c.h₀ c.L h news ∧ Upd a o o' news news' ∧
    ∀ h', Fr c.h₀ c.L h' m₀ → News c.h₀ c.L h' news' → (h'.get? a = some o' → it.At h' a) → R0 c m l' h' := by
  obtain ⟨m₀, news, F, q, N, e⟩ := r.via
  have hk : a ∈ news.map (·.1) := by rw [e]; exact u.key
  obtain ⟨n, hn, en⟩ := List.mem_map.mp hk
  have ho2 : n = (a, o) := by
    have x := (N n hn).1
    rw [en, ho] at x
    exact Prod.ext en (Option.some.inj x).symm
  subst ho2
  obtain ⟨news', U, k, z⟩ := upd_of (o' := o') (by rw [e]; exact r.nd) hn
  refine ⟨m₀, news, news', F, N, U, fun h' F' N' hi => ⟨⟨m₀, F', q⟩, r.ks, fun p hp => ?_, by rw [u.keys]; exact r.nd⟩⟩
  rcases u.at r.nd p hp with rfl | ⟨hp, hne⟩
  · have y := N' _ z
    exact ⟨⟨_, y.1⟩, y.2.1, y.2.2, hi y.1⟩
  · obtain ⟨⟨x, hx⟩, a1, a2, a3⟩ := r.lg p hp
    have : p.1 ∈ news.map (·.1) := by rw [e]; exact List.mem_map_of_mem (f := Prod.fst) hp
    obtain ⟨n2, hn2, en2⟩ := List.mem_map.mp this
    have y := (N' n2 (k n2 hn2 (by rw [en2]; exact hne))).1
    have x2 := (N n2 hn2).1
    rw [en2] at y x2
    have hx' : h'.get? p.1 = some x := by rw [y, ← x2, hx]
    exact ⟨⟨x, hx'⟩, a1, a2, a3.keep fun o2 e2 => by rw [hx] at e2; cases e2; exact hx'⟩
theorem R.viaUpd {o o' : Obj} (r : R c m l h) (u : Put a it l l') (ho : h.get? a = some o) (hc : it.code? = none) : ∃ m₀ news news', Fr c.h₀ c.L h m₀ ∧ News c.h₀ c.L h news ∧ Upd a o o' news news' ∧
    ∀ h', Fr c.h₀ c.L h' m₀ → News c.h₀ c.L h' news' → (h'.get? a = some o' → it.At h' a) → R c m l' h' := by
  obtain ⟨T, t, r, k⟩ := r
  obtain ⟨m₀, news, news', F, N, U, z⟩ := r.viaUpd (o' := o') u.app ho
  exact ⟨m₀, news, news', F, N, U, fun h' F' N' hi => ⟨T, t, z h' F' N' hi, u.lk hc k⟩⟩
theorem R.list {vs : List V} (r : R c m l h) (hm : (a, It.list vs) ∈ l) : ∃ ws n, h.get? a = some (listOf ws.toArray n) ∧ VsIs vs ws := (r.lg _ hm).2.2.2
theorem isList {ws : List Value} {n : Nat} (e : h.get? a = some (listOf ws.toArray n)) : h.IsList a ws.toArray := PySem.IsL.isList (n := n) e
theorem atList {vs : List V} {ws : List Value} {n : Nat} (e : h.get? a = some (listOf ws.toArray n)) (i : VsIs vs ws) : (It.list vs).At h a := ⟨ws, n, e, i⟩
theorem atTup {vs : List V} {ws : List Value} (e : h.get? a = some { cls := .type "tuple", data := .seq ws.toArray }) (i : VsIs vs ws) : (It.tup vs).At h a := ⟨ws, ⟨_, e, rfl, _, rfl⟩, i⟩
theorem Put.mem {α β : Type} {a : α} {b : β} {l l' : List (α × β)} (u : Put a b l l') : (a, b) ∈ l' := by
  induction u with
  | head => exact .head _
  | tail _ ih => exact .tail _ ih
end
section
variable {c : C} {m m' : Nm} {l l' : Lg} {env : Env} {K : V → Nm → Lg → Prop} {KB : Bool → Nm → Lg → Prop} {KF' : Fl → Nm → Lg → Prop} {KU : Unit → Nm → Lg → Prop} {KL : List V → Nm → Lg → Prop} {pos : Pos} {a b : Addr} {vs ws : List V}
/-! ### calls -/
noncomputable def CallW (c : C) (env : Env) (pos : Pos) (f : V) (first : List V) (args : List Expr) (m : Nm) (l : Lg) (K : V → Nm → Lg → Prop) : Prop := ∀ x ys, f.Is x → VsIs first ys → WV c (callWith pos x ys (backTo pos (starEach args env)) []) m l K
noncomputable abbrev Args (c : C) (env : Env) (pos : Pos) (es : List Expr) (m : Nm) (l : Lg) (K : List V → Nm → Lg → Prop) : Prop := WL c (spliced (backTo pos (starEach es env))) m l K
theorem A_nil (h : KL [] m l) : Args c env pos [] m l KL := fun s r => spliced_nil ⟨[], m, l, rfl, r, Sm.refl, h⟩
theorem A_cons {e : Expr} {rest : List Expr} (h : WV c (eval e env) m l fun v m1 l1 => Args c env pos rest m1 l1 fun vs m2 l2 => KL (v :: vs) m2 l2) (he : starEach (e :: rest) env = (false, eval e env) :: starEach rest env := by rfl) : Args c env pos (e :: rest) m l KL :=
  fun s r => args_cons (h.use Sm.refl r fun a x m1 l1 s1 ax r1 e1 k1 => W.use k1 e1 r1 fun b y m2 l2 s2 bx r2 e2 k2 => ⟨a :: b, m2, l2, .cons ax bx, r2, e2, k2⟩) he
theorem W_Call {f : Expr} {args : List Expr} (h : WV c (eval f env) m l fun v m1 l1 => CallW c env pos v [] args m1 l1 K)
    (he : eval (.Call f args [] pos) env = (do callWith pos (← eval f env) [] (backTo pos (starEach args env)) (backToKw pos (keywordEach [] env))) := by rfl) : WV c (eval (.Call f args [] pos) env) m l K :=
  fun s r => Call_ (h.use Sm.refl r fun a x m1 l1 s1 ax r1 e1 k1 => W.fin (k1 x [] ax rfl) e1 r1) he
theorem CW_def {f : Addr} {e : Expr} {rest : List Expr} (ok : c.Ok) (hk : keepIn (KF c.w) (.ref f) = true) (h : Args c env pos (e :: rest) m l fun vs m1 l1 => CallA c (.ref f) vs m1 l1 K)
    (he : starEach (e :: rest) env = (false, eval e env) :: starEach rest env := by rfl) (hp : (backTo pos (starEach rest env)).any (·.1) = false := by rfl) : CallW c env pos (.ref f) [] (e :: rest) m l K := by
  rintro _ _ rfl rfl s r
  exact callWith_K ok.X hk (h.use Sm.refl r fun a x m1 l1 s1 ax r1 e1 k1 => ⟨ok.X.keeps r1.keep, W.fin (k1 _ x rfl ax) e1 r1⟩) he hp
theorem CW_builtin {id : String} {e : Expr} {rest : List Expr} {first : List V} (h : Args c env pos (e :: rest) m l fun vs m1 l1 => CallA c (.raw (.builtin id)) (first ++ vs) m1 l1 K)
    (he : starEach (e :: rest) env = (false, eval e env) :: starEach rest env := by rfl) (hp : (backTo pos (starEach rest env)).any (·.1) = false := by rfl) : CallW c env pos (.raw (.builtin id)) first (e :: rest) m l K := by
  rintro _ ys rfl hy s r
  exact callWith_method1 (h.use Sm.refl r fun a x m1 l1 s1 ax r1 e1 k1 => W.fin (k1 _ _ rfl (hy.append ax)) e1 r1) he hp
theorem CW_builtin0 {id : String} {first : List V} (h : CallA c (.raw (.builtin id)) first m l K) : CallW c env pos (.raw (.builtin id)) first [] m l K := by
  rintro _ ys rfl hy s r
  exact callWith_method0 (h _ _ rfl hy s r)
theorem CW_type {T : String} {e : Expr} {rest : List Expr} (h : Args c env pos (e :: rest) m l fun vs m1 l1 => CallA c (.raw (.type T)) vs m1 l1 K)
    (he : starEach (e :: rest) env = (false, eval e env) :: starEach rest env := by rfl) (hp : (backTo pos (starEach rest env)).any (·.1) = false := by rfl) : CallW c env pos (.raw (.type T)) [] (e :: rest) m l K := by
  rintro _ ys rfl rfl s r
  have hpl : (backTo pos (starEach (e :: rest) env)).any (·.1) = false := by rw [he]; show (false || (backTo pos (starEach rest env)).any (·.1)) = false; rw [hp]; rfl
  refine PyProof.Rows.callWith_type hpl ?_
  have hh := h.use Sm.refl r (Q := fun vs s1 => wpAny (model Pg c.w) c.A (call (.type T) ([] ++ vs) []) (fun b s' => ∃ a m' l', V.Is a b ∧ R c m' l' s'.heap ∧ Sm s s' ∧ K a m' l') FF s1) fun a x m1 l1 s1 ax r1 e1 k1 => W.fin (k1 _ x rfl ax) e1 r1
  rw [he] at hh ⊢
  exact evalArgs_plain hh
theorem CW_fn {f : Addr} {o : Obj} {fd : FuncData} {e : Expr} {rest : List Expr} (hd : o.data = .func fd) (h : Args c env pos (e :: rest) m l fun vs m1 l1 => (f, It.obj o) ∈ l1 ∧ CallA c (.ref f) vs m1 l1 K)
    (he : starEach (e :: rest) env = (false, eval e env) :: starEach rest env := by rfl) (hp : (backTo pos (starEach rest env)).any (·.1) = false := by rfl) : CallW c env pos (.ref f) [] (e :: rest) m l K := by
  rintro _ ys rfl rfl s r
  refine callWith_function (o := o) (fd := fd) ?_
  have hh := h.use Sm.refl r (Q := fun vs s1 => (s1.heap.get? f = some o ∧ o.data = .func fd) ∧ wpAny (model Pg c.w) c.A (call (.ref f) ([] ++ vs) []) (fun b s' => ∃ a m' l', V.Is a b ∧ R c m' l' s'.heap ∧ Sm s s' ∧ K a m' l') FF s1) fun a x m1 l1 s1 ax r1 e1 k1 => ⟨⟨(r1.lg _ k1.1).2.2.2, hd⟩, W.fin (k1.2 _ x rfl ax) e1 r1⟩
  rw [he] at hh ⊢
  exact evalArgs_plain hh
noncomputable def Meth (c : C) (env : Env) (pos : Pos) (name : Str) (o : V) (args : List Expr) (m : Nm) (l : Lg) (K : V → Nm → Lg → Prop) : Prop := ∀ x pl, o.Is x → W (@Eq (Value × List Value)) c (getMethod x name pl) m l fun fx m1 l1 => WV c (callWith pos fx.1 fx.2 (backTo pos (starEach args env)) []) m1 l1 K
theorem W_Method {o : Expr} {name : Str} {apos : Pos} {args : List Expr} {pl : Sem Bool} (h : WV c (eval o env) m l fun v m1 l1 => Meth c env pos name v args m1 l1 K)
    (he : eval (.Call (.Attribute o name apos) args [] pos) env = (do
      let ov ← eval o env
      standAt apos.atName
      let (f, first) ← holding [ov] (getMethod ov name pl)
      callWith pos f first (backTo pos (starEach args env)) []) := by rfl) : WV c (eval (.Call (.Attribute o name apos) args [] pos) env) m l K :=
  fun s r => MethodCall_ (h.use Sm.refl r fun a x m1 l1 s1 ax r1 e1 k1 => W.use (k1 x pl ax) e1 r1 fun fx fy m2 l2 s2 e r2 e2 k2 => by subst e; exact W.fin k2 e2 r2) he
theorem M_list {name : Str} {id : String} {args : List Expr} (slot : Slot "list" name id) (hty : typeOf (.builtin id) = pure (.type "method_descriptor")) (hm : (a, It.list vs) ∈ l) (h : CallW c env pos (.raw (.builtin id)) [.ref a] args m l K) : Meth c env pos name (.ref a) args m l K := by
  rintro _ pl rfl s r
  obtain ⟨ws, n, e, i⟩ := r.list hm
  refine getMethod_builtin ⟨_, e, rfl⟩ PySem.F.plainAttrs_list slot hty (fun a e2 => by cases e2; exact ⟨_, e, rfl⟩) ⟨_, m, l, rfl, r, Sm.refl, h _ _ rfl (.cons rfl .nil)⟩
theorem M_bits {n : Int} {args : List Expr} (h : CallW c env pos (.raw (.builtin "int.bit_length")) [.int n] args m l K) : Meth c env pos (Str.ofString "bit_length") (.int n) args m l K := by
  rintro _ pl ⟨t, rfl⟩ s r
  exact getMethod_int_bit_length ⟨_, m, l, rfl, r, Sm.refl, h _ _ rfl (.cons ⟨t, rfl⟩ .nil)⟩
theorem F_bits {n : Int} (h : K (.int (Builtin.Int.intBits n)) m l) : CallA c (.raw (.builtin "int.bit_length")) [.int n] m l K := by
  rintro _ _ rfl ⟨_, _, rfl, ⟨t, rfl⟩, rfl⟩ s r
  exact call_int_bit_length ⟨.int _, m, l, ⟨_, rfl⟩, r, Sm.refl.tok _, h⟩
/-! ### lists -/
theorem F_append {v : V} (hm : (a, It.list vs) ∈ l) (u : Put a (.list (vs ++ [v])) l l') (hz : vs.length ≤ 1000) (h : K .none m l') : CallA c (.raw (.builtin "list.append")) [.ref a, v] m l K := by
  rintro _ _ rfl ⟨_, _, rfl, rfl, ⟨w, _, rfl, hw, rfl⟩⟩ s r
  obtain ⟨ws, n, e, i⟩ := r.list hm
  obtain ⟨m₀, news, news', F, N, U, k⟩ := r.viaUpd (o' := listOf (ws.toArray.push w) (n + 1)) u e rfl
  refine append_K F N U (fun h' F' N' => ⟨.none, m, l', rfl, k h' F' N' fun e' => ⟨ws ++ [w], n + 1, by rw [e']; simp, i.append (.cons hw .nil)⟩, Sm.refl.heap _, h⟩) ?_
  have := i.length; have e2 : sizeLine = 16777216 := by decide
  simp only [List.size_toArray]; omega
theorem F_reverse (hm : (a, It.list vs) ∈ l) (u : Put a (.list vs.reverse) l l') (hz : vs.length ≤ 1000) (h : K .none m l') : CallA c (.raw (.builtin "list.reverse")) [.ref a] m l K := by
  rintro _ _ rfl ⟨_, _, rfl, rfl, rfl⟩ s r
  obtain ⟨ws, n, e, i⟩ := r.list hm
  obtain ⟨m₀, news, news', F, N, U, k⟩ := r.viaUpd (o' := listOf (ws.reverse).toArray n) u e rfl
  refine kl_reverse F N (by simp) U ?_ (fun h' F' N' => ⟨.none, m, l', rfl, k h' F' N' fun e' => ⟨ws.reverse, n, e', i.reverse⟩, Sm.refl.heap _, h⟩)
  have := i.length; have e2 : sizeLine = 16777216 := by decide
  simp; omega
theorem W_list {es : List Expr} (h : Args c env pos es m l fun vs m1 l1 => vs.length ≤ 1000 ∧ ∀ a, (∀ p ∈ l1, p.1 ≠ a) → K (.ref a) m1 ((a, .list vs) :: l1)) : WV c (eval (.List es pos) env) m l K :=
  fun s r => List_ (h.use Sm.refl r fun vs ws m1 l1 s1 i r1 e1 k1 => by
    obtain ⟨m₀, news, F, q, N, va⟩ := r1.via
    have e2 : sizeLine = 16777216 := by decide
    have hlen := i.length
    refine newList_N F N (fun h' F' N' => ⟨.ref _, m1, _, rfl, va.size N F' N' (atList (N' _ (.head _)).1 i) rfl, e1.heap _, k1.2 _ fun p hp => Nat.ne_of_lt (r1.lt p hp)⟩) ?_
    rw [hlen, e2]; have := k1.1; omega)
theorem W_tuple {es : List Expr} {k : Nat} (h : Args c env pos es m l fun vs m1 l1 => vs.length ≤ 1000 ∧ ∀ a, (∀ p ∈ l1, p.1 ≠ a) → K (.ref a) m1 ((a, .tup vs) :: l1)) : WV c (eval (.Tuple es k pos) env) m l K :=
  fun s r => Tuple_ (h.use Sm.refl r fun vs ws m1 l1 s1 i r1 e1 k1 => by
    obtain ⟨m₀, news, F, q, N, va⟩ := r1.via
    have e2 : sizeLine = 16777216 := by decide
    have hlen := i.length
    refine newTuple_N F N (fun h' F' N' => ⟨.ref _, m1, _, rfl, va.size N F' N' (atTup (N' _ (.head _)).1 i) rfl, e1.heap _, k1.2 _ fun p hp => Nat.ne_of_lt (r1.lt p hp)⟩) ?_
    rw [hlen, e2]; have := k1.1; omega)
theorem F_len (hm : (a, It.list vs) ∈ l) (hz : vs.length ≤ 100000) (h : K (.int vs.length) m l) : CallA c (.raw (.builtin "len")) [.ref a] m l K := by
  rintro _ _ rfl ⟨_, _, rfl, rfl, rfl⟩ s r
  obtain ⟨ws, n, e, i⟩ := r.list hm
  have hl := i.length
  refine PyProof.Rows.len_list (isList e) (by simp only [List.size_toArray]; omega) (by rw [show ws.toArray.size = vs.length by simp [hl]]; exact ⟨.int vs.length, m, l, ⟨_, rfl⟩, r, Sm.refl.tok _, h⟩)
theorem Tru_list (hm : (a, It.list vs) ∈ l) (hz : vs.length ≤ 100000) (h : KB (decide (0 < vs.length)) m l) : Tru c (.ref a) m l KB := by
  rintro _ rfl s r
  obtain ⟨ws, n, e, i⟩ := r.list hm
  have hl := i.length
  refine wpAny_truthy_list (isList e) (by simp only [List.size_toArray]; omega) ⟨_, m, l, ?_, r, Sm.refl.tok _, h⟩
  cases ws with
  | nil => simp at hl; simp [← hl]
  | cons x q => simp at hl; simp [← hl]
theorem Sub_list {ve se : Expr} {k : Int} {v : V} (hm : (a, It.list vs) ∈ l) (h0 : 0 ≤ k) (h1 : k < 2 ^ 63) (hv : vs[k.toNat]? = some v) (h : K v m l)
    (hs : ∀ u, subscripted se false (.ref a) (.int k u) = operate [.ref a, .int k u] (getItem (.ref a) (.int k u)) := by exact fun _ => rfl) (ht : ∀ x r, letTemporaryGo ve x r = pure () := by exact fun _ _ => rfl) : Sub c ve se (.ref a) (.int k) m l K := by
  rintro _ _ rfl ⟨u, rfl⟩ s r
  obtain ⟨ws, n, e, i⟩ := r.list hm
  obtain ⟨w, hw, j⟩ := i.get hv
  exact item_list (isList e) h0 h1 (x := w) (by simpa using hw) ⟨v, m, l, j, r, Sm.refl, h⟩ (hs u) (ht _)
theorem Set_list {k : Int} {v : V} (hm : (a, It.list vs) ∈ l) (u : Put a (.list (vs.set k.toNat v)) l l') (h0 : 0 ≤ k) (h1 : k < 2 ^ 63) (hn : k.toNat < vs.length) (h : KU () m l') : SetI c (.ref a) (.int k) v m l KU := by
  rintro _ _ w rfl ⟨t, rfl⟩ hw s r
  obtain ⟨ws, n, e, i⟩ := r.list hm
  have hl := i.length
  refine ki_setAt e h0 h1 (by simp only [List.size_toArray]; omega) ⟨(), m, l', trivial, ?_, Sm.refl.heap _, h⟩
  have q := PySem.IsL.update e (·.setIfInBounds k.toNat w)
  refine r.upd u (Heap.SameBut.update ..) q ⟨ws.set k.toNat w, n, ?_, i.set hw _⟩ rfl
  rw [q]; simp
theorem B_addL (ha : (a, It.list vs) ∈ l) (hb : (b, It.list ws) ∈ l) (hz : vs.length + ws.length ≤ 100000) (h : ∀ D, (∀ p ∈ l, p.1 ≠ D) → K (.ref D) m ((D, .list (vs ++ ws)) :: l)) : Bin c .Add (.ref a) (.ref b) m l K := by
  rintro _ _ rfl rfl s r
  obtain ⟨us, n, e, i⟩ := r.list ha
  obtain ⟨us2, n2, e2, i2⟩ := r.list hb
  obtain ⟨m₀, news, F, q, N, va⟩ := r.via
  have hl := i.length; have hl2 := i2.length; have hq : sizeLine = 16777216 := by decide
  exact add_lists F N (isList e) (isList e2) (fun h' F' N' => ⟨.ref _, m, _, rfl, va.size N F' N' (atList (N' _ (.head _)).1 (i.append i2)) rfl, Sm.refl.heap _, h _ fun p hp => Nat.ne_of_lt (r.lt p hp)⟩) (by omega)
theorem B_mulL {k : Int} (ha : (a, It.list vs) ∈ l) (h0 : 0 ≤ k) (hz : vs.length * k.toNat ≤ 256) (hk : k < 100000) (h : ∀ D, (∀ p ∈ l, p.1 ≠ D) → K (.ref D) m ((D, .list (List.replicate k.toNat vs).flatten) :: l)) : Bin c .Mult (.ref a) (.int k) m l K := by
  rintro _ _ rfl ⟨t, rfl⟩ s r
  obtain ⟨us, n, e, i⟩ := r.list ha
  obtain ⟨m₀, news, F, q, N, va⟩ := r.via
  have hl := i.length
  exact KMa.mul F N (isList e) (by omega) (by omega) (by rw [hl]; exact hz) rfl fun D h' F' N' lt => ⟨.ref D, m, _, rfl, va.new _ _ _ _ F' N' lt (atList (N' _ (.head _)).1 (i.rep _)) rfl, Sm.refl.heap _, h _ (va.apart lt)⟩
theorem C_neL {xs ys : List Int} (ok : c.Ok) (hn : 9 ≤ c.n) (ha : (a, It.list (nums xs)) ∈ l) (hb : (b, It.list (nums ys)) ∈ l) (h : K (.bool (!decide (xs = ys))) m l) : Cmp c .NotEq (.ref a) (.ref b) m l K := by
  rintro _ _ rfl rfl s r
  obtain ⟨us, n, e, i⟩ := r.list ha
  obtain ⟨us2, n2, e2, i2⟩ := r.list hb
  have := ok.hu
  exact ne_intsK (isList e) i.ints' (isList e2) i2.ints' (by omega) ⟨.bool _, m, l, rfl, r, Sm.refl, h⟩
theorem C_eqL {xs ys : List Int} (ok : c.Ok) (hn : 9 ≤ c.n) (ha : (a, It.list (nums xs)) ∈ l) (hb : (b, It.list (nums ys)) ∈ l) (h : K (.bool (decide (xs = ys))) m l) : Cmp c .Eq (.ref a) (.ref b) m l K := by
  rintro _ _ rfl rfl s r
  obtain ⟨us, n, e, i⟩ := r.list ha
  obtain ⟨us2, n2, e2, i2⟩ := r.list hb
  have := ok.hu
  exact eq_intsK (isList e) i.ints' (isList e2) i2.ints' (by omega) ⟨.bool _, m, l, rfl, r, Sm.refl, h⟩
end
/-! # Bd -/
theorem R0.into {c c' : C} {m m1 : Nm} {l : Lg} {h h₁ : Heap} {news : List (Addr × Obj)} {m₁ : Str → Option Value} (r : R0 c m l h) (N : News c.h₀ c.L h news) (e : news.map (·.1) = l.map (·.1))
    (F' : Fr c'.h₀ c'.L h₁ m₁) (N' : News c'.h₀ c'.L h₁ news) (q : NmIs m1 m₁) (ks : m1.map (·.1) = c'.ns) : R0 c' m1 l h₁ := by
  refine ⟨⟨m₁, F', q⟩, ks, fun p hp => ?_, r.nd⟩
  obtain ⟨⟨o, ho⟩, a1, a2, a3⟩ := r.lg p hp
  have : p.1 ∈ news.map (·.1) := by rw [e]; exact List.mem_map_of_mem (f := Prod.fst) hp
  obtain ⟨n, hn, en⟩ := List.mem_map.mp this
  have x := (N n hn).1; have y := N' n hn
  rw [en] at x y
  rw [ho] at x
  have ho' : h₁.get? p.1 = some o := by rw [y.1, ← x]
  exact ⟨⟨o, ho'⟩, y.2.1, y.2.2, a3.keep fun o2 e2 => by rw [ho] at e2; cases e2; exact ho'⟩
theorem R0.back {c c' : C} {m m2 : Nm} {l2 : Lg} {h' : Heap} {news' : List (Addr × Obj)} {m₀ : Str → Option Value} (ks : m.map (·.1) = c.ns) (r' : R0 c' m2 l2 h') (q : NmIs m m₀) (e : news'.map (·.1) = l2.map (·.1))
    (F : Fr c.h₀ c.L h' m₀) (N : News c.h₀ c.L h' news') : R0 c m l2 h' := by
  refine ⟨⟨m₀, F, q⟩, ks, fun p hp => ?_, r'.nd⟩
  obtain ⟨⟨o, ho⟩, a1, a2, a3⟩ := r'.lg p hp
  have : p.1 ∈ news'.map (·.1) := by rw [e]; exact List.mem_map_of_mem (f := Prod.fst) hp
  obtain ⟨n, hn, en⟩ := List.mem_map.mp this
  have y := N n hn
  rw [en] at y
  exact ⟨⟨o, ho⟩, y.2.1, y.2.2, a3⟩

noncomputable def C.in (c : C) (g : Heap) (L' : Addr) (env' : Env) (ns : List Str) : C :=
  { w := c.w, p := c.p, loose := c.loose, mean := c.mean, mg := c.mg, mb := c.mb, A₀ := c.A, base := c.base, outer := c.env :: c.outer, h₀ := g, L := L', env := env', A := c.A.deeper env', n := c.n - 1, ns := ns }
theorem C.Ok.in {c : C} (ok : c.Ok) (hn : 1 ≤ c.n) {g : Heap} {L' : Addr} {env' : Env} {ns : List Str} (B : Below c.A c.base (c.env :: c.outer) g) (st : c.h₀.StaysIn g) (hf : env'.frame = some L') (hL : env'.locals = L') (hg : env'.globals = mainGlobals) (hb : env'.builtins = builtinsNs) (hk : env'.scope.kind = .function)
    (nd : ns.Nodup) (loc : ∀ x ∈ ns, env'.kindOf x = some .local) : (c.in g L' env' ns).Ok where
  B := B
  X := ok.X.keeps st
  T := ok.T.keeps st
  H := ⟨ok.H.1.keeps st, ok.H.2.keeps st⟩
  hA := Around.frames_deeper ok.hA
  hf := hf
  hL := hL
  hg := hg
  hb := hb
  hk := hk
  hh := ok.hh
  hd := by have := ok.hd; show c.A.depth + 1 + (c.n - 1) < recursionLimit; omega
  hu := by have := ok.hu; show c.A.units + 3 + 8 * (c.n - 1) < cLine; omega
  nd := nd
  loc := loc

section
variable {c : C} {m m1 : Nm} {l : Lg} {K : V → Nm → Lg → Prop} {f : Addr} {args : List V} {name qual : Str} {params : Arguments} {body : List Stmt} {scope : Scope} {cl : List (Str × Addr)} {dV kV doc pm cdv ct : Value} {an : Option Addr} {ns : List Str}
/-- the code of a def's body ends well in its own frame: the call gives back its value -/
noncomputable def Body (c : C) (K : V → Nm → Lg → Prop) (m : Nm) : Fl → Nm → Lg → Prop := fun fl _ l2 => K (match fl with | .ret v => v | _ => .none) m l2

theorem F_plain_at {s : Shared} {ys : List Value} (ok : c.Ok) (hn : 1 ≤ c.n) (r : R c m l s.heap) (fo : ∃ o, s.heap.get? f = some o ∧ o.data = .func (fnX name qual params body scope cl dV kV doc pm an cdv ct)) (hcd : s.heap.CodeRec cdv qual)
    (hb : ∃ binds, BindsTo s (fnX name qual params body scope cl dV kV doc pm an cdv ct) ⟨ys, []⟩ binds ∧ NmIs m1 (fun y => binds.reverse.lookup y) ∧ ∀ y ∈ binds, scope.names.lookup y.1 = some .local)
    (hm1 : m1.map (·.1) = ns) (nd : ns.Nodup) (loc : ∀ x ∈ ns, scope.names.lookup x = some .local) (hcell : ∀ x ∈ scope.names, x.2 ≠ .cell) (hco : scope.isCoroutine = false) (hgen : scope.isGenerator = false) (hk : scope.kind = .function)
    (hbody : ∀ c' : C, c'.Ok → c'.env = envX qual scope c'.L f cdv cl → c'.w = c.w → c'.n = c.n - 1 → c'.ns = ns → WF c' (execs body c'.env) m1 l (Body c K m)) :
    wpAny (model Pg c.w) c.A (call (.ref f) ys) (fun b s' => ∃ a m' l', V.Is a b ∧ R c m' l' s'.heap ∧ Sm s s' ∧ K a m' l') FF s := by
  obtain ⟨T, t, r0, kk⟩ := id r
  obtain ⟨m₀, news, F, q, N, en⟩ := r0.via
  obtain ⟨o, ho, hd⟩ := fo
  obtain ⟨binds, hbi, hnm, hloc⟩ := hb
  refine wpAny_call (callX_plain (cl := cl) ok.B F N ok.T.nolimit ok.hA ok.hf ok.hk ho hd hcd (by have := ok.hd; omega) hbi hloc (fun g L' h₁ FG F' N' B' st lt => ?_) hcell hco hgen hk)
  have ok' : (c.in g L' (envX qual scope L' f cdv cl) ns).Ok := ok.in hn B' st rfl rfl rfl rfl hk nd loc
  have r' : R (c.in g L' (envX qual scope L' f cdv cl) ns) m1 l h₁ := ⟨T, t, r0.into N en F' N' hnm hm1, kk⟩
  have hw := hbody (c.in g L' (envX qual scope L' f cdv cl) ns) ok' rfl rfl rfl rfl
  have e0 : Sm s { s with heap := h₁, toks := s.toks + binds.length } := Sm.refl.mk _ _
  refine wpAny_mono (hw.use e0 r' (fun fl fx m2 l2 s2 fi r2 e2 k2 => ?_)) (fun _ _ x => x) (fun _ _ x => x.elim)
  obtain ⟨T2, t2, r2, kk2⟩ := r2
  obtain ⟨m₂, news2, F2, q2, N2, en2⟩ := r2.via
  refine ⟨L', m₂, news2, F2, N2, fun F3 N3 => ?_⟩
  have rb : R c m l2 _ := ⟨T2, t2, R0.back r0.ks r2 q en2 F3 N3, kk2⟩
  cases fl with
  | ret v => obtain ⟨w, rfl, i⟩ := fi; exact ⟨v, m, l2, i, rb, e2, k2⟩
  | next => cases fi; exact ⟨.none, m, l2, rfl, rb, e2, k2⟩
  | brk => cases fi; exact ⟨.none, m, l2, rfl, rb, e2, k2⟩
  | cont => cases fi; exact ⟨.none, m, l2, rfl, rb, e2, k2⟩

theorem F_plain (ok : c.Ok) (hn : 1 ≤ c.n) (fo : ∀ h, R c m l h → ∃ o, h.get? f = some o ∧ o.data = .func (fnX name qual params body scope cl dV kV doc pm an cdv ct)) (hcd : ∀ h, R c m l h → h.CodeRec cdv qual)
    (hb : ∀ ys, VsIs args ys → ∃ binds, (∀ s, R c m l s.heap → BindsTo s (fnX name qual params body scope cl dV kV doc pm an cdv ct) ⟨ys, []⟩ binds) ∧ NmIs m1 (fun y => binds.reverse.lookup y) ∧ ∀ y ∈ binds, scope.names.lookup y.1 = some .local)
    (hm1 : m1.map (·.1) = ns) (nd : ns.Nodup) (loc : ∀ x ∈ ns, scope.names.lookup x = some .local) (hcell : ∀ x ∈ scope.names, x.2 ≠ .cell) (hco : scope.isCoroutine = false) (hgen : scope.isGenerator = false) (hk : scope.kind = .function)
    (hbody : ∀ c' : C, c'.Ok → c'.env = envX qual scope c'.L f cdv cl → c'.w = c.w → c'.n = c.n - 1 → c'.ns = ns → WF c' (execs body c'.env) m1 l (Body c K m)) : CallA c (.ref f) args m l K := by
  rintro _ ys rfl hys s r
  obtain ⟨binds, hbi, hnm, hloc⟩ := hb ys hys
  exact F_plain_at ok hn r (fo _ r) (hcd _ r) ⟨binds, hbi s r, hnm, hloc⟩ hm1 nd loc hcell hco hgen hk hbody

noncomputable def cellIts (cv : Str → V) (cs : List (Str × Addr)) : Lg := cs.map fun p => (p.2, .cell (cv p.1))
theorem cellsAre_its {cm : Str → Option Value} {cv : Str → V} (h : ∀ x, (cv x).In (cm x)) : ∀ {cs : List (Str × Addr)} {cells : List (Addr × Obj)}, CellsAre cm cs cells → cells.map (·.1) = (cellIts cv cs).map (·.1) ∧ ∀ (H : Heap), (∀ p ∈ cells, H.get? p.1 = some p.2) → ∀ p ∈ cellIts cv cs, p.2.At H p.1
  | _, _, .nil => ⟨rfl, fun _ _ _ hp => nomatch hp⟩
  | _, _, .cons (n := n) (c := c) (o := o) hd r => by
    obtain ⟨i1, i2⟩ := cellsAre_its h r
    refine ⟨by simp only [List.map_cons, cellIts] at i1 ⊢; rw [i1], fun H hH p hp => ?_⟩
    rcases List.mem_cons.mp hp with rfl | hp
    · exact ⟨o, _, hH _ (.head _), hd, h n⟩
    · exact i2 H (fun p hp => hH p (.tail _ hp)) p hp
theorem F_cells {cv : Str → V} (ok : c.Ok) (hn : 1 ≤ c.n) (fo : ∀ h, R c m l h → ∃ o, h.get? f = some o ∧ o.data = .func (fnX name qual params body scope [] dV kV doc pm an cdv ct)) (hcd : ∀ h, R c m l h → h.CodeRec cdv qual)
    (hb : ∀ ys, VsIs args ys → ∃ binds, (∀ s, R c m l s.heap → BindsTo s (fnX name qual params body scope [] dV kV doc pm an cdv ct) ⟨ys, []⟩ binds) ∧ (∀ L, NmIs m1 (bindL (envOfC qual scope L f cdv).kindOf binds fun _ => none)) ∧
      (∀ L x, (cv x).In (bindC (envOfC qual scope L f cdv).kindOf binds (fun _ => none) x)) ∧ (binds.all fun y => scope.names.lookup y.1 == some .local || scope.names.lookup y.1 == some .cell) = true)
    (hm1 : m1.map (·.1) = ns) (nd : ns.Nodup) (loc : ∀ x ∈ ns, scope.names.lookup x = some .local) (hnd : ((cellsFrom 0 scope.names []).map (·.1)).Nodup) (hndA : ∀ L, ((cellsFrom (L + 1) scope.names []).map (·.2)).Nodup) (hge : ∀ L, ∀ p ∈ cellsFrom (L + 1) scope.names [], L < p.2)
    (hco : scope.isCoroutine = false) (hgen : scope.isGenerator = false) (hk : scope.kind = .function)
    (hbody : ∀ c' : C, c'.Ok → c'.env = envX qual scope c'.L f cdv (cellsFrom (c'.L + 1) scope.names []) → c'.w = c.w → c'.n = c.n - 1 → c'.ns = ns → (∀ p ∈ l, p.1 < c'.L) → WF c' (execs body c'.env) m1 (cellIts cv (cellsFrom (c'.L + 1) scope.names []) ++ l) (Body c K m)) : CallA c (.ref f) args m l K := by
  rintro _ ys rfl hys s r
  obtain ⟨T, t, r0, kk⟩ := id r
  obtain ⟨m₀, news, F, q, N, en⟩ := r0.via
  obtain ⟨o, ho, hd⟩ := fo _ r
  obtain ⟨binds, hbi, hnm, hcv, hloc⟩ := hb ys hys
  refine wpAny_call (callX_cells ok.B F N ok.T.nolimit ok.hA ok.hf ok.hk ho hd (hcd _ r) (by have := ok.hd; omega) (hbi s r) (kindsX hloc) hnd (fun g L' h₁ tk cells FG F' N' Y B' st lt => ?_) hco hgen hk)
  have ok' : (c.in g L' (envX qual scope L' f cdv (cellsFrom (L' + 1) scope.names [])) ns).Ok := ok.in hn B' st rfl rfl rfl rfl hk nd loc
  have lt' : ∀ p ∈ l, p.1 < L' := fun p hp => by
    have : p.1 ∈ news.map (·.1) := by rw [en]; exact List.mem_map_of_mem (f := Prod.fst) (List.mem_append_left _ hp)
    obtain ⟨n, hn, e9⟩ := List.mem_map.mp this
    have := lt n hn
    rwa [e9] at this
  have lt9 : ∀ p ∈ l ++ T, p.1 < L' := fun p hp => by
    have : p.1 ∈ news.map (·.1) := by rw [en]; exact List.mem_map_of_mem (f := Prod.fst) hp
    obtain ⟨n, hn, e9⟩ := List.mem_map.mp this
    have := lt n hn
    rwa [e9] at this
  obtain ⟨ck, ca⟩ := cellsAre_its (hcv L') Y
  have r1 : R0 (c.in g L' (envX qual scope L' f cdv (cellsFrom (L' + 1) scope.names [])) ns) m1 (l ++ T) h₁ := r0.into N en F' (fun p hp => N' p (List.mem_append_right _ hp)) (hnm L') hm1
  have r' : R (c.in g L' (envX qual scope L' f cdv (cellsFrom (L' + 1) scope.names [])) ns) m1 (cellIts cv (cellsFrom (L' + 1) scope.names []) ++ l) h₁ := by
    have lk : Lk (cellIts cv (cellsFrom (L' + 1) scope.names []) ++ l) T := fun p hp c' q e => by
      rcases List.mem_append.mp hp with hp | hp
      · obtain ⟨p', hp', rfl⟩ := List.mem_map.mp hp; cases e
      · exact kk p hp c' q e
    refine ⟨T, t, ?_, lk⟩
    rw [List.append_assoc]
    refine ⟨r1.nm, r1.ks, fun p hp => ?_, ?_⟩
    · rcases List.mem_append.mp hp with hp | hp
      · have : p.1 ∈ cells.map (·.1) := by rw [ck]; exact List.mem_map_of_mem (f := Prod.fst) hp
        obtain ⟨n, hn, e9⟩ := List.mem_map.mp this
        have z := N' n (List.mem_append_left _ hn)
        rw [e9] at z
        exact ⟨⟨_, z.1⟩, z.2.1, z.2.2, ca _ (fun p hp => (N' p (List.mem_append_left _ hp)).1) p hp⟩
      · exact r1.lg p hp
    · rw [List.map_append]
      refine List.nodup_append.mpr ⟨?_, r1.nd, ?_⟩
      · have : (cellIts cv (cellsFrom (L' + 1) scope.names [])).map (·.1) = (cellsFrom (L' + 1) scope.names []).map (·.2) := by simp [cellIts, Function.comp_def]
        rw [this]; exact hndA L'
      · intro x hx y hy e
        obtain ⟨p, hp, rfl⟩ := List.mem_map.mp hx
        obtain ⟨q, hq, rfl⟩ := List.mem_map.mp hy
        obtain ⟨p', hp', rfl⟩ := List.mem_map.mp hp
        have z1 := hge L' p' hp'
        have z2 := lt9 q hq
        have e' : p'.2 = q.1 := e
        rw [e'] at z1
        exact Nat.lt_irrefl _ (Nat.lt_trans z1 z2)
  have hw := hbody (c.in g L' (envX qual scope L' f cdv (cellsFrom (L' + 1) scope.names [])) ns) ok' rfl rfl rfl rfl lt'
  have e0 : Sm s { s with heap := h₁, toks := tk } := Sm.refl.mk _ _
  refine wpAny_mono (hw.use e0 r' (fun fl fx m2 l2 s2 fi r2 e2 k2 => ?_)) (fun _ _ x => x) (fun _ _ x => x.elim)
  obtain ⟨T2, t2, r2, kk2⟩ := r2
  obtain ⟨m₂, news2, F2, q2, N2, en2⟩ := r2.via
  refine ⟨L', m₂, news2, F2, N2, fun F3 N3 => ?_⟩
  have rb : R c m l2 _ := ⟨T2, t2, R0.back r0.ks r2 q en2 F3 N3, kk2⟩
  cases fl with
  | ret v => obtain ⟨w, rfl, i⟩ := fi; exact ⟨v, m, l2, i, rb, e2, k2⟩
  | next => cases fi; exact ⟨.none, m, l2, rfl, rb, e2, k2⟩
  | brk => cases fi; exact ⟨.none, m, l2, rfl, rb, e2, k2⟩
  | cont => cases fi; exact ⟨.none, m, l2, rfl, rb, e2, k2⟩
/-- weakening -/
theorem W.sub {α β : Type} {is : α → β → Prop} {t : Sem β} {m : Nm} {l l' : Lg} {K : α → Nm → Lg → Prop} (h : W is c t m l' K) (hs : l'.Sublist l) : W is c t m l K := fun s r => h s (r.sub hs)
theorem NmIs.forget {x : Str} {m₀ : Str → Option Value} {m m' : Nm} (u : Put x V.any m m') (q : NmIs m m₀) : NmIs m' m₀ := by
  induction u with
  | head => exact ⟨trivial, q.2⟩
  | tail _ ih => exact ⟨q.1, ih q.2⟩
theorem W.forget {α β : Type} {is : α → β → Prop} {t : Sem β} {m m' : Nm} {l : Lg} {x : Str} {K : α → Nm → Lg → Prop} (h : W is c t m' l K) (u : Put x V.any m m') : W is c t m l K := fun s r =>
  h s (let ⟨T, t, r, k⟩ := r; ⟨T, t, ⟨let ⟨m₀, F, q⟩ := r.nm; ⟨m₀, F, q.forget u⟩, u.keys.trans r.ks, r.lg, r.nd⟩, k⟩)
end
/-! # Be -/
section
variable {c : C} {m m1 : Nm} {l : Lg} {K : V → Nm → Lg → Prop} {f : Addr} {args : List V} {name qual : Str} {params : Arguments} {body : List Stmt} {scope : Scope} {dV kV doc pm cdv ct oc : Value} {an od : Option Addr} {osl : Array (Option Value)} {ns : List Str}
theorem F_K (ok : c.Ok) (hn : 1 ≤ c.n) (ho : (KF c.w).lookup f = some ⟨oc, od, .func (fnX name qual params body scope [] dV kV doc pm an cdv ct), osl⟩) (hcd : codeIn (KF c.w) cdv qual = true)
    (hb : ∀ ys, VsIs args ys → ∃ binds, (∀ S, peek (KF c.w) S (bindArgs (fnX name qual params body scope [] dV kV doc pm an cdv ct) ⟨ys, []⟩) = some binds) ∧ NmIs m1 (fun y => binds.reverse.lookup y) ∧ (binds.all fun x => decide (scope.names.lookup x.1 = some .local)) = true)
    (hm1 : m1.map (·.1) = ns) (nd : ns.Nodup) (loc : ∀ x ∈ ns, scope.names.lookup x = some .local) (hcell : ∀ x ∈ scope.names, x.2 ≠ .cell) (hco : scope.isCoroutine = false) (hgen : scope.isGenerator = false) (hk : scope.kind = .function)
    (hbody : ∀ c' : C, c'.Ok → c'.env = envX qual scope c'.L f cdv [] → c'.w = c.w → c'.n = c.n - 1 → c'.ns = ns → WF c' (execs body c'.env) m1 l (Body c K m)) : CallA c (.ref f) args m l K :=
  F_plain ok hn (fun h r => ⟨_, ok.X.keeps r.keep _ _ ho, rfl⟩) (fun h r => codeRec_of (ok.X.keeps r.keep) hcd)
    (fun ys hy => let ⟨binds, h1, h2, h3⟩ := hb ys hy; ⟨binds, fun s r => kp_binds (ok.X.keeps r.keep) h1, h2, locs h3⟩) hm1 nd loc hcell hco hgen hk hbody
end
theorem ifT {p : Bool} {A B : Prop} (hp : p = true) (h : A) : if p = true then A else B := by rw [if_pos hp]; exact h
theorem ifF {p : Bool} {A B : Prop} (hp : p = false) (h : B) : if p = true then A else B := by rw [hp]; exact h
theorem ifD {P : Prop} [Decidable P] {A B : Prop} (h1 : P → A) (h2 : ¬ P → B) : if decide P = true then A else B := by
  by_cases h : P
  · rw [if_pos (decide_eq_true h)]; exact h1 h
  · rw [if_neg (by simpa using h)]; exact h2 h
theorem noPy {a b : Int} (h : b.natAbs < 2 ^ 60) : Builtin.divisionGoesByPylong a b = false := PyProof.noPylong_of_log2 (by
  by_cases z : b.natAbs = 0
  · rw [z]; decide
  · have := (Nat.log2_lt z).mpr h; omega)

theorem nums_get {xs : List Int} {k : Nat} (h : k < xs.length) : (nums xs)[k]? = some (.int (xs.getD k 0)) := by
  simp [nums, List.getD, h]
theorem Sub_ints {c : C} {m : Nm} {l : Lg} {K : V → Nm → Lg → Prop} {a : Addr} {xs : List Int} {ve se : Expr} {k : Int} (hm : (a, It.list (nums xs)) ∈ l) (h0 : 0 ≤ k) (h1 : k < xs.length) (h2 : xs.length ≤ 100000) (h : K (.int (xs.getD k.toNat 0)) m l)
    (hs : ∀ u, subscripted se false (.ref a) (.int k u) = operate [.ref a, .int k u] (getItem (.ref a) (.int k u)) := by exact fun _ => rfl) (ht : ∀ x r, letTemporaryGo ve x r = pure () := by exact fun _ _ => rfl) : Sub c ve se (.ref a) (.int k) m l K :=
  Sub_list hm h0 (by omega) (nums_get (by omega)) h hs ht
theorem getD_mono {xs : List Int} (hs : ∀ i j : Nat, i ≤ j → j < xs.length → xs.getD i 0 ≤ xs.getD j 0) {i j : Nat} (h : i ≤ j) (hj : j < xs.length) : xs.getD i 0 ≤ xs.getD j 0 := hs i j h hj
/-! # Bp -/
/-! ## plain: digits in base 2^n, the lowest first -/
noncomputable def dig (n : Nat) : Nat → Nat → List Int
  | 0, _ => []
  | k + 1, x => ((x % 2 ^ n : Nat) : Int) :: dig n k (x / 2 ^ n)
theorem dig_length (n : Nat) : ∀ k x, (dig n k x).length = k
  | 0, _ => rfl
  | k + 1, x => by simp [dig, dig_length n k]
theorem dig_add (n : Nat) : ∀ j k x, dig n (j + k) x = dig n j (x % 2 ^ (n * j)) ++ dig n k (x / 2 ^ (n * j))
  | 0, k, x => by simp [dig]
  | j + 1, k, x => by
    rw [show j + 1 + k = (j + k) + 1 by omega]
    simp only [dig, List.cons_append]
    rw [dig_add n j k]
    have e : 2 ^ (n * (j + 1)) = 2 ^ n * 2 ^ (n * j) := by rw [← Nat.pow_add]; congr 1; rw [Nat.mul_add]; omega
    rw [e, Nat.div_div_eq_div_mul]
    congr 1
    · rw [Nat.mod_mul_right_mod]
    · rw [Nat.mod_mul_right_div_self]
theorem dig_one (n x : Nat) (h : x < 2 ^ n) : dig n 1 x = [(x : Int)] := by simp [dig, Nat.mod_eq_of_lt h]
noncomputable def putD (ds : List Int) (i : Nat) (ys : List Int) : List Int := ds.take i ++ ys ++ ds.drop (i + ys.length)
theorem putD_putD {ds ys zs : List Int} {i : Nat} (h : i + ys.length + zs.length ≤ ds.length) : putD (putD ds i ys) (i + ys.length) zs = putD ds i (ys ++ zs) := by
  have h1 : (ds.take i).length = i := by simp; omega
  unfold putD
  rw [List.append_assoc (ds.take i), ← List.append_assoc]
  rw [List.take_append_of_le_length (by simp; omega), List.take_of_length_le (by simp; omega)]
  have h2 : (ds.take i ++ ys).length = i + ys.length := by simp; omega
  rw [List.drop_append, List.drop_eq_nil_of_le (by omega), h2, List.drop_drop, List.length_append, List.nil_append]
  rw [show i + ys.length + (i + ys.length + zs.length - (i + ys.length)) = i + (ys.length + zs.length) by omega, ← List.append_assoc]
theorem putD_length {ds ys : List Int} {i : Nat} (h : i + ys.length ≤ ds.length) : (putD ds i ys).length = ds.length := by
  unfold putD; simp; omega
theorem putD_one {ds : List Int} {i : Nat} {x : Int} (h : i < ds.length) : putD ds i [x] = ds.set i x := by
  unfold putD
  rw [List.set_eq_take_append_cons_drop, if_pos h]; simp
theorem putD_all {ds ys : List Int} (h : ys.length = ds.length) : putD ds 0 ys = ys := by
  unfold putD; simp [h]
theorem xor_low (x s : Nat) : Builtin.bitXor (x : Int) (((x / 2 ^ s * 2 ^ s : Nat)) : Int) = ((x % 2 ^ s : Nat) : Int) := by
  rw [bitXor_and]
  have e : Builtin.bitAnd (x : Int) ((x / 2 ^ s * 2 ^ s : Nat) : Int) = ((x / 2 ^ s * 2 ^ s : Nat) : Int) := by
    unfold Builtin.bitAnd
    simp only [Int.natCast_nonneg, decide_true, Int.toNat_natCast]
    congr 1
    apply Nat.eq_of_testBit_eq
    intro i
    rw [Nat.testBit_and, Nat.testBit_mul_two_pow, Nat.testBit_div_two_pow]
    by_cases h : s ≤ i
    · simp [h, Nat.sub_add_cancel h]
    · simp [h]
  rw [e]
  have := Nat.div_add_mod' x (2 ^ s)
  omega
noncomputable def numOf (n : Nat) : List Int → Int
  | [] => 0
  | d :: r => d + 2 ^ n * numOf n r
theorem numOf_append (n : Nat) : ∀ xs ys : List Int, numOf n (xs ++ ys) = numOf n xs + 2 ^ (n * xs.length) * numOf n ys
  | [], ys => by simp [numOf]
  | d :: r, ys => by
    simp only [List.cons_append, numOf, numOf_append n r ys, List.length_cons]
    have e : (2 : Int) ^ (n * (r.length + 1)) = 2 ^ n * 2 ^ (n * r.length) := by rw [← Int.pow_add]; congr 1; rw [Nat.mul_add]; omega
    rw [e, Int.mul_add, Int.mul_assoc, Int.add_assoc]
theorem numOf_dig (n : Nat) : ∀ k x, x < 2 ^ (n * k) → numOf n (dig n k x) = (x : Int)
  | 0, x, h => by
    have : x = 0 := by simpa using h
    subst this; rfl
  | k + 1, x, h => by
    have e : 2 ^ (n * (k + 1)) = 2 ^ n * 2 ^ (n * k) := by rw [← Nat.pow_add]; congr 1; rw [Nat.mul_add]; omega
    simp only [dig, numOf]
    rw [numOf_dig n k (x / 2 ^ n) (Nat.div_lt_of_lt_mul (e ▸ h))]
    have := Nat.mod_add_div x (2 ^ n)
    have h2 : ((2 ^ n : Nat) : Int) = 2 ^ n := by push_cast; rfl
    rw [← h2]
    have h3 : ((x % 2 ^ n + 2 ^ n * (x / 2 ^ n) : Nat) : Int) = (x : Int) := by rw [this]
    push_cast at h3 ⊢
    exact h3
theorem numOf_bound {n : Nat} : ∀ {xs : List Int}, (∀ d ∈ xs, 0 ≤ d ∧ d < 2 ^ n) → 0 ≤ numOf n xs ∧ numOf n xs < 2 ^ (n * xs.length)
  | [], _ => by simp [numOf]
  | d :: r, h => by
    obtain ⟨a1, a2⟩ := h d (.head _)
    obtain ⟨b1, b2⟩ := numOf_bound fun d hd => h d (.tail _ hd)
    have e : (2 : Int) ^ (n * (r.length + 1)) = 2 ^ n * 2 ^ (n * r.length) := by rw [← Int.pow_add]; congr 1; rw [Nat.mul_add]; omega
    have p : (0 : Int) < 2 ^ n := Int.pow_pos (by decide)
    simp only [numOf, List.length_cons, e]
    refine ⟨Int.add_nonneg a1 (Int.mul_nonneg (Int.le_of_lt p) b1), ?_⟩
    have h1 : (2 : Int) ^ n * (numOf n r + 1) ≤ 2 ^ n * 2 ^ (n * r.length) := Int.mul_le_mul_of_nonneg_left (by omega) (Int.le_of_lt p)
    rw [Int.mul_add] at h1
    omega
theorem bits_of_lt {x : Int} {k : Nat} (h0 : 0 ≤ x) (h : x < 2 ^ k) : Builtin.Int.intBits x ≤ k := intBits_le_iff.mpr (by
  have : ((x.natAbs : Nat) : Int) < ((2 ^ k : Nat) : Int) := by push_cast; omega
  exact_mod_cast this)
theorem dig_get {n : Nat} : ∀ {k x i : Nat}, i < k → (dig n k x)[i]? = some ((x / 2 ^ (n * i) % 2 ^ n : Nat) : Int)
  | k + 1, x, 0, _ => by simp [dig]
  | k + 1, x, i + 1, h => by
    simp only [dig, List.getElem?_cons_succ]
    rw [dig_get (by omega), Nat.div_div_eq_div_mul, ← Nat.pow_add, show n + n * i = n * (i + 1) by rw [Nat.mul_add]; omega]
theorem div_step {A d b p q r : Nat} (hb : 0 < b) (hd : d < p) (hq : q = (A % b * p + d) / b) (hr : r = (A % b * p + d) % b) : q < p ∧ r = (A * p + d) % b ∧ (A * p + d) / b = q + p * (A / b) := by
  have h1 := Nat.mod_lt A hb
  have h2 := Nat.div_add_mod A b
  have e : A * p + d = b * (p * (A / b)) + (A % b * p + d) := by
    have h3 : A * p = (b * (A / b) + A % b) * p := by rw [h2]
    have h4 : (b * (A / b) + A % b) * p = b * (p * (A / b)) + A % b * p := by
      rw [Nat.add_mul, Nat.mul_assoc, Nat.mul_comm (A / b) p]
    omega
  refine ⟨?_, ?_, ?_⟩
  · rw [hq, Nat.div_lt_iff_lt_mul hb]
    have : (A % b + 1) * p ≤ b * p := Nat.mul_le_mul_right _ h1
    rw [Nat.add_mul] at this
    rw [Nat.mul_comm p b]; omega
  · rw [hr, e, Nat.mul_add_mod]
  · rw [hq, e, Nat.mul_add_div hb]; omega
theorem div_top (a n j : Nat) : a / 2 ^ (n * j) = a / 2 ^ (n * (j + 1)) * 2 ^ n + a / 2 ^ (n * j) % 2 ^ n := by
  have : a / 2 ^ (n * (j + 1)) = a / 2 ^ (n * j) / 2 ^ n := by rw [Nat.div_div_eq_div_mul, ← Nat.pow_add]; congr 2
  rw [this, Nat.div_add_mod']
theorem neg_div {a b : Int} (hb : b < 0) : (-a).fdiv (-b) = a.fdiv b ∧ -((-a).fmod (-b)) = a.fmod b := by
  have h : (-a).fdiv (-b) = a.fdiv b := by rw [Int.neg_fdiv_neg]
  refine ⟨h, ?_⟩
  rw [Int.fmod_def, Int.fmod_def, h, Int.neg_mul]; omega
theorem inv_div {a b : Int} (ha : a < 0) (hb : 0 < b) : Builtin.bitNot ((-a - 1).fdiv b) = a.fdiv b ∧ b + Builtin.bitNot ((-a - 1).fmod b) = a.fmod b := by
  unfold Builtin.bitNot
  rw [Int.fdiv_eq_ediv_of_nonneg _ (by omega), Int.fmod_eq_emod_of_nonneg _ (by omega), Int.fdiv_eq_ediv_of_nonneg _ (by omega), Int.fmod_eq_emod_of_nonneg _ (by omega)]
  have h1 := Int.emod_nonneg (-a - 1) (show b ≠ 0 by omega)
  have h2 := Int.emod_lt_of_pos (-a - 1) hb
  have h3 := Int.mul_ediv_add_emod (-a - 1) b
  have h4 := (Int.ediv_emod_unique (a := a) (r := b + (-((-a - 1) % b) - 1)) (q := -((-a - 1) / b) - 1) hb).mpr ⟨by rw [Int.mul_sub, Int.mul_neg]; omega, by omega, by omega⟩
  exact ⟨h4.1.symm, h4.2.symm⟩
theorem dig_numOf {n : Nat} : ∀ {ts : List Int}, (∀ d ∈ ts, 0 ≤ d ∧ d < 2 ^ n) → ∀ a : Nat, (a : Int) = numOf n ts → dig n ts.length a = ts
  | [], _, _, _ => rfl
  | d :: r, h, a, e => by
    obtain ⟨d0, d1⟩ := h d (.head _)
    obtain ⟨b0, _⟩ := numOf_bound fun d hd => h d (.tail _ hd)
    obtain ⟨d', rfl⟩ := Int.eq_ofNat_of_zero_le d0
    obtain ⟨q, hq⟩ := Int.eq_ofNat_of_zero_le b0
    simp only [numOf] at e
    rw [hq] at e
    have e2 : a = d' + 2 ^ n * q := by exact_mod_cast e
    have d2 : d' < 2 ^ n := by exact_mod_cast d1
    simp only [List.length_cons, dig]
    rw [e2, Nat.add_mul_mod_self_left, Nat.mod_eq_of_lt d2, Nat.add_mul_div_left _ _ (Nat.two_pow_pos n), Nat.div_eq_of_lt d2, Nat.zero_add]
    rw [dig_numOf (fun d hd => h d (.tail _ hd)) q hq.symm]
theorem numOf_last {n : Nat} : ∀ {ts : List Int} {x : Int}, (∀ d ∈ ts, 0 ≤ d ∧ d < 2 ^ n) → 1 ≤ x → 2 ^ (n * ts.length) ≤ numOf n (ts ++ [x]) := fun {ts x} h hx => by
  rw [numOf_append]
  have b := (numOf_bound h).1
  have p : (0 : Int) < 2 ^ (n * ts.length) := Int.pow_pos (by decide)
  have : (2 : Int) ^ (n * ts.length) * 1 ≤ 2 ^ (n * ts.length) * x := Int.mul_le_mul_of_nonneg_left hx (Int.le_of_lt p)
  simp only [numOf, Int.mul_zero, Int.add_zero]
  omega
theorem strip {ts : List Int} (h : ∀ d ∈ ts, 0 ≤ d ∧ d < 2 ^ 9) (hl : ts = [] ∨ ∃ r x, ts = r ++ [x] ∧ x ≠ 0) {a : Nat} (e : (a : Int) = numOf 9 ts) : dig 9 ((Builtin.Int.intBits (a : Int) + 9 - 1) / 9) a = ts := by
  have hk : (Builtin.Int.intBits (a : Int) + 9 - 1) / 9 = ts.length := by
    have b := numOf_bound h
    have b2 : Builtin.Int.intBits (a : Int) ≤ 9 * ts.length := bits_of_lt (by rw [e]; exact b.1) (by rw [e]; exact b.2)
    rcases hl with rfl | ⟨r, x, rfl, hx⟩
    · have b3 : Builtin.Int.intBits (a : Int) ≤ 0 := by simpa using b2
      simp; omega
    · obtain ⟨x0, x1⟩ := h x (by simp)
      have b4 := numOf_last (n := 9) (ts := r) (x := x) (fun d hd => h d (by simp [hd])) (by omega)
      have b5 : 9 * r.length < Builtin.Int.intBits (a : Int) := by
        rcases Nat.lt_or_ge (9 * r.length) (Builtin.Int.intBits (a : Int)) with z | z
        · exact z
        · have := intBits_le_iff.mp z
          rw [Int.natAbs_natCast] at this
          have t2 : ((a : Nat) : Int) < ((2 ^ (9 * r.length) : Nat) : Int) := by exact_mod_cast this
          rw [e] at t2; push_cast at t2; omega
      simp only [List.length_append, List.length_singleton] at b2 ⊢
      omega
  rw [hk]
  exact dig_numOf h a e
theorem numOf_zeros {n : Nat} (ts : List Int) (j : Nat) : numOf n (ts ++ List.replicate j 0) = numOf n ts := by
  rw [numOf_append]
  have : ∀ j, numOf n (List.replicate j (0 : Int)) = 0 := by
    intro j
    induction j with
    | zero => rfl
    | succ j ih => simp [List.replicate_succ, numOf, ih]
  rw [this]; simp
/-! # Bx -/
/-! ## plain: rows of bits -/
noncomputable def b2i (b : Bool) : Int := if b then 1 else 0
noncomputable def bits (bs : List Bool) : List Int := bs.map b2i
noncomputable def val : List Bool → Int
  | [] => 0
  | b :: r => b2i b + 2 * val r
theorem val_num : ∀ bs : List Bool, numOf 1 (bits bs) = val bs
  | [] => rfl
  | b :: r => by
    have := val_num r
    simp only [bits, List.map_cons, numOf, val] at this ⊢
    rw [this]; rfl
theorem b2i_bound (b : Bool) : 0 ≤ b2i b ∧ b2i b ≤ 1 := by cases b <;> decide
theorem val_bound : ∀ bs : List Bool, 0 ≤ val bs ∧ val bs < 2 ^ bs.length
  | [] => by simp [val]
  | b :: r => by
    have h := val_bound r
    have hb := b2i_bound b
    simp only [val, List.length_cons, Int.pow_succ]
    omega
noncomputable abbrev Tr := List (Bool × Bool × Bool)
section
variable {α : Type} (f g : α → Bool)
theorem val_nat (xs : List α) : ∃ n : Nat, val (xs.map f) = n := Int.eq_ofNat_of_zero_le (val_bound _).1
theorem and_step (a b : Bool) (x y : Nat) : (a.toNat + 2 * x) &&& (b.toNat + 2 * y) = (a && b).toNat + 2 * (x &&& y) := by
  apply Nat.eq_of_testBit_eq
  intro i
  rw [Nat.testBit_and]
  cases i with
  | zero => cases a <;> cases b <;> simp [Nat.testBit_zero, Nat.add_mul_mod_self_left]
  | succ i =>
    rw [Nat.testBit_succ, Nat.testBit_succ, Nat.testBit_succ]
    have h : ∀ (c : Bool) (z : Nat), (c.toNat + 2 * z) / 2 = z := by intro c z; cases c <;> simp <;> omega
    rw [h, h, h, Nat.testBit_and]
theorem val_and (xs : List α) : Builtin.bitAnd (val (xs.map f)) (val (xs.map g)) = val (xs.map fun p => f p && g p) := by
  have nn : ∀ (n m : Nat), Builtin.bitAnd (n : Int) (m : Int) = ((n &&& m : Nat) : Int) := fun n m => by
    unfold Builtin.bitAnd
    simp only [Int.natCast_nonneg, decide_true, Int.toNat_natCast]
  have bn : ∀ b : Bool, b2i b = ((b.toNat : Nat) : Int) := by decide
  induction xs with
  | nil => exact nn 0 0
  | cons p r ih =>
    obtain ⟨n, hn⟩ := val_nat f r
    obtain ⟨m, hm⟩ := val_nat g r
    simp only [List.map_cons, val]
    rw [hn, hm, nn] at ih
    rw [← ih, hn, hm, bn, bn, bn, show ((f p).toNat : Int) + 2 * (n : Int) = (((f p).toNat + 2 * n : Nat) : Int) by push_cast; rfl, show ((g p).toNat : Int) + 2 * (m : Int) = (((g p).toNat + 2 * m : Nat) : Int) by push_cast; rfl, nn, and_step]
    push_cast; rfl
theorem val_lin (xs : List α) : val (xs.map fun p => f p || g p) = val (xs.map f) + val (xs.map g) - val (xs.map fun p => f p && g p) ∧ val (xs.map fun p => f p ^^ g p) = val (xs.map f) + val (xs.map g) - 2 * val (xs.map fun p => f p && g p) := by
  induction xs with
  | nil => exact ⟨rfl, rfl⟩
  | cons p r ih =>
    obtain ⟨i1, i2⟩ := ih
    simp only [List.map_cons, val]
    rw [i1, i2]
    cases f p <;> cases g p <;> simp [b2i] <;> omega
theorem val_xor (xs : List α) : Builtin.bitXor (val (xs.map f)) (val (xs.map g)) = val (xs.map fun p => f p ^^ g p) := by
  rw [bitXor_and, val_and, (val_lin f g xs).2]
theorem val_or (xs : List α) : Builtin.bitOr (val (xs.map f)) (val (xs.map g)) = val (xs.map fun p => f p || g p) := by
  have h : Builtin.bitXor (val (xs.map f)) (val (xs.map g)) = Builtin.bitOr (val (xs.map f)) (val (xs.map g)) - Builtin.bitAnd (val (xs.map f)) (val (xs.map g)) := rfl
  rw [bitXor_and, val_and] at h
  rw [(val_lin f g xs).1]; omega
theorem val_not (xs : List α) : val (xs.map fun p => !f p) = 2 ^ xs.length - 1 - val (xs.map f) := by
  induction xs with
  | nil => rfl
  | cons p r ih =>
    simp only [List.map_cons, val, List.length_cons, Int.pow_succ]
    rw [ih]
    cases f p <;> simp [b2i] <;> omega
end
/-- the trace of a turn: carry, old mark, fits -/
noncomputable def tr : Bool → List (Bool × Bool) → Tr
  | _, [] => []
  | d, (e, m) :: r => (d, e, m) :: tr (!e && (m || d)) r
noncomputable def last : Bool → List (Bool × Bool) → Bool
  | d, [] => d
  | d, (e, m) :: r => last (!e && (m || d)) r
noncomputable def outs (d : Bool) (em : List (Bool × Bool)) : List Bool := (tr d em).map fun p => !p.1 && (p.2.2 || p.2.1)
theorem tr_length : ∀ d em, (tr d em).length = em.length
  | _, [] => rfl
  | d, (e, m) :: r => by simp [tr, tr_length]
theorem tr_snd : ∀ d em, (tr d em).map (·.2) = em
  | _, [] => rfl
  | d, (e, m) :: r => by simp [tr, tr_snd]
theorem tr_map {β : Type} (d : Bool) (em : List (Bool × Bool)) (f : Bool × Bool → β) : em.map f = (tr d em).map fun p => f p.2 := by
  conv => lhs; rw [← tr_snd d em]
  rw [List.map_map]; rfl
noncomputable def sumB (p : Bool × Bool × Bool) : Bool := if p.2.1 then p.1 else if p.2.2 then p.1 else !p.1
noncomputable def lowB (p : Bool × Bool × Bool) : Bool := (p.2.1 || p.2.2) ^^ !p.1
theorem carries : ∀ (d : Bool) (em : List (Bool × Bool)), val ((tr d em).map fun p => !p.2.1) + val ((tr d em).map fun p => !p.2.1 && p.2.2) + b2i d = val ((tr d em).map sumB) + 2 ^ em.length * b2i (last d em)
  | d, [] => by simp [tr, val, last]
  | d, (e, m) :: r => by
    have := carries (!e && (m || d)) r
    simp only [tr, List.map_cons, val, last, List.length_cons, Int.pow_succ, sumB]
    have h3 : (2 : Int) ^ r.length * 2 * b2i (last (!e && (m || d)) r) = 2 * (2 ^ r.length * b2i (last (!e && (m || d)) r)) := by rw [Int.mul_comm _ 2, Int.mul_assoc]
    rw [h3]
    revert this
    generalize 2 ^ r.length * b2i (last (!e && (m || d)) r) = z
    cases d <;> cases e <;> cases m <;> simp [b2i] <;> omega
theorem borrows : ∀ (d : Bool) (em : List (Bool × Bool)), val ((tr d em).map fun p => p.2.1 || p.2.2) - 2 * val ((tr d em).map fun p => p.2.1) - b2i (!d) = val ((tr d em).map lowB) - 2 ^ em.length * b2i (!last d em)
  | d, [] => by simp [tr, val, last]
  | d, (e, m) :: r => by
    have := borrows (!e && (m || d)) r
    simp only [tr, List.map_cons, val, last, List.length_cons, Int.pow_succ, lowB]
    have h3 : (2 : Int) ^ r.length * 2 * b2i (!last (!e && (m || d)) r) = 2 * (2 ^ r.length * b2i (!last (!e && (m || d)) r)) := by rw [Int.mul_comm _ 2, Int.mul_assoc]
    rw [h3]
    revert this
    generalize 2 ^ r.length * b2i (!last (!e && (m || d)) r) = z
    cases d <;> cases e <;> cases m <;> simp [b2i] <;> omega
theorem new_ones (p : Bool × Bool × Bool) : ((!p.2.1 && !p.2.2) || sumB p) = !(!p.1 && (p.2.2 || p.2.1)) := by
  obtain ⟨d, e, m⟩ := p; cases d <;> cases e <;> cases m <;> rfl
theorem new_marks (p : Bool × Bool × Bool) : ((p.2.1 || p.2.2) && ((p.2.1 || p.2.2) ^^ lowB p)) = (!p.1 && (p.2.2 || p.2.1)) := by
  obtain ⟨d, e, m⟩ := p; cases d <;> cases e <;> cases m <;> rfl
/-! ### places and counts -/
noncomputable def pos : Nat → List Bool → List Int
  | _, [] => []
  | k, b :: r => if b then (k : Int) :: pos (k + 1) r else pos (k + 1) r
noncomputable def cnt : Int → List Bool → List Int
  | k, [] => [k]
  | k, b :: r => k :: cnt (k + b2i b) r
theorem pos_append : ∀ (k : Nat) (a b : List Bool), pos k (a ++ b) = pos k a ++ pos (k + a.length) b
  | k, [], b => by simp [pos]
  | k, x :: r, b => by
    have := pos_append (k + 1) r b
    rw [show k + 1 + r.length = k + (r.length + 1) by omega] at this
    cases x <;> simp [pos, this]
theorem pos_bound : ∀ (k : Nat) (a : List Bool), ∀ x ∈ pos k a, (k : Int) ≤ x ∧ x < (k + a.length : Nat)
  | k, [], x, h => by simp [pos] at h
  | k, b :: r, x, h => by
    have ih := pos_bound (k + 1) r x
    have c : x = k ∨ x ∈ pos (k + 1) r := by cases b <;> simp [pos] at h <;> first | exact .inr h | exact h
    rcases c with rfl | c
    · simp only [List.length_cons]; omega
    · have := ih c; simp only [List.length_cons]; omega
theorem pos_len : ∀ (k : Nat) (a : List Bool), (pos k a).length ≤ a.length
  | k, [] => by simp [pos]
  | k, b :: r => by have := pos_len (k + 1) r; cases b <;> simp [pos] <;> omega
theorem cnt_length : ∀ k a, (cnt k a).length = a.length + 1
  | k, [] => rfl
  | k, b :: r => by simp [cnt, cnt_length]
theorem pos_outs : ∀ (k : Nat) (d : Bool) (em : List (Bool × Bool)), ((pos k (outs d em)).length : Int) = (pos k (em.map (·.1))).length + b2i (last d em) - b2i d
  | k, d, [] => by simp [outs, tr, pos, last]
  | k, d, (e, m) :: r => by
    have := pos_outs (k + 1) (!e && (m || d)) r
    simp only [outs, tr, List.map_cons, pos, last] at this ⊢
    revert this
    cases d <;> cases e <;> cases m <;> simp [b2i] <;> omega
theorem outs_length (d : Bool) (em : List (Bool × Bool)) : (outs d em).length = em.length := by simp [outs, tr_length]

/-! ### one turn, by numbers -/
theorem turnB {em : List (Bool × Bool)} (h8 : em.length = 8) {laps : Int} : ∃ X : Int, X = val (em.map fun p => !p.1) + Builtin.bitAnd (val (em.map fun p => !p.1)) (val (em.map (·.2))) + 256 * laps ∧ X / 256 = b2i (last false em) + laps ∧
    Builtin.bitOr (val (em.map fun p => !p.1) - Builtin.bitAnd (val (em.map fun p => !p.1)) (val (em.map (·.2)))) (X % 256) = 255 - val (outs false em) := by
  have c := carries false em
  have hb := val_bound ((tr false em).map sumB)
  rw [List.length_map, tr_length, h8] at hb
  rw [h8, show b2i false = 0 from rfl] at c
  have e1 : Builtin.bitAnd (val (em.map fun p => !p.1)) (val (em.map (·.2))) = val ((tr false em).map fun p => !p.2.1 && p.2.2) := by
    rw [val_and, tr_map false em]
  have e2 : val (em.map fun p => !p.1) = val ((tr false em).map fun p => !p.2.1) := by rw [tr_map false em]
  have hs : val ((tr false em).map fun p => !p.2.1) - val ((tr false em).map fun p => !p.2.1 && p.2.2) = val ((tr false em).map fun p => !p.2.1 && !p.2.2) := by
    have : ∀ t : Tr, val (t.map fun p => !p.2.1) - val (t.map fun p => !p.2.1 && p.2.2) = val (t.map fun p => !p.2.1 && !p.2.2) := by
      intro t
      induction t with
      | nil => rfl
      | cons p r ih =>
        obtain ⟨d, e, m⟩ := p
        simp only [List.map_cons, val]
        cases e <;> cases m <;> simp [b2i] <;> omega
    exact this _
  refine ⟨_, rfl, ?_, ?_⟩
  · rw [e1, e2]; omega
  · rw [e1, e2, hs]
    rw [show (val ((tr false em).map fun p => !p.2.1) + val ((tr false em).map fun p => !p.2.1 && p.2.2) + 256 * laps) % 256 = val ((tr false em).map sumB) by omega]
    rw [val_or]
    rw [show (fun p : Bool × Bool × Bool => (!p.2.1 && !p.2.2) || sumB p) = fun p => !(!p.1 && (p.2.2 || p.2.1)) from funext new_ones]
    rw [val_not, tr_length, h8]; rfl
theorem turnC {em : List (Bool × Bool)} (h8 : em.length = 8) {laps : Int} : ∃ Y : Int, Y = Builtin.bitOr (val (em.map (·.1))) (val (em.map (·.2))) - 2 * val (em.map (·.1)) - 1 - 256 * laps ∧ Y / 256 = b2i (last false em) - 1 - laps ∧
    Builtin.bitAnd (Builtin.bitOr (val (em.map (·.1))) (val (em.map (·.2)))) (Builtin.bitXor (Builtin.bitOr (val (em.map (·.1))) (val (em.map (·.2)))) (Y % 256)) = val (outs false em) := by
  have c := borrows false em
  have hb := val_bound ((tr false em).map lowB)
  rw [List.length_map, tr_length, h8] at hb
  rw [h8, show b2i (!false) = 1 from rfl] at c
  have hl : b2i (!last false em) = 1 - b2i (last false em) := by cases last false em <;> rfl
  rw [hl] at c
  have e1 : Builtin.bitOr (val (em.map (·.1))) (val (em.map (·.2))) = val ((tr false em).map fun p => p.2.1 || p.2.2) := by
    rw [val_or, tr_map false em]
  have e2 : val (em.map (·.1)) = val ((tr false em).map fun p => p.2.1) := by rw [tr_map false em]
  refine ⟨_, rfl, ?_, ?_⟩
  · rw [e1, e2]; omega
  · rw [e1, e2]
    rw [show (val ((tr false em).map fun p => p.2.1 || p.2.2) - 2 * val ((tr false em).map fun p => p.2.1) - 1 - 256 * laps) % 256 = val ((tr false em).map lowB) by omega]
    rw [val_xor, val_and]
    rw [show (fun p : Bool × Bool × Bool => (p.2.1 || p.2.2) && ((p.2.1 || p.2.2) ^^ lowB p)) = fun p => (!p.1 && (p.2.2 || p.2.1)) from funext new_marks]
    rfl
/-- the division by 256 times the symbol, on both sides of nought -/
theorem divs {s σ κ X : Int} (hs : s = 1 ∨ s = -1) (hσ : 0 < σ) (h0 : 0 ≤ κ) (h1 : κ < σ) :
    (s * (σ * X + κ)).fdiv (s * 256 * σ) = X / 256 ∧ (s * (s * (σ * X + κ)).fmod (s * 256 * σ)).fmod σ = κ ∧ (s * (s * (σ * X + κ)).fmod (s * 256 * σ)).fdiv σ = X % 256 := by
  have hp : (0 : Int) < 256 * σ := by omega
  have hx := Int.mul_ediv_add_emod X 256
  have hx1 := Int.emod_nonneg X (show (256 : Int) ≠ 0 by decide)
  have hx2 := Int.emod_lt_of_pos X (show (0 : Int) < 256 by decide)
  have hm0 : 0 ≤ σ * (X % 256) := Int.mul_nonneg (Int.le_of_lt hσ) hx1
  have hm1 : σ * (X % 256) ≤ σ * 255 := Int.mul_le_mul_of_nonneg_left (by omega) (Int.le_of_lt hσ)
  have hN : σ * X + κ = (σ * (X % 256) + κ) + 256 * σ * (X / 256) := by
    have h2 : σ * X = σ * (256 * (X / 256) + X % 256) := by rw [hx]
    rw [h2, Int.mul_add, ← Int.mul_assoc, Int.mul_comm σ 256]; omega
  have u := (Int.ediv_emod_unique (a := σ * X + κ) (r := σ * (X % 256) + κ) (q := X / 256) hp).mpr ⟨hN.symm, by omega, by omega⟩
  have base : (s * (σ * X + κ)).fdiv (s * 256 * σ) = X / 256 ∧ s * (s * (σ * X + κ)).fmod (s * 256 * σ) = σ * (X % 256) + κ := by
    rcases hs with rfl | rfl
    · simp only [Int.one_mul]
      exact ⟨by rw [Int.fdiv_eq_ediv_of_nonneg _ (by omega)]; exact u.1, by rw [Int.fmod_eq_emod_of_nonneg _ (by omega)]; exact u.2⟩
    · have a1 : (-1 : Int) * (σ * X + κ) = -(σ * X + κ) := by omega
      have a2 : (-1 : Int) * 256 * σ = -(256 * σ) := by omega
      rw [a1, a2]
      have f : (-(σ * X + κ)).fdiv (-(256 * σ)) = X / 256 := by rw [Int.neg_fdiv_neg, Int.fdiv_eq_ediv_of_nonneg _ (by omega)]; exact u.1
      refine ⟨f, ?_⟩
      rw [Int.fmod_def, f, Int.neg_mul (256 * σ)]; omega
  refine ⟨base.1, ?_, ?_⟩
  · rw [base.2, Int.fmod_eq_emod_of_nonneg _ (by omega), Int.mul_add_emod_self_left, Int.emod_eq_of_lt h0 h1]
  · rw [base.2, Int.fdiv_eq_ediv_of_nonneg _ (by omega), Int.mul_add_ediv_left _ _ (by omega), Int.ediv_eq_zero_of_lt h0 h1]; omega
/-! # By -/
theorem dp : ∀ (em : List (Bool × Bool)) (k : Int) (d : Bool) (i : Nat) (e m : Bool), em[i]? = some (e, m) →
    (cnt (k + b2i d) (outs d em)).getD (i + 1) 0 = if m then (cnt k (em.map (·.1))).getD i 0 + 1 else max ((cnt (k + b2i d) (outs d em)).getD i 0) ((cnt k (em.map (·.1))).getD (i + 1) 0)
  | [], k, d, i, e, m, h => by simp at h
  | (e', m') :: r, k, d, 0, e, m, h => by
    have h' : e' = e ∧ m' = m := by simpa using h
    obtain ⟨rfl, rfl⟩ := h'
    have hd : ∀ (z : Int) (l : List Bool), (cnt z l).getD 0 0 = z := by intro z l; cases l <;> rfl
    simp only [outs, tr, List.map_cons, cnt, List.getD_cons_succ, List.getD_cons_zero]
    rw [hd, hd]
    cases d <;> cases e' <;> cases m' <;> simp [b2i] <;> omega
  | (e', m') :: r, k, d, i + 1, e, m, h => by
    have ih := dp r (k + b2i e') (!e' && (m' || d)) i e m (by simpa using h)
    have e1 : k + b2i d + b2i (!d && (m' || e')) = k + b2i e' + b2i (!e' && (m' || d)) := by cases d <;> cases e' <;> cases m' <;> simp [b2i]
    simp only [outs, tr, List.map_cons, cnt, List.getD_cons_succ] at ih ⊢
    rw [e1]
    exact ih
theorem cnt_gt : ∀ (a : List Bool) (k : Int) (i : Nat) (b : Bool), a[i]? = some b → (cnt k a).getD (i + 1) 0 = (cnt k a).getD i 0 + b2i b
  | [], k, i, b, h => by simp at h
  | x :: r, k, 0, b, h => by
    have hd : ∀ (z : Int) (l : List Bool), (cnt z l).getD 0 0 = z := by intro z l; cases l <;> rfl
    have : x = b := by simpa using h
    subst this
    simp only [cnt, List.getD_cons_succ, List.getD_cons_zero]
    rw [hd]
  | x :: r, k, i + 1, b, h => by
    simp only [cnt, List.getD_cons_succ]
    exact cnt_gt r _ i b (by simpa using h)
theorem pos_take {a : List Bool} {i : Nat} {b : Bool} (h : a[i]? = some b) : pos 0 (a.take (i + 1)) = pos 0 (a.take i) ++ if b then [(i : Int)] else [] := by
  have hi := (List.getElem?_eq_some_iff.mp h).1
  rw [List.take_add_one, h, pos_append]
  simp only [Option.toList_some, List.length_take, Nat.min_eq_left (Nat.le_of_lt hi), Nat.zero_add]
  cases b <;> simp [pos]
theorem cnt_pos : ∀ (a : List Bool) (k : Int) (i : Nat), i ≤ a.length → (cnt k a).getD i 0 = k + (pos 0 (a.take i)).length
  | a, k, 0, _ => by cases a <;> simp [cnt, pos]
  | a, k, i + 1, h => by
    have hi : i < a.length := by omega
    have hb := List.getElem?_eq_getElem hi
    rw [cnt_gt a k i _ hb, cnt_pos a k i (by omega), pos_take hb]
    cases a[i] <;> simp [b2i] <;> omega
theorem pos_pair : ∀ (a : List Bool) (k : Nat), (pos k a).Pairwise (· < ·)
  | [], k => by simp [pos]
  | b :: r, k => by
    have ih := pos_pair r (k + 1)
    cases b with
    | false => simpa [pos] using ih
    | true =>
      simp only [pos, if_true]
      refine List.pairwise_cons.mpr ⟨fun x hx => ?_, ih⟩
      have := (pos_bound (k + 1) r x hx).1
      omega
theorem sorted_of {xs : List Int} (h : xs.Pairwise (· ≤ ·)) : ∀ i j : Nat, i ≤ j → j < xs.length → xs.getD i 0 ≤ xs.getD j 0 := fun i j hij hj => by
  rcases Nat.lt_or_ge i j with z | z
  · have := List.pairwise_iff_getElem.mp h i j (by omega) hj z
    simpa [List.getD, show i < xs.length by omega, hj] using this
  · rw [show i = j by omega]; exact Int.le_refl _
theorem pos_sorted (a : List Bool) : ∀ i j : Nat, i ≤ j → j < (pos 0 a).length → (pos 0 a).getD i 0 ≤ (pos 0 a).getD j 0 := sorted_of ((pos_pair a 0).imp fun h => Int.le_of_lt h)
theorem cnt_pair : ∀ (a : List Bool) (k : Int), (cnt k a).Pairwise (· ≤ ·) ∧ ∀ x ∈ cnt k a, k ≤ x
  | [], k => by simp [cnt]
  | b :: r, k => by
    obtain ⟨i1, i2⟩ := cnt_pair r (k + b2i b)
    have hb := (b2i_bound b).1
    refine ⟨List.pairwise_cons.mpr ⟨fun x hx => ?_, i1⟩, fun x hx => ?_⟩
    · have := i2 x hx; omega
    · rcases List.mem_cons.mp hx with rfl | hx
      · exact Int.le_refl _
      · have := i2 x hx; omega
theorem cnt_sorted (a : List Bool) : ∀ i j : Nat, i ≤ j → j < (cnt 0 a).length → (cnt 0 a).getD i 0 ≤ (cnt 0 a).getD j 0 := sorted_of (cnt_pair a 0).1
/-- the place that bisect finds -/
theorem bis {T Q : List Int} {j hi r : Int} (hT : ∀ x ∈ T, x < j) (hQ : ∀ x ∈ Q, j ≤ x) (h1 : (T.length : Int) ≤ hi) (h2 : hi ≤ ((T ++ Q).length : Int)) (r0 : 0 ≤ r) (r1 : r ≤ hi)
    (lo : ∀ i : Nat, 0 ≤ (i : Int) → (i : Int) < r → (T ++ Q).getD i 0 < j) (up : ∀ i : Nat, r ≤ i → (i : Int) < hi → j ≤ (T ++ Q).getD i 0) : r = T.length := by
  rcases Int.lt_trichotomy r T.length with z | z | z
  · exfalso
    have hr : r.toNat < T.length := by omega
    have := up r.toNat (by omega) (by omega)
    rw [show (T ++ Q).getD r.toNat 0 = T[r.toNat] by simp [List.getD, List.getElem?_append_left hr, hr]] at this
    have := hT _ (List.getElem_mem hr)
    omega
  · exact z
  · exfalso
    simp only [List.length_append] at h2
    have hr : 0 < Q.length := by omega
    have := lo T.length (by omega) (by omega)
    rw [show (T ++ Q).getD T.length 0 = Q[0] by simp [List.getD, hr]] at this
    have := hQ _ (List.getElem_mem hr)
    omega
theorem outs_cons (d e m : Bool) (r : List (Bool × Bool)) : outs d ((e, m) :: r) = (!d && (m || e)) :: outs (!e && (m || d)) r := rfl
theorem pos_tail : ∀ (r : List (Bool × Bool)) (k : Nat), pos k (outs true r) = (pos k (outs false r)).tail
  | [], k => rfl
  | (e, m) :: r, k => by
    have ih := pos_tail r (k + 1)
    rw [outs_cons, outs_cons]
    cases e <;> cases m <;> simp [pos, ih]
/-- the piles, when the places from j on have been looked at -/
noncomputable def pil (em : List (Bool × Bool)) (j : Nat) : List Int := pos 0 ((em.take j).map (·.1) ++ outs false (em.drop j))
theorem pil_parts {em : List (Bool × Bool)} {j : Nat} {e m : Bool} (h : em[j]? = some (e, m)) : ∃ T Q : List Int, pil em (j + 1) = T ++ Q ∧ T = pos 0 ((em.take j).map (·.1)) ∧ (∀ x ∈ T, x < (j : Int)) ∧ (∀ x ∈ Q, (j : Int) ≤ x) ∧ pil em j = if m then T ++ (j : Int) :: Q.tail else T ++ Q := by
  obtain ⟨hj, hg⟩ := List.getElem?_eq_some_iff.mp h
  have hl : ((em.take j).map (·.1)).length = j := by simp; omega
  refine ⟨pos 0 ((em.take j).map (·.1)), (if e then [(j : Int)] else []) ++ pos (j + 1) (outs false (em.drop (j + 1))), ?_, rfl, fun x hx => ?_, fun x hx => ?_, ?_⟩
  · unfold pil
    rw [List.take_add_one, h, List.map_append, List.append_assoc, pos_append, hl, Nat.zero_add]
    congr 1
    cases e <;> simp [pos]
  · have := (pos_bound 0 _ x hx).2
    rw [hl] at this
    omega
  · rcases List.mem_append.mp hx with hx | hx
    · cases e <;> simp at hx; omega
    · have := (pos_bound _ _ x hx).1; omega
  · unfold pil
    rw [List.drop_eq_getElem_cons hj, hg, outs_cons, pos_append, hl, Nat.zero_add]
    cases e <;> cases m <;> simp [pos, pos_tail]
theorem pil_len (em : List (Bool × Bool)) (j : Nat) : (pil em j).length ≤ em.length := by
  have h1 := pos_len 0 ((em.take j).map (·.1) ++ outs false (em.drop j))
  have h2 : ((em.take j).map (·.1) ++ outs false (em.drop j)).length = em.length := by simp [outs_length]; omega
  unfold pil; omega
theorem pil_sorted (em : List (Bool × Bool)) (j : Nat) : ∀ i k : Nat, i ≤ k → k < (pil em j).length → (pil em j).getD i 0 ≤ (pil em j).getD k 0 := pos_sorted _
/-! ### a row's end -/
noncomputable def fnd (b : List Int) (x : Int) : Int := 3 + b2i (decide (b.getD 3 0 < x)) + b2i (decide (b.getD 4 0 < x)) + b2i (decide (b.getD 5 0 < x)) + b2i (decide (b.getD 6 0 < x))
theorem fnd_of {b : List Int} {x r : Int} (h0 : 3 ≤ r) (h1 : r ≤ 7) (lo : ∀ i : Nat, 3 ≤ (i : Int) → (i : Int) < r → b.getD i 0 < x) (up : ∀ i : Nat, r ≤ i → (i : Int) < 7 → x ≤ b.getD i 0) : r = fnd b x := by
  have c : ∀ i : Nat, 3 ≤ i → i < 7 → b2i (decide (b.getD i 0 < x)) = if (i : Int) < r then 1 else 0 := by
    intro i i0 i1
    by_cases z : (i : Int) < r
    · rw [if_pos z, decide_eq_true (lo i (by omega) z)]; rfl
    · rw [if_neg z, decide_eq_false (by have := up i (by omega) (by omega); omega)]; rfl
  unfold fnd
  rw [c 3 (by decide) (by decide), c 4 (by decide) (by decide), c 5 (by decide) (by decide), c 6 (by decide) (by decide)]
  have : r = 3 ∨ r = 4 ∨ r = 5 ∨ r = 6 ∨ r = 7 := by omega
  rcases this with rfl | rfl | rfl | rfl | rfl <;> rfl
noncomputable def dueOf (e : List Bool) : List Int := (pos 0 e).map (fun j => max 3 (min (j + 1) 7)) ++ List.replicate (8 - (pos 0 e).length) 7
theorem eight {P : List Bool → Prop} (h : ∀ a b c d e f g i : Bool, P [a, b, c, d, e, f, g, i]) : ∀ e : List Bool, e.length = 8 → P e := by
  intro e he
  match e, he with
  | [a, b, c, d, e, f, g, i], _ => exact h a b c d e f g i
theorem due_ok : ∀ e : List Bool, e.length = 8 → ((List.range 8).map fun j : Nat => fnd (cnt 0 e) ((j : Int) + 1)) = dueOf e := eight (by decide +kernel)
noncomputable def topOf (e : List Bool) : Int := (pos 0 e).foldl max (-1)
theorem top_ok : ∀ e : List Bool, e.length = 8 → topOf e ∈ (-1 : Int) :: pos 0 e ∧ (∀ y ∈ (-1 : Int) :: pos 0 e, y ≤ topOf e) ∧ -1 ≤ topOf e ∧ topOf e ≤ 7 := eight (by decide +kernel)
theorem dig_ok : ∀ e : List Bool, e.length = 8 → dig 1 ((Builtin.Int.intBits (val e) + 1 - 1) / 1) (val e).toNat = (List.range (topOf e + 1).toNat).map fun j : Nat => if (pos 0 e).any (· == (j : Int)) then (1 : Int) else 0 := eight (by decide +kernel)
theorem pos_cnt : ∀ e : List Bool, e.length = 8 → ∀ j : Nat, j < 8 → ∃ T Q : List Int, pos 0 e = T ++ Q ∧ (∀ x ∈ T, x ≤ (j : Int)) ∧ (∀ x ∈ Q, (j : Int) < x) ∧ (cnt 0 e).getD (j + 1) 0 = T.length := fun e he j hj => by
  refine ⟨pos 0 (e.take (j + 1)), pos (0 + (e.take (j + 1)).length) (e.drop (j + 1)), ?_, fun x hx => ?_, fun x hx => ?_, ?_⟩
  · rw [← pos_append, List.take_append_drop]
  · have := (pos_bound 0 _ x hx).2; simp at this; omega
  · have := (pos_bound _ _ x hx).1; simp at this; omega
  · rw [cnt_pos _ _ _ (by omega)]; simp
/-! # Bh -/
section
variable {c : C} {m m' : Nm} {l l' : Lg} {env : Env} {K : V → Nm → Lg → Prop} {KB : Bool → Nm → Lg → Prop} {KF' : Fl → Nm → Lg → Prop} {KU : Unit → Nm → Lg → Prop} {KL : List V → Nm → Lg → Prop} {pos : Pos} {a b : Addr} {vs ws : List V} {x : Str} {v : V}
/-! ### stores -/
theorem V.In.of {v : V} {w : Value} (h : v.Is w) : v.In (some w) := by cases v <;> first | trivial | exact ⟨_, rfl, h⟩
theorem N_cellE {v₀ : V} (hk : env.scope.kind = .function) (hx : env.kindOf x = some .cell) (hc : env.cells.lookup x = some a) (ha : (a, It.cell v₀) ∈ l) (u : Put a (.cell v) l l') (h : KU () m l') : StoreN c env x v m l KU := by
  intro w hw s r
  obtain ⟨_, _, _, o, y, e, e2, i⟩ := r.lg _ ha
  refine wpAny_storeName_cell hk hx hc ⟨o, e, e2⟩ fun h' hv hs => ?_
  obtain ⟨o', g, g2⟩ := hv
  exact ⟨(), m, l', trivial, r.upd u hs g ⟨o', _, g, g2, V.In.of hw⟩ rfl, Sm.refl.heap _, h⟩
theorem N_cell {v₀ : V} (ok : c.Ok) (hx : c.env.kindOf x = some .cell) (hc : c.env.cells.lookup x = some a) (ha : (a, It.cell v₀) ∈ l) (u : Put a (.cell v) l l') (h : KU () m l') : StoreN c c.env x v m l KU := N_cellE ok.hk hx hc ha u h
theorem Asg_name {p : Pos} (h : StoreN c env x v m l KU) : Asg c (.Name x p) env v m l KU := fun w hw s r => wpAny_assign_Name (h w hw s r)
noncomputable def AsgL (c : C) (fs : List (Value → Sem Unit)) (vs : List V) (m : Nm) (l : Lg) (K : Unit → Nm → Lg → Prop) : Prop := ∀ ws, VsIs vs ws → WU c (assignInOrder fs ws) m l K
theorem AsgL_nil (h : KU () m l) : AsgL c [] [] m l KU := by rintro _ rfl s r; exact assignInOrder_nil ⟨(), m, l, trivial, r, Sm.refl, h⟩
theorem AsgL_cons {f : Value → Sem Unit} {fs : List (Value → Sem Unit)} (h : ∀ w, v.Is w → WU c (f w) m l fun _ m1 l1 => AsgL c fs vs m1 l1 KU) : AsgL c (f :: fs) (v :: vs) m l KU := by
  rintro _ ⟨w, q, rfl, i, g⟩ s r
  exact assignInOrder_cons ((h w i).use Sm.refl r fun _ _ m1 l1 s1 _ r1 e1 k1 => W.fin (k1 _ g) e1 r1)
noncomputable def AsgT (c : C) (env : Env) (es : List Expr) (vs : List V) (m : Nm) (l : Lg) (K : Unit → Nm → Lg → Prop) : Prop := AsgL c (es.map fun e => assign e env) vs m l K
theorem AsgT_nil (h : KU () m l) : AsgT c env [] [] m l KU := AsgL_nil h
theorem AsgT_cons {e : Expr} {es : List Expr} (h : Asg c e env v m l fun _ m1 l1 => AsgT c env es vs m1 l1 KU) : AsgT c env (e :: es) (v :: vs) m l KU := AsgL_cons h
theorem Asg_tup {es : List Expr} {k : Nat} {tp : Pos} (ok : c.Ok) (ht : (a, It.tup vs) ∈ l) (hn : es.length = vs.length) (h : AsgT c env es vs m l KU) (he : assignEach es env = es.map fun e => (false, assign e env) := by rfl) : Asg c (.Tuple es k tp) env (.ref a) m l KU := by
  rintro _ rfl s r
  obtain ⟨ws, e, i⟩ := (r.lg _ ht).2.2.2
  have hl := i.length
  refine assign_Tuple_tuple ok.hh (items := ws.toArray) e (by rw [he]; simp [hl, hn]) (by rw [he]; simp) fun h' ex => ?_
  rw [he]
  have hm : (List.map (fun e => (false, assign e env)) es).map (·.2) = es.map fun e => assign e env := by simp [Function.comp_def]
  rw [hm]
  exact W.fin (h ws i) (Sm.refl.heap h') (r.grow fun b o e => ex b o (Nat.ne_of_lt (Heap.lt_size e)) e)
noncomputable def AsgN (c : C) (env : Env) (ns : List Str) (vs : List V) (m : Nm) (l : Lg) (K : Unit → Nm → Lg → Prop) : Prop := AsgL c (ns.map fun n => bindName env n) vs m l K
theorem AsgN_nil (h : KU () m l) : AsgN c env [] [] m l KU := AsgL_nil h
theorem AsgN_cons {ns : List Str} (h : StoreN c env x v m l fun _ m1 l1 => AsgN c env ns vs m1 l1 KU) : AsgN c env (x :: ns) (v :: vs) m l KU := AsgL_cons fun w i s r => wpAny_bindName (h w i s r)
noncomputable def Swp (c : C) (env : Env) (ns : List Str) (v : V) (m : Nm) (l : Lg) (K : Unit → Nm → Lg → Prop) : Prop := ∃ t vs, v = .ref t ∧ (t, It.tup vs) ∈ l ∧ vs.length = ns.length ∧ AsgN c env ns.reverse vs.reverse m l K
theorem Swp_mk {t : Addr} {ns : List Str} (ht : (t, It.tup vs) ∈ l) (hn : vs.length = ns.length) (h : AsgN c env ns.reverse vs.reverse m l KU) : Swp c env ns (.ref t) m l KU := ⟨t, vs, rfl, ht, hn, h⟩
theorem S_AssignSwap {es : List Expr} {k : Nat} {tp : Pos} {e : Expr} {ns : List Str} (ok : c.Ok) (h : WV c (eval e env) m l fun v m1 l1 => Swp c env ns v m1 l1 fun _ m2 l2 => KF' .next m2 l2)
    (h1 : swapsWithSole [.Tuple es k tp] e pos.line env = pure false) (h2 : swappedStores [.Tuple es k tp] e env = pure (some ns)) : WF c (exec (.Assign [.Tuple es k tp] e pos) env) m l KF' :=
  fun s r => Assign_Tuple_swapped (h.use Sm.refl r fun v y m1 l1 s1 ax r1 e1 k1 => by
    obtain ⟨t, vs, rfl, ht, hn, k2⟩ := k1
    cases ax
    obtain ⟨ws, e, i⟩ := (r1.lg _ ht).2.2.2
    have hl := i.length
    have := unpackItems_tuple (prog := Pg) (w := c.w) (A := c.A) (E := FF) (s := s1) ok.hh (items := ws.toArray) (t := t) e (Q := fun items s₂ => wpAny (model Pg c.w) c.A (assignInOrder (ns.reverse.map fun n => bindName env n) items.reverse) (fun _ s' => ∃ a m' l', Fl.Is a .next ∧ R c m' l' s'.heap ∧ Sm s s' ∧ KF' a m' l') FF s₂) fun h' ex => by
      refine W.use (k2 ws.reverse i.reverse) (e1.heap h') (r1.grow fun b o e => ex b o (Nat.ne_of_lt (Heap.lt_size e)) e) fun u _ m2 l2 s2 _ r2 e2 k2 => ⟨.next, m2, l2, rfl, r2, e2, k2⟩
    rw [show ns.length = ws.toArray.size by simp [hl, hn]]
    exact this) h1 h2
noncomputable def V.plain : V → Bool | .int _ | .bool _ | .none | .str _ => true | _ => false
theorem S_Expr {e : Expr} (h : WV c (eval e env) m l fun v m1 l1 => v.plain = true ∧ KF' .next m1 l1) (hi : interactive env = false := by rfl) (hs : swapsWith e none pos.line env = pure false := by rfl) : WF c (exec (.Expr e pos) env) m l KF' :=
  fun s r => wpAny_Expr (h.use Sm.refl r fun v y m1 l1 s1 ax r1 e1 k1 => by
    obtain ⟨k0, k1⟩ := k1
    cases v with
    | int n => obtain ⟨t, rfl⟩ := ax; exact ⟨.next, m1, l1, rfl, r1, e1, k1⟩
    | bool b => cases ax; exact ⟨.next, m1, l1, rfl, r1, e1, k1⟩
    | none => cases ax; exact ⟨.next, m1, l1, rfl, r1, e1, k1⟩
    | str x => obtain ⟨t, rfl⟩ := ax; exact ⟨.next, m1, l1, rfl, r1, e1, k1⟩
    | ref a => cases k0
    | any => cases k0
    | raw x => cases k0) hi hs
/-! ### and, or -/
theorem W_and {e1 e2 : Expr} {rest : List Expr} (h : WV c (eval e1 env) m l fun v m1 l1 => Tru c v m1 l1 fun b m2 l2 => if b = true then WV c (eval (.BoolOp .And (e2 :: rest) pos) env) m2 l2 K else K v m2 l2) : WV c (eval (.BoolOp .And (e1 :: e2 :: rest) pos) env) m l K :=
  fun s r => BoolOp_and (h.use Sm.refl r fun v y m1 l1 s1 ax r1 e1 k1 => W.use (k1 y ax) e1 r1 fun b z m2 l2 s2 bz r2 e2 k2 => by
    subst bz
    cases b with
    | true => exact W.fin (by simpa using k2) e2 r2
    | false => exact ⟨v, m2, l2, ax, r2, e2, by simpa using k2⟩)
theorem W_or {e1 e2 : Expr} {rest : List Expr} (h : WV c (eval e1 env) m l fun v m1 l1 => Tru c v m1 l1 fun b m2 l2 => if b = true then K v m2 l2 else WV c (eval (.BoolOp .Or (e2 :: rest) pos) env) m2 l2 K) : WV c (eval (.BoolOp .Or (e1 :: e2 :: rest) pos) env) m l K :=
  fun s r => BoolOp_or (h.use Sm.refl r fun v y m1 l1 s1 ax r1 e1 k1 => W.use (k1 y ax) e1 r1 fun b z m2 l2 s2 bz r2 e2 k2 => by
    subst bz
    cases b with
    | true => exact ⟨v, m2, l2, ax, r2, e2, by simpa using k2⟩
    | false => exact W.fin (by simpa using k2) e2 r2)
theorem W_one {op : BoolOp} {e : Expr} (h : WV c (eval e env) m l K) : WV c (eval (.BoolOp op [e] pos) env) m l K := fun s r => BoolOp_one (h s r)
/-! ### built-ins -/
theorem F_divmod {p q : Int} (hb : q ≠ 0) (hn : Builtin.divisionGoesByPylong p q = false) (h : ∀ D, (∀ y ∈ l, y.1 ≠ D) → K (.ref D) m ((D, .tup [.int (p.fdiv q), .int (p.fmod q)]) :: l)) : CallA c (.raw (.builtin "divmod")) [.int p, .int q] m l K := by
  rintro _ _ rfl ⟨_, _, rfl, ⟨t, rfl⟩, _, _, rfl, ⟨u, rfl⟩, rfl⟩ s r
  obtain ⟨m₀, news, F, _, N, va⟩ := r.via
  exact divmod_N F N hb (fun h' F' N' => ⟨.ref _, m, _, rfl, va.size N F' N' (atTup (vs := [.int (p.fdiv q), .int (p.fmod q)]) (ws := [.int _ _, .int _ _]) (N' _ (.head _)).1 (.cons ⟨_, rfl⟩ (.cons ⟨_, rfl⟩ .nil))) rfl, Sm.refl.mk _ _, h _ fun p hp => Nat.ne_of_lt (r.lt p hp)⟩) (.inl hn)
theorem F_intB {p : Bool} (h : K (.int (if p then 1 else 0)) m l) : CallA c (.raw (.type "int")) [.bool p] m l K := by
  rintro _ _ rfl ⟨_, _, rfl, rfl, rfl⟩ s r
  exact call_int_bool ⟨.int _, m, l, ⟨_, rfl⟩, r, Sm.refl.tok _, h⟩
theorem F_max2 {p q : Int} (ok : c.Ok) (h : K (.int (max p q)) m l) : CallA c (.raw (.builtin "max")) [.int p, .int q] m l K := by
  rintro _ _ rfl ⟨_, _, rfl, ⟨t, rfl⟩, _, _, rfl, ⟨u, rfl⟩, rfl⟩ s r
  refine max_two_ints ok.hh fun h' tk k => ⟨.int (max p q), m, l, ?_, r.grow k, Sm.refl.mk _ _, h⟩
  by_cases z : q > p
  · rw [if_pos z]; exact ⟨u, by rw [Int.max_eq_right (by omega)]⟩
  · rw [if_neg z]; exact ⟨t, by rw [Int.max_eq_left (by omega)]⟩
theorem F_min2 {p q : Int} (ok : c.Ok) (h : K (.int (min p q)) m l) : CallA c (.raw (.builtin "min")) [.int p, .int q] m l K := by
  rintro _ _ rfl ⟨_, _, rfl, ⟨t, rfl⟩, _, _, rfl, ⟨u, rfl⟩, rfl⟩ s r
  refine min_two_ints ok.hh fun h' tk k => ⟨.int (min p q), m, l, ?_, r.grow k, Sm.refl.mk _ _, h⟩
  by_cases z : q < p
  · rw [if_pos z]; exact ⟨u, by rw [Int.min_eq_right (by omega)]⟩
  · rw [if_neg z]; exact ⟨t, by rw [Int.min_eq_left (by omega)]⟩
theorem F_maxL {xs : List Int} (ok : c.Ok) (hm : (a, It.list (nums xs)) ∈ l) (hz : 0 < xs.length) (h : ∀ M, M ∈ xs → (∀ y ∈ xs, y ≤ M) → K (.int M) m l) : CallA c (.raw (.builtin "max")) [.ref a] m l K := by
  rintro _ _ rfl ⟨_, _, rfl, rfl, rfl⟩ s r
  obtain ⟨ws, n, e, i⟩ := r.list hm
  obtain ⟨m₀, news, F, _, N, va⟩ := r.via
  exact kso_max F N (isList e) i.ints' hz ok.hh fun h' M t tk F' N' h1 h2 => ⟨.int M, m, l, ⟨t, rfl⟩, va.same _ F' N', Sm.refl.mk _ _, h M h1 h2⟩
theorem F_sumO {xs : List Int} {ws : List Value} (ok : c.Ok) (hl : c.h₀.IsList a ws.toArray) (hi : IntsAre ws xs) (h : K (.int xs.sum) m l) : CallA c (.raw (.builtin "sum")) [.ref a] m l K := by
  rintro _ _ rfl ⟨_, _, rfl, rfl, rfl⟩ s r
  obtain ⟨m₀, news, F, _, N, va⟩ := r.via
  exact sumK ok.hh F N (hl.at fun o e => F.keep _ o e) hi fun h' tk t F' N' => ⟨.int _, m, l, ⟨t, rfl⟩, va.same _ F' N', Sm.refl.mk _ _, h⟩
theorem C_in {xs : List Int} {p : Int} (hm : (a, It.list (nums xs)) ∈ l) (h : K (.bool (xs.any (· == p))) m l) : Cmp c .In (.int p) (.ref a) m l K := by
  rintro _ _ ⟨t, rfl⟩ rfl s r
  obtain ⟨ws, n, e, i⟩ := r.list hm
  exact in_list_ints (isList e) i.ints' ⟨.bool _, m, l, rfl, r, Sm.refl, h⟩
theorem C_neI {p q : Int} (h : K (.bool (!(p == q))) m l) : Cmp c .NotEq (.int p) (.int q) m l K := C_ne h
theorem F_pop {v : V} (hm : (a, It.list (vs ++ [v])) ∈ l) (u : Put a (.list vs) l l') (hz : vs.length ≤ 1000) (h : K v m l') : CallA c (.raw (.builtin "list.pop")) [.ref a] m l K := by
  rintro _ _ rfl ⟨_, _, rfl, rfl, rfl⟩ s r
  obtain ⟨ws, n, e, i⟩ := r.list hm
  have hl := i.length
  have split : ∃ p y, ws = p ++ [y] ∧ VsIs vs p ∧ v.Is y := by
    have h1 := i.take vs.length
    have h2 := i.drop vs.length
    simp only [List.take_left, List.drop_left] at h1 h2
    obtain ⟨y, q, e1, e2, e3⟩ := h2
    refine ⟨ws.take vs.length, y, ?_, h1, e2⟩
    cases e3
    rw [← e1, List.take_append_drop]
  obtain ⟨p, y, rfl, ip, iy⟩ := split
  have kl : ∀ (p : List Value) (y : Value), kl_last (p ++ [y]) = some (p, y) := by
    intro p y
    induction p with
    | nil => rfl
    | cons x r ih => show (match kl_last (r ++ [y]) with | some (p, y) => some (x :: p, y) | none => some ([], x)) = _; rw [ih]
  obtain ⟨m₀, news, news', F, N, U, k⟩ := r.viaUpd (o' := listOf p.toArray (n + 1)) u e rfl
  refine kl_pop F N (kl p y) U ?_ (fun h' F' N' => ⟨v, m, l', iy, k h' F' N' fun e' => ⟨p, n + 1, e', ip⟩, Sm.refl.heap _, h⟩)
  have e2 : sizeLine = 16777216 := by decide
  simp at hl ⊢; omega
/-! ### slices -/
noncomputable def Part (c : C) (env : Env) (e : Option Expr) (m : Nm) (l : Lg) (K : Option Int → Nm → Lg → Prop) : Prop := match e with
  | none => K none m l
  | some e => WV c (eval e env) m l fun v m1 l1 => ∃ k, v = .int k ∧ K (some k) m1 l1
noncomputable def PartIs : Option Int → Value → Prop
  | none, v => v = .none
  | some k, v => ∃ t, v = .int k t
theorem PartIs.part : ∀ {o : Option Int} {v : Value}, PartIs o v → IsPart v o
  | none, _, h => by cases h; exact .none
  | some k, _, ⟨t, h⟩ => by cases h; exact .int k t
theorem Part.use {e : Option Expr} {KP : Option Int → Nm → Lg → Prop} {s₀ s : Shared} {Q : Value → Shared → Prop} (h : Part c env e m l KP) (e0 : Sm s₀ s) (r : R c m l s.heap)
    (q : ∀ o v m' l' s', PartIs o v → R c m' l' s'.heap → Sm s₀ s' → KP o m' l' → Q v s') : wpAny (model Pg c.w) c.A (evalPart e env) Q FF s := by
  cases e with
  | none => exact evalPart_none_step (q none _ m l s rfl r e0 h)
  | some e =>
    refine evalPart_some_step (W.use h e0 r fun v y m1 l1 s1 vy r1 e1 k1 => ?_)
    obtain ⟨k, rfl, k1⟩ := k1
    exact q (some k) y m1 l1 s1 vy r1 e1 k1
noncomputable def cutV {α : Type} (vs : List α) (lo hi : Option Int) : List α := (vs.drop (kms_lo lo vs.length)).take (kms_hi hi vs.length - kms_lo lo vs.length)
/-- what a name refers to is a list, now -/
noncomputable def IsNow (c : C) (m : Nm) (l : Lg) (a : Addr) (vs : List V) : Prop := ∀ h, R c m l h → ∃ ws, h.IsList a ws.toArray ∧ VsIs vs ws
theorem IsNow.led (hm : (a, It.list vs) ∈ l) : IsNow c m l a vs := fun h r => let ⟨ws, n, e, i⟩ := r.list hm; ⟨ws, isList e, i⟩
theorem IsNow.old {ws : List Value} (hl : c.h₀.IsList a ws.toArray) (i : VsIs vs ws) : IsNow c m l a vs := fun h r => ⟨ws, hl.at fun o e => r.keep _ o e, i⟩
theorem W_Slice {o : Expr} {lo hi : Option Expr} {p : Pos} (h : WV c (eval o env) m l fun x m1 l1 => Part c env lo m1 l1 fun u m2 l2 => Part c env hi m2 l2 fun v m3 l3 => ∃ a vs, x = .ref a ∧ vs.length ≤ 1000 ∧ IsNow c m3 l3 a vs ∧ ∀ D, (∀ y ∈ l3, y.1 ≠ D) → K (.ref D) m3 ((D, .list (cutV vs u v)) :: l3)) :
    WV c (eval (.Subscript o (.Slice lo hi none p) pos) env) m l K :=
  fun s r => Subscript_ (h.use Sm.refl r fun x y m1 l1 s1 ax r1 e1 k1 => wpAny_Slice (Part.use k1 e1 r1 fun u uv m2 l2 s2 iu r2 e2 k2 => Part.use k2 e2 r2 fun v vv m3 l3 s3 iv r3 e3 k3 => evalPart_none_step (by
    obtain ⟨a, vs, rfl, hz, hnow, k4⟩ := k3
    cases ax
    obtain ⟨ws, hl, i⟩ := hnow _ r3
    have hlen := i.length
    have e2 : sizeLine = 16777216 := by decide
    have hg : wpAny (model Pg c.w) c.A (getItem (.ref a) (.ref s3.heap.objs.size)) (fun b s' => ∃ a m' l', V.Is a b ∧ R c m' l' s'.heap ∧ Sm s s' ∧ K a m' l') FF { s3 with heap := s3.heap.push { cls := .type "slice", data := .fields #[uv, vv, .none] } } := by
      refine wpAny_getItem_list_slice (hl.push _) (Heap.IsSliceOf.new ..) iu.part iv.part .none (by simp) ?_ (by simp only [List.size_toArray]; omega)
      have r4 := (r3.push (o := { cls := .type "slice", data := .fields #[uv, vv, .none] }) (it := .obj { cls := .type "slice", data := .fields #[uv, vv, .none] }) rfl (Heap.get?_push_size _ rfl) rfl).sub (List.sublist_cons_self ..)
      have r5 := r4.push (o := { cls := .type "list", data := .seq (slicePick ws.toArray u v none) }) (it := .list (cutV vs u v)) rfl ⟨kms_pick ws u v, 0, by rw [Heap.get?_push_size _ rfl, kms_pick_eq], by
        unfold kms_pick cutV; rw [hlen]; exact (i.drop _).take _⟩ rfl
      exact ⟨.ref _, _, _, rfl, r5, e3.heap _, k4 _ fun p hp => Nat.ne_of_lt (r4.lt p hp)⟩
    unfold subscriptTail
    refine wpAny_bind ?_
    have hT := Heap.IsList.typeIs (s := { s3 with heap := s3.heap.push { cls := .type "slice", data := .fields #[uv, vv, .none] } }) (hl.push _)
    rw [getitemInPython_of_ne hT.not_modules]
    refine wpAny_bind (wpAny_specialOf hT list_getitem_lookup ?_)
    have fin : wpAny (model Pg c.w) c.A (subscripted (.Slice lo hi none p) false (.ref a) (.ref s3.heap.objs.size)) (fun x s₃ => wpAny (model Pg c.w) c.A (letTemporaryGo o (.ref a) x >>= fun _ => pure x) (fun b s' => ∃ a m' l', V.Is a b ∧ R c m' l' s'.heap ∧ Sm s s' ∧ K a m' l') FF s₃) FF { s3 with heap := s3.heap.push { cls := .type "slice", data := .fields #[uv, vv, .none] } } := by
      show wpAny _ _ (operate _ (getItem _ _)) _ _ _
      exact wpAny_operating (wpAny_mono hg (fun r s₃ h₃ => wpAny_bind (wpAny_letTemporaryGo (wpAny_pure h₃))) fun _ _ x => x)
    first
      | exact wpAny_pure (wpAny_bind fin)
      | exact wpAny_bind (wpAny_pure (wpAny_bind fin))
      | exact wpAny_bind fin)))
end
/-! # Bi -/
theorem R.fresh {c : C} {m : Nm} {l : Lg} {h h' : Heap} {T : Addr} {o : Obj} {it : It} (r : R c m l h) (r' : R c m l h') (hs : h.objs.size ≤ T) (ho : h'.get? T = some o) (hi : it.At h' T) (hc : it.code? = none) (kp : ∀ {X : Lg}, R0 c m X h' → (∀ p ∈ X, p.1 ≠ T) → True) : True := trivial
/-- the ledger's first part is changed, and new objects are laid -/
theorem R0.more {c : C} {m : Nm} {xs xs' l : Lg} {h h' : Heap} {T : Addr} {o : Obj} {it : It} (r : R0 c m (xs ++ l) h) (k : ∀ b o, b ∉ xs.map (·.1) → h.get? b = some o → h'.get? b = some o)
    (n : ∀ p ∈ xs', (∃ o, h'.get? p.1 = some o) ∧ p.2.At h' p.1) (hs : (xs'.map (·.1)).Sublist (xs.map (·.1))) (ht : h.objs.size ≤ T) (ho : h'.get? T = some o) (hi : it.At h' T) : R0 c m ((T, it) :: (xs' ++ l)) h' := by
  obtain ⟨m₀, F, _⟩ := r.nm
  refine (r.many k n hs).cons (fun p hp e => ?_) ho (fun e => Nat.not_lt.mpr ht (e ▸ F.ns.lt)) ?_ hi
  · have : p.1 ∈ (xs ++ l).map (·.1) := by
      rw [List.map_append]
      rcases List.mem_append.mp hp with hp | hp
      · exact List.mem_append_left _ (hs.subset (List.mem_map_of_mem (f := Prod.fst) hp))
      · exact List.mem_append_right _ (List.mem_map_of_mem (f := Prod.fst) hp)
    obtain ⟨q, hq, e2⟩ := List.mem_map.mp this
    have := r.lt q hq
    rw [e2, e] at this
    exact Nat.not_lt.mpr ht this
  · cases e : c.h₀.get? T with
    | none => rfl
    | some x => exact absurd (Nat.lt_of_lt_of_le (Heap.lt_size (F.keep _ _ e)) ht) (Nat.lt_irrefl _)
theorem R.more {c : C} {m : Nm} {xs xs' l : Lg} {h h' : Heap} {T : Addr} {o : Obj} {it : It} (r : R c m (xs ++ l) h) (k : ∀ b o, b ∉ xs.map (·.1) → h.get? b = some o → h'.get? b = some o)
    (n : ∀ p ∈ xs', (∃ o, h'.get? p.1 = some o) ∧ p.2.At h' p.1 ∧ p.2.code? = none) (hs : (xs'.map (·.1)).Sublist (xs.map (·.1))) (ht : h.objs.size ≤ T) (ho : h'.get? T = some o) (hi : it.At h' T) (hc : it.code? = none) : R c m ((T, it) :: (xs' ++ l)) h' := by
  obtain ⟨U, t, r, q⟩ := r
  rw [List.append_assoc] at r
  refine ⟨U, t, ?_, Lk.cons (fun p hp c' q' e => ?_) hc⟩
  · have := r.more k (fun p hp => ⟨(n p hp).1, (n p hp).2.1⟩) hs ht ho hi
    rw [← List.append_assoc] at this
    exact this
  · rcases List.mem_append.mp hp with hp | hp
    · rw [(n p hp).2.2] at e; cases e
    · exact q p (List.mem_append_right _ hp) c' q' e
theorem R.one {c : C} {m : Nm} {l : Lg} {h h' : Heap} {I : Addr} {it it' : It} {o : Obj} (r : R c m ((I, it) :: l) h) (k : ∀ b o, b ≠ I → h.get? b = some o → h'.get? b = some o) (ho : h'.get? I = some o) (hi : it'.At h' I) (hc : it'.code? = none) : R c m ((I, it') :: l) h' :=
  R.many (xs := [(I, it)]) (xs' := [(I, it')]) r (fun b o hb e => k b o (fun z => hb (by simp [z])) e) (fun p hp => by
    have e := List.mem_singleton.mp hp
    subst e
    exact ⟨⟨o, ho⟩, hi, hc⟩) (List.Sublist.refl _)
theorem R.gone {c : C} {m : Nm} {l : Lg} {h h' : Heap} {I : Addr} {it : It} (r : R c m ((I, it) :: l) h) (k : ∀ b o, b ≠ I → h.get? b = some o → h'.get? b = some o) : R c m l h' :=
  R.many (xs := [(I, it)]) (xs' := []) r (fun b o hb e => k b o (fun z => hb (by simp [z])) e) (fun p hp => nomatch hp) (List.nil_sublist _)

structure Iter (c : C) (I : Addr) (tgt : Expr) (n : Nat) (its : Nat → Lg) (need : Lg → Prop) (Itm : Nat → V → Lg → Prop) : Prop where
  item : ∀ i m l s (Q : Option Value → Shared → Prop), i < n → need l → R c m (its i ++ l) s.heap →
    (∀ x v ex s₁, x.Is v → Itm i x ex → (∀ Q' : Unit → Shared → Prop, (∀ s₂, Sm s s₂ → R c m (ex ++ (its (i + 1) ++ l)) s₂.heap → Q' () s₂) → wpAny (model Pg c.w) c.A (letOwnedTupleGo tgt (.ref I) v) Q' FF s₁) → Q (some v) s₁) →
    wpAny (model Pg c.w) c.A (pyNext (.ref I)) Q FF s
  done : ∀ m l s (Q : Option Value → Shared → Prop), need l → R c m (its n ++ l) s.heap → (∀ s₁, Sm s s₁ → R c m l s₁.heap → Q none s₁) → wpAny (model Pg c.w) c.A (pyNext (.ref I)) Q FF s
  self : ∀ m l s (Q : Value → Shared → Prop), need l → R c m (its 0 ++ l) s.heap → Q (.ref I) s → wpAny (model Pg c.w) c.A (pyIter (.ref I)) Q FF s

section
variable {c : C} {m m' : Nm} {l l' : Lg} {env : Env} {K : V → Nm → Lg → Prop} {KB : Bool → Nm → Lg → Prop} {KF' : Fl → Nm → Lg → Prop} {KU : Unit → Nm → Lg → Prop} {KL : List V → Nm → Lg → Prop} {pos : Pos} {a b I : Addr} {xs ys : List V} {x : Str} {v : V} {tgt : Expr}
theorem R.at {p : Addr × It} {h : Heap} (r : R c m l h) (hp : p ∈ l) : p.2.At h p.1 := (r.lg p hp).2.2.2
theorem Iter.list (ok : c.Ok) (ht : ∀ v, letOwnedTupleGo tgt (.ref I) v = pure ()) : Iter c I tgt xs.length (fun i => [(I, .lit a i)]) (fun l => (a, It.list xs) ∈ l) (fun i x ex => xs[i]? = some x ∧ ex = []) where
  item := fun i m l s Q hi hm r hq => by
    obtain ⟨ws, n, e, j⟩ := r.list (List.mem_append_right _ hm)
    obtain ⟨w, hw, hx⟩ := j.get (List.getElem?_eq_getElem hi)
    have hit : s.heap.IsListIter I a i := r.at (p := (I, .lit a i)) (.head _)
    refine wpAny_pyNext_list_item hit (isList e) (x := w) (by simpa using hw) fun h' hit' hs => ?_
    refine hq _ w [] _ hx ⟨List.getElem?_eq_getElem hi, rfl⟩ fun Q' hQ' => ?_
    rw [ht]
    obtain ⟨o9, ho9, _⟩ := id hit'
    exact wpAny_pure (hQ' _ (Sm.refl.heap _) (R.one (o := o9) r (fun b o hb e => (hs.2 b hb).trans e) ho9 hit' rfl))
  done := fun m l s Q hm r hq => by
    obtain ⟨ws, n, e, j⟩ := r.list (List.mem_append_right _ hm)
    have hit : s.heap.IsListIter I a xs.length := r.at (p := (I, .lit a xs.length)) (.head _)
    exact wpAny_pyNext_list_end ok.hh hit (isList e) (by simp [j.length]) fun h' he => hq _ (Sm.refl.heap _) (R.gone r fun b o hb e => he b o hb e)
  self := fun m l s Q hm r hq => wpAny_pyIter_listiter (r.at (p := (I, .lit a 0)) (.head _)) hq
theorem Iter.rev (ok : c.Ok) (ht : ∀ v, letOwnedTupleGo tgt (.ref I) v = pure ()) : Iter c I tgt xs.length (fun i => [(I, .rev a ((xs.length : Int) - 1 - i))]) (fun l => (a, It.list xs) ∈ l) (fun i x ex => xs[xs.length - 1 - i]? = some x ∧ ex = []) where
  item := fun i m l s Q hi hm r hq => by
    obtain ⟨ws, n, e, j⟩ := r.list (List.mem_append_right _ hm)
    have hi2 : xs.length - 1 - i < xs.length := by omega
    obtain ⟨w, hw, hx⟩ := j.get (List.getElem?_eq_getElem hi2)
    have hit : s.heap.IsRevIter I a (((xs.length - 1 - i : Nat)) : Int) := by
      have := r.at (p := (I, .rev a ((xs.length : Int) - 1 - i))) (.head _)
      rwa [show ((xs.length : Int) - 1 - i) = ((xs.length - 1 - i : Nat) : Int) by omega] at this
    refine wpAny_pyNext_rev_item hit (isList e) (x := w) (by simpa using hw) fun h' hit' hs => ?_
    refine hq _ w [] _ hx ⟨List.getElem?_eq_getElem hi2, rfl⟩ fun Q' hQ' => ?_
    rw [ht]
    rw [show (((xs.length - 1 - i : Nat)) : Int) - 1 = (xs.length : Int) - 1 - ((i + 1 : Nat) : Int) by omega] at hit'
    obtain ⟨o9, ho9, _⟩ := id hit'
    exact wpAny_pure (hQ' _ (Sm.refl.heap _) (R.one (o := o9) r (fun b o hb e => (hs.2 b hb).trans e) ho9 hit' rfl))
  done := fun m l s Q hm r hq => by
    have hit : s.heap.IsRevIter I a (-1) := by
      have := r.at (p := (I, .rev a ((xs.length : Int) - 1 - xs.length))) (.head _)
      rwa [show ((xs.length : Int) - 1 - (xs.length : Nat)) = -1 by omega] at this
    exact wpAny_pyNext_rev_end ok.hh hit fun h' he => hq _ (Sm.refl.heap _) (R.gone r fun b o hb e => he b o hb e)
  self := fun m l s Q hm r hq => wpAny_pyIter_revIter (r.at (p := (I, .rev a ((xs.length : Int) - 1 - (0 : Nat)))) (.head _)) hq
theorem Iter.range {p q : Int} {n : Nat} (ok : c.Ok) (ht : ∀ v, letOwnedTupleGo tgt (.ref I) v = pure ()) : Iter c I tgt n (fun i => [(I, .rng (p + (i : Nat) * q) ((n : Int) - (i : Nat)) q)]) (fun l => True) (fun i x ex => x = .int (p + (i : Nat) * q) ∧ ex = []) where
  item := fun i m l s Q hi _ r hq => by
    have hit := r.at (p := (I, .rng (p + (i : Nat) * q) ((n : Int) - (i : Nat)) q)) (.head _)
    refine wpAny_pyNext_range_item hit (by omega) fun h' hit' hs => ?_
    refine hq (.int _) _ [] _ ⟨_, rfl⟩ ⟨rfl, rfl⟩ fun Q' hQ' => ?_
    rw [ht]
    rw [show p + (i : Nat) * q + q = p + ((i + 1 : Nat) : Int) * q by push_cast; rw [Int.add_mul, Int.one_mul, Int.add_assoc], show (n : Int) - (i : Nat) - 1 = (n : Int) - ((i + 1 : Nat) : Int) by push_cast; omega] at hit'
    exact wpAny_pure (hQ' _ (Sm.refl.mk _ _) (R.one r (fun b o hb e => (hs.2 b hb).trans e) hit' hit' rfl))
  done := fun m l s Q _ r hq => by
    have hit := r.at (p := (I, .rng (p + (n : Nat) * q) ((n : Int) - (n : Nat)) q)) (.head _)
    exact wpAny_pyNext_range_end ok.hh hit (by omega) fun h' he => hq _ (Sm.refl.heap _) (R.gone r fun b o hb e => he b o hb e)
  self := fun m l s Q hm r hq => wpAny_pyIter_rangeiter (r.at (p := (I, .rng (p + ((0 : Nat) : Int) * q) ((n : Int) - ((0 : Nat) : Int)) q)) (.head _)) hq
noncomputable abbrev zipObj (TI TO : Addr) : Obj := { cls := .type "zip", dict := none, data := .fields #[.none, .bool false, .bool false, .ref TI, .ref TO], slots := #[] }
noncomputable abbrev pairObj (i j : Addr) : Obj := { cls := .type "tuple", data := .seq #[.ref i, .ref j] }
noncomputable abbrev zipIts (z TI TO i1 i2 l1 l2 : Addr) (i : Nat) : Lg := [(z, .obj (zipObj TI TO)), (TI, .obj (pairObj i1 i2)), (TO, .pair), (i1, .lit l1 i), (i2, .lit l2 i)]
theorem R.nodup {h₉ : Heap} (r : R c m l h₉) : (l.map (·.1)).Nodup := by
  obtain ⟨T, t, r, _⟩ := r
  have := r.nd
  rw [List.map_append] at this
  exact (List.nodup_append.mp this).1
theorem Iter.zip {z TI TO i1 i2 l1 l2 : Addr} {es : List Expr} {k : Nat} {tp : Pos} (ok : c.Ok) : Iter c z (.Tuple es k tp) (min xs.length ys.length) (zipIts z TI TO i1 i2 l1 l2) (fun l => (l1, It.list xs) ∈ l ∧ (l2, It.list ys) ∈ l)
    (fun i x ex => ∃ T u v, xs[i]? = some u ∧ ys[i]? = some v ∧ x = .ref T ∧ ex = [(T, .tup [u, v])]) := by
  have st : ∀ {i : Nat} {m : Nm} {l : Lg} {h : Heap}, (l1, It.list xs) ∈ l ∧ (l2, It.list ys) ∈ l → R c m (zipIts z TI TO i1 i2 l1 l2 i ++ l) h → ZipApart z TI TO i1 i2 l1 l2 ∧
      ∃ us vs, VsIs xs us ∧ VsIs ys vs ∧ (IsZip h z TI TO .none ∧ IsPair h TI (.ref i1) (.ref i2) ∧ (∃ a b, IsPair h TO a b) ∧ h.IsListIter i1 l1 i ∧ h.IsListIter i2 l2 i ∧ h.IsList l1 us.toArray ∧ h.IsList l2 vs.toArray) := by
    intro i m l h hn r
    obtain ⟨us, n, e, j⟩ := r.list (List.mem_append_right _ hn.1)
    obtain ⟨vs, n', e', j'⟩ := r.list (List.mem_append_right _ hn.2)
    have nd := r.nodup
    have a1 : l1 ∈ l.map (·.1) := List.mem_map_of_mem (f := Prod.fst) hn.1
    have a2 : l2 ∈ l.map (·.1) := List.mem_map_of_mem (f := Prod.fst) hn.2
    simp only [zipIts, List.map_append, List.map_cons, List.map_nil, List.cons_append, List.nil_append, List.nodup_cons, List.mem_cons, not_or] at nd
    obtain ⟨⟨n1, n2, n3, n4, n5⟩, ⟨n6, n7, n8, n9⟩, ⟨n10, n11, n12⟩, ⟨n13, n14⟩, n15, _⟩ := nd
    have ap : ∀ {y x : Addr}, x ∉ l.map (·.1) → y ∈ l.map (·.1) → y ≠ x := fun h1 h2 e => h1 (e ▸ h2)
    refine ⟨⟨Ne.symm n1, Ne.symm n2, Ne.symm n3, Ne.symm n4, n6, n7, n8, n10, n11, n13, ap n5 a1, ap n12 a1, ap n14 a1, ap n15 a1, ap n5 a2, ap n12 a2, ap n14 a2, ap n15 a2⟩, us, vs, j, j', ?_⟩
    exact ⟨r.at (p := (z, _)) (.head _), r.at (p := (TI, _)) (.tail _ (.head _)), r.at (p := (TO, It.pair)) (.tail _ (.tail _ (.head _))), r.at (p := (i1, _)) (.tail _ (.tail _ (.tail _ (.head _)))), r.at (p := (i2, _)) (.tail _ (.tail _ (.tail _ (.tail _ (.head _))))), isList e, isList e'⟩
  refine ⟨fun i m l s Q hi hn r hq => ?_, fun m l s Q hn r hq => ?_, fun m l s Q hn r hq => ?_⟩
  · obtain ⟨D, us, vs, j, j', hst⟩ := st hn r
    have W := WalksT.zip2 (prog := Pg) (w := c.w) (A := c.A) ok.hh z TI TO i1 i2 l1 l2 D us.toArray vs.toArray
    refine W.item i s Q FF (by simp only [List.size_toArray, j.length, j'.length]; exact hi) hst fun T vals h' tk hP hT hTup hmid hk => ?_
    obtain ⟨x, y, hx, hy, rfl⟩ := hP
    have hix : i < xs.length := by omega
    have hiy : i < ys.length := by omega
    obtain ⟨x', hx', ix⟩ := j.get (List.getElem?_eq_getElem hix)
    obtain ⟨y', hy', iy⟩ := j'.get (List.getElem?_eq_getElem hiy)
    have ex : x' = x := by simpa [hx'] using hx
    have ey : y' = y := by simpa [hy'] using hy
    subst ex ey
    refine hq (.ref T) _ [(T, .tup [xs[i], ys[i]])] _ rfl ⟨T, _, _, List.getElem?_eq_getElem hix, List.getElem?_eq_getElem hiy, rfl, rfl⟩ fun Q' hQ' => ?_
    refine W.go es k tp i T _ Q' FF hmid fun h2 hst2 hk2 => hQ' _ (Sm.refl.mk h2 tk) ?_
    have hTw : T ∉ [z, TO, i1, i2] := W.apart i T h' hmid
    obtain ⟨o, ho, hoc, hod⟩ := hTup
    have keep : ∀ b o, b ∉ [z, TO, i1, i2] → s.heap.get? b = some o → h2.get? b = some o := fun b o hb e => hk2 b o hb (hk b o hb e)
    obtain ⟨g1, g2, ⟨p, q, g3⟩, g4, g5, g6, g7⟩ := hst2
    refine R.more (xs := zipIts z TI TO i1 i2 l1 l2 i) (xs' := zipIts z TI TO i1 i2 l1 l2 (i + 1)) r (fun b o hb e => keep b o (fun z => hb ?_) e) (fun p hp => ?_) (List.Sublist.refl _) hT (hk2 T o hTw ho) ⟨[x', y'], ⟨o, hk2 T o hTw ho, hoc, hod⟩, .cons ix (.cons iy .nil)⟩ rfl
    · simp only [List.mem_cons, List.not_mem_nil, or_false] at z
      simp only [zipIts, List.map_cons, List.map_nil, List.mem_cons, List.not_mem_nil, or_false]
      rcases z with z | z | z | z <;> simp [z]
    · simp only [zipIts, List.mem_cons, List.not_mem_nil, or_false] at hp
      rcases hp with rfl | rfl | rfl | rfl | rfl
      · exact ⟨⟨_, g1⟩, g1, rfl⟩
      · exact ⟨⟨_, g2⟩, g2, rfl⟩
      · exact ⟨⟨_, g3⟩, ⟨p, q, g3⟩, rfl⟩
      · obtain ⟨o, ho, _⟩ := id g4; exact ⟨⟨_, ho⟩, g4, rfl⟩
      · obtain ⟨o, ho, _⟩ := id g5; exact ⟨⟨_, ho⟩, g5, rfl⟩
  · obtain ⟨D, us, vs, j, j', hst⟩ := st hn r
    have W := WalksT.zip2 (prog := Pg) (w := c.w) (A := c.A) ok.hh z TI TO i1 i2 l1 l2 D us.toArray vs.toArray
    have e : min us.toArray.size vs.toArray.size = min xs.length ys.length := by simp [j.length, j'.length]
    refine W.done s Q FF (e ▸ hst) fun h' tk hk => hq _ (Sm.refl.mk _ _) ?_
    refine R.many (xs := zipIts z TI TO i1 i2 l1 l2 (min xs.length ys.length)) (xs' := []) r (fun b o hb e => hk b o (fun z => hb ?_) e) (fun p hp => nomatch hp) (List.nil_sublist _)
    simp only [List.mem_cons, List.not_mem_nil, or_false] at z
    simp only [zipIts, List.map_cons, List.map_nil, List.mem_cons, List.not_mem_nil, or_false]
    rcases z with z | z | z | z <;> simp [z]
  · obtain ⟨D, us, vs, j, j', hst⟩ := st hn r
    exact (WalksT.zip2 (prog := Pg) (w := c.w) (A := c.A) ok.hh z TI TO i1 i2 l1 l2 D us.toArray vs.toArray).self 0 s Q FF hst hq
end
/-! # Bj -/
theorem neA {x j k : Nat} (h : j ≠ k) : x + j ≠ x + k := fun e => h (Nat.add_left_cancel e)
section
variable {c : C} {m m' : Nm} {l l' : Lg} {env : Env} {K : V → Nm → Lg → Prop} {KB : Bool → Nm → Lg → Prop} {KF' : Fl → Nm → Lg → Prop} {KU : Unit → Nm → Lg → Prop} {KL : List V → Nm → Lg → Prop} {pos : Pos} {a b I : Addr} {xs ys : List V} {x : Str} {v : V} {tgt : Expr} {n : Nat}
  {its : Nat → Lg} {need : Lg → Prop} {Itm : Nat → V → Lg → Prop} {body : List Stmt}
/-! ### for -/
noncomputable def ForC (c : C) (env : Env) (tgt : Expr) (body : List Stmt) (x : V) (m : Nm) (l : Lg) (K : Fl → Nm → Lg → Prop) : Prop := ∀ v s₀ s, x.Is v → Sm s₀ s → R c m l s.heap →
  wpAny (model Pg c.w) c.A (pyIter v) (fun it s₂ => codeAny (model Pg c.w) c.A (.forLoop tgt it body [] env) (fun r s' => match r with | .ok f => ∃ a m' l', Fl.Is a f ∧ R c m' l' s'.heap ∧ Sm s₀ s' ∧ K a m' l' | .error e => False) s₂) FF s
theorem S_For {iter : Expr} (h : WV c (eval iter env) m l fun x m1 l1 => ForC c env tgt body x m1 l1 KF') (hs : ∀ x, foldedSetIterable iter env x = pure x := by exact fun _ => rfl) : WF c (exec (.For tgt iter body [] pos) env) m l KF' :=
  fun s r => wpAny_For (h.use Sm.refl r fun x v m1 l1 s1 ax r1 e1 k1 => wpAny_mono (k1 v s s1 ax e1 r1) (fun it s₂ h₂ => codeAny_mono h₂ fun r s' h => by
    cases r with
    | ok f => exact h
    | error e => exact h.elim) fun _ _ x => x.elim) hs
theorem For_core (it : Iter c I tgt n its need Itm) (P : Nat → Nm → Lg → Prop) (hn : ∀ i m l, P i m l → need l) (h0 : P 0 m l)
    (turn : ∀ i m l x ex, i < n → P i m l → Itm i x ex → Asg c tgt env x m (ex ++ (its (i + 1) ++ l)) fun _ m1 l1 => WF c (execs body env) m1 l1 fun f m2 l2 => match f with
      | .next | .cont => ∃ l3, Fits l2 (its (i + 1) ++ l3) ∧ P (i + 1) m2 l3
      | .brk => KF' .next m2 l2
      | .ret v => KF' (.ret v) m2 l2)
    (done : ∀ m l, P n m l → KF' .next m l) {s₀ s : Shared} (r : R c m (its 0 ++ l) s.heap) (e : Sm s₀ s) :
    codeAny (model Pg c.w) c.A (.forLoop tgt (.ref I) body [] env) (fun r s' => match r with | .ok f => ∃ a m' l', Fl.Is a f ∧ R c m' l' s'.heap ∧ Sm s₀ s' ∧ KF' a m' l' | .error e => False) s := by
  refine codeAny_forLoop_any (fun k s' => ∃ i m l, k = n + 1 - i ∧ i ≤ n ∧ R c m (its i ++ l) s'.heap ∧ Sm s₀ s' ∧ P i m l) ?_ (n + 1) ⟨0, m, l, rfl, Nat.zero_le _, r, e, h0⟩
  rintro k s' ⟨i, m, l, rfl, hi, r', e', hp⟩
  by_cases hlt : i < n
  · refine wpAny_mono (it.item i m l s' _ hlt (hn _ _ _ hp) r' fun x v ex s₁ hx hI go => ?_) (fun _ _ x => x) (fun _ _ x => x.elim)
    show wpAny _ _ _ _ _ _
    refine wpAny_mono (go _ fun s₂ e₂ r₂ => ?_) (fun _ _ x => x) (fun _ _ x => x.elim)
    refine wpAny_mono (W.use (turn i m l x ex hlt hp hI v hx) (e'.trans e₂) r₂ fun _ _ m1 l1 s3 _ r3 e3 k3 => ?_) (fun _ _ x => x) (fun _ _ x => x.elim)
    refine wpAny_mono (W.use k3 e3 r3 fun f g m2 l2 s4 fg r4 e4 k4 => ?_) (fun _ _ x => x) (fun _ _ x => x.elim)
    cases f with
    | next => cases fg; obtain ⟨l3, f3, p3⟩ := k4; exact ⟨n + 1 - (i + 1), by omega, i + 1, m2, l3, rfl, hlt, r4.perm f3, e4, p3⟩
    | cont => cases fg; obtain ⟨l3, f3, p3⟩ := k4; exact ⟨n + 1 - (i + 1), by omega, i + 1, m2, l3, rfl, hlt, r4.perm f3, e4, p3⟩
    | brk => cases fg; exact ⟨.next, m2, l2, rfl, r4, e4, k4⟩
    | ret v => obtain ⟨w, rfl, i⟩ := fg; exact ⟨.ret v, m2, l2, ⟨w, rfl, i⟩, r4, e4, k4⟩
  · have : i = n := by omega
    subst this
    refine wpAny_mono (it.done m l s' _ (hn _ _ _ hp) r' fun s₁ e₁ r₁ => ?_) (fun _ _ x => x) (fun _ _ x => x.elim)
    exact wpAny_execs_nil ⟨.next, m, l, rfl, r₁, e'.trans e₁, done m l hp⟩
/-- the invariant's turn -/
noncomputable abbrev Turn (c : C) (env : Env) (tgt : Expr) (body : List Stmt) (its : Nat → Lg) (P : Nat → Nm → Lg → Prop) (KF' : Fl → Nm → Lg → Prop) (i : Nat) (m : Nm) (l : Lg) (x : V) (ex : Lg) : Prop :=
  Asg c tgt env x m (ex ++ (its (i + 1) ++ l)) fun _ m1 l1 => WF c (execs body env) m1 l1 fun f m2 l2 => match f with
      | .next | .cont => ∃ l3, Fits l2 (its (i + 1) ++ l3) ∧ P (i + 1) m2 l3
      | .brk => KF' .next m2 l2
      | .ret v => KF' (.ret v) m2 l2
/-- the same with one item of the iterator's own, laid flat -/
noncomputable abbrev Turn1 (c : C) (env : Env) (tgt : Expr) (body : List Stmt) (it : Addr × It) (P : Nm → Lg → Prop) (KF' : Fl → Nm → Lg → Prop) (m : Nm) (l : Lg) (x : V) : Prop :=
  Asg c tgt env x m (it :: l) fun _ m1 l1 => WF c (execs body env) m1 l1 fun f m2 l2 => match f with
      | .next | .cont => ∃ l3, Fits l2 (it :: l3) ∧ P m2 l3
      | .brk => KF' .next m2 l2
      | .ret v => KF' (.ret v) m2 l2
noncomputable abbrev TurnZ (c : C) (env : Env) (tgt : Expr) (body : List Stmt) (z TI TO i1 i2 a b : Addr) (i : Nat) (P : Nm → Lg → Prop) (KF' : Fl → Nm → Lg → Prop) (m : Nm) (l : Lg) (x : V) (it : Addr × It) : Prop :=
  Asg c tgt env x m (it :: (z, .obj (zipObj TI TO)) :: (TI, .obj (pairObj i1 i2)) :: (TO, .pair) :: (i1, .lit a (i + 1)) :: (i2, .lit b (i + 1)) :: l) fun _ m1 l1 => WF c (execs body env) m1 l1 fun f m2 l2 => match f with
      | .next | .cont => ∃ l3, Fits l2 ((z, .obj (zipObj TI TO)) :: (TI, .obj (pairObj i1 i2)) :: (TO, .pair) :: (i1, .lit a (i + 1)) :: (i2, .lit b (i + 1)) :: l3) ∧ P m2 l3
      | .brk => KF' .next m2 l2
      | .ret v => KF' (.ret v) m2 l2
theorem For_list {t : Str} {tp : Pos} (ok : c.Ok) (hm : (a, It.list xs) ∈ l) (P : Nat → Nm → Lg → Prop) (hn : ∀ i m l, P i m l → (a, It.list xs) ∈ l) (h0 : P 0 m l)
    (turn : ∀ i m l I x, xs[i]? = some x → P i m l → Turn c env (.Name t tp) body (fun i => [(I, .lit a i)]) P KF' i m l x [])
    (done : ∀ m l, P xs.length m l → KF' .next m l) : ForC c env (.Name t tp) body (.ref a) m l KF' := by
  rintro _ s₀ s rfl e r
  obtain ⟨ws, n, g, i⟩ := r.list hm
  refine wpAny_pyIter_list (isList g) ?_
  refine For_core (Iter.list (I := s.heap.objs.size) (a := a) (xs := xs) ok fun _ => rfl) P hn h0 (fun i m l x ex hi hp hI => ?_) done (r.push (it := .lit a 0) rfl ⟨_, Heap.get?_push_size _ rfl, rfl, rfl⟩ rfl) (e.heap _)
  obtain ⟨hx, rfl⟩ := hI
  exact turn i m l _ x hx hp
theorem F_reversed (hm : (a, It.list xs) ∈ l) (h : ∀ D, (∀ p ∈ l, p.1 ≠ D) → K (.ref D) m ((D, .rev a ((xs.length : Int) - 1)) :: l)) : CallA c (.raw (.type "reversed")) [.ref a] m l K := by
  rintro _ _ rfl ⟨_, _, rfl, rfl, rfl⟩ s r
  obtain ⟨ws, n, e, i⟩ := r.list hm
  refine call_reversed_list (isList e) ?_
  have e1 : ((ws.toArray.size : Nat) : Int) - 1 = (xs.length : Int) - 1 := by simp [i.length]
  rw [e1]
  exact ⟨.ref _, m, _, rfl, r.push (it := .rev a ((xs.length : Int) - 1)) rfl ⟨_, Heap.get?_push_size _ rfl, rfl, rfl⟩ rfl, Sm.refl.heap _, h _ fun p hp => Nat.ne_of_lt (r.lt p hp)⟩
theorem For_rev {t : Str} {tp : Pos} (ok : c.Ok) (hd : (I, It.rev a ((xs.length : Int) - 1)) ∈ l) (hp : Pick (I, It.rev a ((xs.length : Int) - 1)) l l') (P : Nat → Nm → Lg → Prop) (hn : ∀ i m l, P i m l → (a, It.list xs) ∈ l) (h0 : P 0 m l')
    (turn : ∀ i m l x, i < xs.length → xs[xs.length - 1 - i]? = some x → P i m l → Turn1 c env (.Name t tp) body (I, .rev a ((xs.length : Int) - 1 - ((i + 1 : Nat) : Int))) (P (i + 1)) KF' m l x)
    (done : ∀ m l, P xs.length m l → KF' .next m l) : ForC c env (.Name t tp) body (.ref I) m l KF' := by
  rintro _ s₀ s rfl e r
  have it := Iter.rev (c := c) (I := I) (a := a) (xs := xs) (tgt := .Name t tp) ok fun _ => rfl
  have r' : R c m ([(I, It.rev a ((xs.length : Int) - 1 - (0 : Nat)))] ++ l') s.heap := by
    have := r.perm (Fits.cons hp Fits.refl)
    rwa [show ((xs.length : Int) - 1 - (0 : Nat)) = (xs.length : Int) - 1 by omega]
  refine it.self m l' s _ (hn _ _ _ h0) r' ?_
  refine For_core it P hn h0 (fun i m l x ex hi hp hI => ?_) done r' e
  obtain ⟨hx, rfl⟩ := hI
  exact turn i m l x hi hx hp
theorem F_range1 {p : Int} (h : ∀ D, (∀ q ∈ l, q.1 ≠ D) → K (.ref D) m ((D, .rngO 0 p 1) :: l)) : CallA c (.raw (.type "range")) [.int p] m l K := by
  rintro _ _ rfl ⟨_, _, rfl, ⟨t, rfl⟩, rfl⟩ s r
  exact call_range_1 ⟨.ref _, m, _, rfl, r.push (it := .rngO 0 p 1) rfl ⟨_, _, _, Heap.get?_push_size _ rfl⟩ rfl, Sm.refl.mk _ _, h _ fun p hp => Nat.ne_of_lt (r.lt p hp)⟩
theorem F_range3 {p q o : Int} (ho : o ≠ 0) (hn : Builtin.divisionGoesByPylong (q - p) o = false) (h : ∀ D, (∀ q ∈ l, q.1 ≠ D) → K (.ref D) m ((D, .rngO p q o) :: l)) : CallA c (.raw (.type "range")) [.int p, .int q, .int o] m l K := by
  rintro _ _ rfl ⟨_, _, rfl, ⟨t, rfl⟩, _, _, rfl, ⟨u, rfl⟩, _, _, rfl, ⟨v, rfl⟩, rfl⟩ s r
  exact call_range_3 ho ⟨.ref _, m, _, rfl, r.push (it := .rngO p q o) rfl ⟨_, _, _, Heap.get?_push_size _ rfl⟩ rfl, Sm.refl.mk _ _, h _ fun p hp => Nat.ne_of_lt (r.lt p hp)⟩ (.inl hn)
theorem For_range {t : Str} {tp : Pos} {p q o : Int} (ok : c.Ok) (hd : (a, It.rngO p q o) ∈ l) (hsm : Builtin.Range.small p q o = true) (hz : Builtin.Range.rangeSize p q o = (n : Nat)) (P : Nat → Nm → Lg → Prop) (h0 : P 0 m l)
    (turn : ∀ i m l I, i < n → P i m l → Turn1 c env (.Name t tp) body (I, .rng (p + ((i + 1 : Nat) : Int) * o) ((n : Int) - ((i + 1 : Nat) : Int)) o) (P (i + 1)) KF' m l (.int (p + (i : Nat) * o)))
    (done : ∀ m l, P n m l → KF' .next m l) : ForC c env (.Name t tp) body (.ref a) m l KF' := by
  rintro _ s₀ s rfl e r
  obtain ⟨t1, u1, v1, hr⟩ := r.at hd
  refine wpAny_pyIter_range hr hsm ?_
  rw [hz]
  have it := Iter.range (c := c) (I := s.heap.objs.size) (p := p) (q := o) (n := n) (tgt := .Name t tp) ok fun _ => rfl
  have r' := r.push (o := { cls := .type "range_iterator", data := .fields #[rawInt p, rawInt (n : Nat), rawInt o] }) (it := .rng (p + ((0 : Nat) : Int) * o) ((n : Int) - ((0 : Nat) : Int)) o) rfl (by
    show Heap.get? _ _ = _
    rw [Heap.get?_push_size _ rfl]; simp) rfl
  refine For_core it P (fun _ _ _ _ => trivial) h0 (fun i m l x ex hi hp hI => ?_) done r' (e.heap _)
  obtain ⟨rfl, rfl⟩ := hI
  exact turn i m l _ hi hp
theorem F_zip (ha : (a, It.list xs) ∈ l) (hb : (b, It.list ys) ∈ l) (h : ∀ z TI TO i1 i2, K (.ref z) m (zipIts z TI TO i1 i2 a b 0 ++ l)) : CallA c (.raw (.type "zip")) [.ref a, .ref b] m l K := by
  rintro _ _ rfl ⟨_, _, rfl, rfl, _, _, rfl, rfl, rfl⟩ s r
  obtain ⟨us, n, e, i⟩ := r.list ha
  obtain ⟨us2, n2, e2, i2⟩ := r.list hb
  refine call_zip_2 (isList e) (isList e2) fun h' g1 g2 g3 g4 g5 g6 k => ⟨.ref _, m, zipIts (s.heap.objs.size + 4) (s.heap.objs.size + 2) (s.heap.objs.size + 3) s.heap.objs.size (s.heap.objs.size + 1) a b 0 ++ l, rfl, ?_, Sm.refl.heap _, h _ _ _ _ _⟩
  obtain ⟨T, t, r0, q⟩ := r
  have rg := r0.grow (h' := h') fun b o e => k b o e
  obtain ⟨m₀, F, _⟩ := r0.nm
  have nw : ∀ {j : Nat} {it : It} {o : Obj} {X : Lg}, R0 c m X h' → (∀ p ∈ X, p.1 ≠ s.heap.objs.size + j) → h'.get? (s.heap.objs.size + j) = some o → it.At h' (s.heap.objs.size + j) → R0 c m ((s.heap.objs.size + j, it) :: X) h' := by
    intro j it o X rX hX ho hi
    refine rX.cons hX ho (fun e => Nat.not_lt.mpr (Nat.le_add_right _ j) (e ▸ F.ns.lt)) ?_ hi
    cases e : c.h₀.get? (s.heap.objs.size + j) with
    | none => rfl
    | some x => exact absurd (Nat.lt_of_lt_of_le (Heap.lt_size (F.keep _ _ e)) (Nat.le_add_right _ j)) (Nat.lt_irrefl _)
  have lt : ∀ j : Nat, ∀ p ∈ l ++ T, p.1 ≠ s.heap.objs.size + j := fun j p hp e => Nat.not_lt.mpr (Nat.le_add_right s.heap.objs.size j) (e ▸ r0.lt p hp)
  obtain ⟨o4, h4, _⟩ := id g4
  obtain ⟨o5, h5, _⟩ := id g5
  have a1 := nw (j := 1) (it := .lit b 0) rg (lt 1) h5 g5
  have a0 := nw (j := 0) (it := .lit a 0) a1 (fun p hp => by
    rcases List.mem_cons.mp hp with rfl | hp
    · exact neA (by decide)
    · exact lt 0 p hp) h4 g4
  have a3 := nw (j := 3) (it := .pair) a0 (fun p hp => by
    rcases List.mem_cons.mp hp with rfl | hp
    · exact neA (by decide)
    rcases List.mem_cons.mp hp with rfl | hp
    · exact neA (by decide)
    · exact lt 3 p hp) g3 ⟨_, _, g3⟩
  have a2 := nw (j := 2) (it := .obj (pairObj s.heap.objs.size (s.heap.objs.size + 1))) a3 (fun p hp => by
    rcases List.mem_cons.mp hp with rfl | hp
    · exact neA (by decide)
    rcases List.mem_cons.mp hp with rfl | hp
    · exact neA (by decide)
    rcases List.mem_cons.mp hp with rfl | hp
    · exact neA (by decide)
    · exact lt 2 p hp) g2 g2
  have a4 := nw (j := 4) (it := .obj (zipObj (s.heap.objs.size + 2) (s.heap.objs.size + 3))) a2 (fun p hp => by
    rcases List.mem_cons.mp hp with rfl | hp
    · exact neA (by decide)
    rcases List.mem_cons.mp hp with rfl | hp
    · exact neA (by decide)
    rcases List.mem_cons.mp hp with rfl | hp
    · exact neA (by decide)
    rcases List.mem_cons.mp hp with rfl | hp
    · exact neA (by decide)
    · exact lt 4 p hp) g1 g1
  exact ⟨T, t, a4, Lk.cons (Lk.cons (Lk.cons (Lk.cons (Lk.cons q rfl) rfl) rfl) rfl) rfl⟩
theorem For_zip {es : List Expr} {k : Nat} {tp : Pos} {z TI TO i1 i2 : Addr} (ok : c.Ok) (P : Nat → Nm → Lg → Prop) (hn : ∀ i m l, P i m l → (a, It.list xs) ∈ l ∧ (b, It.list ys) ∈ l) (h0 : P 0 m l)
    (turn : ∀ i m l T u v, xs[i]? = some u → ys[i]? = some v → P i m l → TurnZ c env (.Tuple es k tp) body z TI TO i1 i2 a b i (P (i + 1)) KF' m l (.ref T) (T, .tup [u, v]))
    (done : ∀ m l, P (min xs.length ys.length) m l → KF' .next m l) : ForC c env (.Tuple es k tp) body (.ref z) m (zipIts z TI TO i1 i2 a b 0 ++ l) KF' := by
  rintro _ s₀ s rfl e r
  have it := Iter.zip (c := c) (z := z) (TI := TI) (TO := TO) (i1 := i1) (i2 := i2) (l1 := a) (l2 := b) (xs := xs) (ys := ys) (es := es) (k := k) (tp := tp) ok
  refine it.self m l s _ (hn _ _ _ h0) r ?_
  refine For_core it P hn h0 (fun i m l x ex hi hp hI => ?_) done r e
  obtain ⟨T, u, v, hu, hv, rfl, rfl⟩ := hI
  exact turn i m l T u v hu hv hp
end
/-! # Bk -/
section
variable {prog : Program} {w : World} {A : Around} {R : Result → Shared → Prop} {s : Shared}
theorem compLoop_all {elt target iter : Expr} {ifs : List Expr} {scope : Scope} {pos : Pos} {it acc : Value} {env : Env} (I : Nat → Shared → Prop)
    (turn : ∀ n s, I n s → wpAny (model prog w) A (pyNext it) (fun r s₁ => match r with
      | none => R (.ok .next) s₁
      | some v => wpAny (model prog w) A (letOwnedTupleGo target it v) (fun _ s₁' => wpAny (model prog w) A (assign target env v) (fun _ s₂ =>
          wpAny (model prog w) A (forIn ifs true fun c r => if r = true then do let ok ← isTrue c env (eval c env); pure (ForInStep.yield ok) else pure (ForInStep.yield r)) (fun ok s₃ =>
            if ok = true then wpAny (model prog w) A (eval elt env) (fun x s₄ =>
              wpAny (model prog w) A (call (.builtin "list.append") [acc, x]) (fun _ s₅ => ∃ m, m < n ∧ I m s₅) FF s₄) FF s₃
            else ∃ m, m < n ∧ I m s₃) FF s₂) FF s₁') FF s₁) FF s)
    (n : Nat) (h : I n s) : codeAny (model prog w) A (.compLoop (.ListComp elt [⟨target, iter, ifs, 0⟩] scope pos) 0 it acc env) R s := by
  refine codeAny_loop rfl I (fun n s hI => ?_) n h
  show wpAny _ A ((compTurn (.ListComp elt [⟨target, iter, ifs, 0⟩] scope pos) 0 it acc env).onRaise (fun x => do noteFrame x env; theTreesLotGoes x)) _ _ s
  refine wpAny_noted ?_
  rw [compTurn_list]
  refine wpAny_bind (wpAny_standAt (wpAny_bind (wpAny_mono (turn n s hI) (fun r s₁ h₁ => ?_) fun _ _ h' => h'.elim)))
  cases r with
  | none => exact wpAny_pure h₁
  | some v =>
    refine wpAny_bind (wpAny_mono h₁ (fun _ s₁' h₁' => ?_) fun _ _ h' => h'.elim)
    refine wpAny_bind (wpAny_mono h₁' (fun _ s₂ h₂ => wpAny_bind (wpAny_mono h₂ (fun ok s₃ h₃ => ?_) fun _ _ h' => h'.elim)) fun _ _ h' => h'.elim)
    cases ok with
    | false => exact wpAny_pure ⟨rfl, h₃⟩
    | true =>
      exact wpAny_bind (wpAny_bind (wpAny_mono h₃ (fun x s₄ h₄ => wpAny_bind (wpAny_mono h₄ (fun _ s₅ h₅ => wpAny_pure (wpAny_pure ⟨rfl, h₅⟩)) fun _ _ h' => h'.elim)) fun _ _ h' => h'.elim))
end
theorem Put.left {α β : Type} {a : α} {b : β} {r r' : List (α × β)} (h : Put a b r r') : ∀ X : List (α × β), Put a b (X ++ r) (X ++ r')
  | [] => h
  | _ :: X => .tail (Put.left h X)
section
variable {c : C} {m m' : Nm} {l l' : Lg} {env : Env} {K : V → Nm → Lg → Prop} {KB : Bool → Nm → Lg → Prop} {KF' : Fl → Nm → Lg → Prop} {KU : Unit → Nm → Lg → Prop} {KL : List V → Nm → Lg → Prop} {pos : Pos} {a b I : Addr} {xs ys : List V} {x : Str} {v : V} {tgt : Expr} {n : Nat}
  {its : Nat → Lg} {need : Lg → Prop} {Itm : Nat → V → Lg → Prop} {elt iter : Expr} {ifs : List Expr} {scope : Scope} {cl : List (Str × Addr)}
noncomputable abbrev Tests (c : C) (ifs : List Expr) (env : Env) (m : Nm) (l : Lg) (K : Bool → Nm → Lg → Prop) : Prop := WB c (forIn ifs true fun c r => if r = true then do let ok ← isTrue c env (eval c env); pure (ForInStep.yield ok) else pure (ForInStep.yield r)) m l K
theorem Te_nil (h : KB true m l) : Tests c [] env m l KB := fun s r => wpAny_tests_nil ⟨true, m, l, rfl, r, Sm.refl, h⟩
theorem Te_one {t : Expr} (h : WB c (PySem.isTrue t env (eval t env)) m l KB) : Tests c [t] env m l KB := fun s r => wpAny_tests_one (h s r)
/-- the names of the target -/
noncomputable def tgtNames : Expr → List Str
  | .Name x _ => [x]
  | .Tuple es _ _ => es.filterMap fun | .Name x _ => some x | _ => none
  | _ => []
/-- one turn of a comprehension: Sn is the namespace behind the target's store -/
structure CompOk (c : C) (tgt elt : Expr) (ifs : List Expr) (n : Nat) (its : Nat → Lg) (need : Lg → Prop) (Itm : Nat → V → Lg → Prop) (m : Nm) (l : Lg) (P : Nat → List V → Prop) (cenv : Env) (D Cc : Addr) : Prop where
  need : ∀ p q, need (p :: q :: l)
  len : ∀ i acc, P i acc → acc.length ≤ 1000
  zero : P 0 []
  turn : ∀ i acc x ex, i < n → P i acc → Itm i x ex → Asg c tgt cenv x m (ex ++ (its (i + 1) ++ ((Cc, .ns ((tgtNames tgt).map fun y : Str => (y, V.any))) :: (D, .list acc) :: l))) fun _ m1 l1 => Tests c ifs cenv m1 l1 fun ok m2 l2 =>
    if ok = true then WV c (eval elt cenv) m2 l2 fun y m3 l3 => m3 = m ∧ P (i + 1) (acc ++ [y]) ∧ ∃ mm3, Fits l3 (its (i + 1) ++ ((Cc, .ns mm3) :: (D, .list acc) :: l))
    else m2 = m ∧ P (i + 1) acc ∧ ∃ mm3, Fits l2 (its (i + 1) ++ ((Cc, .ns mm3) :: (D, .list acc) :: l))
theorem nsAny {h : Heap} {Cc : Addr} {mm : Nm} (x : (It.ns mm).At h Cc) (ks : List Str) : (It.ns (ks.map fun y => (y, V.any))).At h Cc := by
  obtain ⟨m₀, g, _⟩ := x
  refine ⟨m₀, g, ?_⟩
  induction ks with
  | nil => trivial
  | cons k r ih => exact ⟨trivial, ih⟩
theorem R.ns {h : Heap} {Cc : Addr} {mm : Nm} {X : Lg} (r : R c m (X ++ ((Cc, .ns mm) :: l)) h) (ks : List Str) : R c m (X ++ ((Cc, .ns (ks.map fun y => (y, V.any))) :: l)) h := by
  have x := r.at (p := (Cc, .ns mm)) (List.mem_append_right _ (.head _))
  obtain ⟨m₀, g, _⟩ := id x
  obtain ⟨o, es, ep, ho, _⟩ := id g
  exact r.upd (Put.head.left X) ⟨rfl, fun _ _ => rfl⟩ ho (nsAny x ks) rfl
theorem Comp_core {P : Nat → List V → Prop} {cenv : Env} {D Cc : Addr} {mm : Nm} (it : Iter c I tgt n its need Itm) (k : CompOk c tgt elt ifs n its need Itm m l P cenv D Cc) {s₀ s : Shared} {RR : Result → Shared → Prop} (r : R c m (its 0 ++ ((Cc, .ns mm) :: (D, .list []) :: l)) s.heap) (e : Sm s₀ s)
    (hR : ∀ acc mm s', P n acc → R c m ((Cc, .ns mm) :: (D, .list acc) :: l) s'.heap → Sm s₀ s' → RR (.ok .next) s') :
    codeAny (model Pg c.w) c.A (.compLoop (.ListComp elt [⟨tgt, iter, ifs, 0⟩] scope pos) 0 (.ref I) (.ref D) cenv) RR s := by
  refine compLoop_all (fun k s' => ∃ i acc mm, k = n + 1 - i ∧ i ≤ n ∧ R c m (its i ++ ((Cc, .ns mm) :: (D, .list acc) :: l)) s'.heap ∧ Sm s₀ s' ∧ P i acc) ?_ (n + 1) ⟨0, [], mm, rfl, Nat.zero_le _, r, e, k.zero⟩
  rintro j s' ⟨i, acc, mm, rfl, hi, r', e', hp⟩
  by_cases hlt : i < n
  · refine wpAny_mono (it.item i m _ s' _ hlt (k.need _ _) r' fun x v ex s₁ hx hI go => ?_) (fun _ _ x => x) (fun _ _ x => x.elim)
    show wpAny _ _ _ _ _ _
    refine wpAny_mono (go _ fun s₂ e₂ r₂ => ?_) (fun _ _ x => x) (fun _ _ x => x.elim)
    rw [← List.append_assoc] at r₂
    have r₃ := r₂.ns (tgtNames tgt)
    rw [List.append_assoc] at r₃
    refine wpAny_mono (W.use (k.turn i acc x ex hlt hp hI v hx) (e'.trans e₂) r₃ fun _ _ m1 l1 s3 _ r3 e3 k3 => ?_) (fun _ _ x => x) (fun _ _ x => x.elim)
    refine wpAny_mono (W.use k3 e3 r3 fun ok b m2 l2 s4 bx r4 e4 k4 => ?_) (fun _ _ x => x) (fun _ _ x => x.elim)
    subst bx
    cases ok with
    | false =>
      simp only [Bool.false_eq_true, if_false] at k4 ⊢
      obtain ⟨rfl, p4, mm3, f4⟩ := k4
      exact ⟨n + 1 - (i + 1), by omega, i + 1, acc, mm3, rfl, hlt, r4.perm f4, e4, p4⟩
    | true =>
      simp only [if_true] at k4 ⊢
      refine wpAny_mono (W.use k4 e4 r4 fun y w m5 l5 s5 yw r5 e5 k5 => ?_) (fun _ _ x => x) (fun _ _ x => x.elim)
      obtain ⟨rfl, p5, mm3, f5⟩ := k5
      refine wpAny_mono (W.use (F_append (c := c) (a := D) (v := y) (l := its (i + 1) ++ ((Cc, .ns mm3) :: (D, .list acc) :: l)) (l' := its (i + 1) ++ ((Cc, .ns mm3) :: (D, .list (acc ++ [y])) :: l)) (K := fun _ m' l' => m' = m5 ∧ l' = its (i + 1) ++ ((Cc, .ns mm3) :: (D, .list (acc ++ [y])) :: l))
        (List.mem_append_right _ (.tail _ (.head _))) (Put.left (.tail .head) _) (k.len _ _ hp) ⟨rfl, rfl⟩ _ [.ref D, w] rfl (.cons rfl (.cons yw .nil))) e5 (r5.perm f5) fun _ _ m6 l6 s6 _ r6 e6 k6 => ?_) (fun _ _ x => x) (fun _ _ x => x.elim)
      obtain ⟨rfl, rfl⟩ := k6
      exact ⟨n + 1 - (i + 1), by omega, i + 1, acc ++ [y], mm3, rfl, hlt, r6, e6, p5⟩
  · have : i = n := by omega
    subst this
    exact wpAny_mono (it.done m _ s' _ (k.need _ _) r' fun s₁ e₁ r₁ => hR acc mm s₁ hp r₁ (e'.trans e₁)) (fun _ _ x => x) (fun _ _ x => x.elim)
/-- what an iterable gives to a comprehension -/
noncomputable def CompC (c : C) (env : Env) (tgt elt : Expr) (ifs : List Expr) (scope : Scope) (cl : List (Str × Addr)) (x : V) (m : Nm) (l : Lg) (K : Addr → List V → Nm → Lg → Prop) : Prop := ∀ v s₀ s, x.Is v → Sm s₀ s → R c m l s.heap →
  wpAny (model Pg c.w) c.A (pyIter v) (fun iv s₂ => ∃ I n its need Itm P l2, iv = .ref I ∧ Iter c I tgt n its need Itm ∧ R c m (its 0 ++ l2) s₂.heap ∧ Sm s₀ s₂ ∧ (∀ D Cc, CompOk c tgt elt ifs n its need Itm m l2 P (compEnvC scope cl Cc env) D Cc) ∧ ∀ D acc, P n acc → K D acc m l2) FF s
theorem comp_block {I : Addr} {P : Nat → List V → Prop} {s₀ s₂ : Shared} {RR : Value → Addr → Result → Shared → Prop} (hcell : ∀ y ∈ scope.names, y.2 ≠ .cell) (hkind : scope.kind = .function) (it : Iter c I tgt n its need Itm) (r : R c m (its 0 ++ l) s₂.heap) (e : Sm s₀ s₂)
    (k : ∀ D Cc, CompOk c tgt elt ifs n its need Itm m l P (compEnvC scope cl Cc env) D Cc)
    (hR : ∀ D Cc acc mm s', P n acc → R c m ((Cc, .ns mm) :: (D, .list acc) :: l) s'.heap → Sm s₀ s' → RR (.ref D) Cc (.ok .next) s') :
    wpAny (model Pg c.w) c.A (newList []) (fun acc s₃ => wpAny (model Pg c.w) c.A (newFunctionEnv scope env.globals cl [] env.qual none .none (some env)) (fun cenv s₄ =>
      codeAny (model Pg c.w) c.A (.compStart (.ListComp elt [⟨tgt, iter, ifs, 0⟩] scope pos) 0 (.ref I) acc { cenv with scope := relabel scope env }) (RR acc cenv.locals) s₄) FF s₃) FF s₂ := by
  refine wpAny_newObj_type (wpAny_newFunctionEnv hcell (by intro y hy; simp at hy) (fun h₁ hns₁ hsb₁ => ?_) hkind)
  dsimp only at hns₁ hsb₁ ⊢
  have r1 := r.push (o := { cls := .type "list", dict := none, data := .seq ([] : List Value).toArray }) (it := .list []) rfl ⟨[], 0, Heap.get?_push_size _ rfl, rfl⟩ rfl
  generalize hH2 : s₂.heap.push { cls := .type "list", dict := none, data := .seq ([] : List Value).toArray } = H2 at hns₁ hsb₁ r1 ⊢
  have r2 := r1.push (o := { cls := .type "dict", data := .dict #[] }) (it := .obj { cls := .type "dict", data := .dict #[] }) rfl (Heap.get?_push_size _ rfl) rfl
  obtain ⟨o9, _, _, ho9, _⟩ := id hns₁
  have r3 : R c m ((H2.objs.size, .ns []) :: (s₂.heap.objs.size, .list []) :: (its 0 ++ l)) h₁ := R.one (o := o9) r2 (fun b o hb e => hsb₁.extBut b o hb e) ho9 ⟨_, hns₁, trivial⟩ rfl
  have r4 : R c m (its 0 ++ ((H2.objs.size, .ns []) :: (s₂.heap.objs.size, .list []) :: l)) h₁ := r3.perm ⟨[], by
    rw [List.append_nil]
    exact (List.perm_middle.trans ((List.perm_middle).cons _)).symm⟩
  have e1 : ∀ tk, Sm s₀ { s₂ with heap := h₁, toks := tk } := fun tk => e.mk _ _
  have loop : codeAny (model Pg c.w) c.A (.compLoop (.ListComp elt [⟨tgt, iter, ifs, 0⟩] scope pos) 0 (.ref I) (.ref s₂.heap.objs.size) (compEnvC scope cl H2.objs.size env)) (RR (.ref s₂.heap.objs.size) H2.objs.size) { s₂ with heap := h₁, toks := s₂.toks + ([] : List (Str × Value)).length } :=
    Comp_core it (k _ _) r4 (e1 _) fun acc mm s' hp r' e' => hR _ _ acc mm s' hp r' e'
  exact codeAny_compStart_list loop (wpAny_mono (it.self m _ _ (fun iv s' => codeAny (model Pg c.w) c.A (.compLoop (.ListComp elt [⟨tgt, iter, ifs, 0⟩] scope pos) 0 iv (.ref s₂.heap.objs.size) (compEnvC scope cl H2.objs.size env)) (RR (.ref s₂.heap.objs.size) H2.objs.size) s') ((k s₂.heap.objs.size H2.objs.size).need _ _) r4 loop) (fun _ _ x => x) fun _ _ x => x.elim)
theorem W_comp (hclos : closureFor scope env = pure cl) (hcell : ∀ y ∈ scope.names, y.2 ≠ .cell) (hkind : scope.kind = .function) (hnames : ∀ y ∈ scope.names, y.2 = .local → scope.names.lookup y.1 = some .local)
    (h : WV c (eval iter env) m l fun x m1 l1 => CompC c env tgt elt ifs scope cl x m1 l1 fun D acc m2 l2 => K (.ref D) m2 ((D, .list acc) :: l2)) (hs : ∀ x, foldedSetIterable iter env x = pure x := by intro _; rfl) :
    WV c (eval (.ListComp elt [⟨tgt, iter, ifs, 0⟩] scope pos) env) m l K := by
  intro s r
  rw [eval_ListComp]
  refine wpAny_comprehension_free (use := none) rfl hs hclos hkind hnames (h.use Sm.refl r fun x v m1 l1 s1 xv r1 e1 k1 => wpAny_mono (k1 v s s1 xv e1 r1) (fun iv s₂ h₂ => ?_) fun _ _ x => x)
  obtain ⟨I, n, its, need, Itm, P, l2, rfl, it, r2, e2, ck, hK⟩ := h₂
  refine comp_block (RR := fun acc Cc => compPost (model Pg c.w) c.A FF none (fun b s' => ∃ a m' l', V.Is a b ∧ R c m' l' s'.heap ∧ Sm s s' ∧ K a m' l') acc Cc) hcell hkind it r2 e2 ck ?_
  intro D Cc acc mm s' hp r' e'
  obtain ⟨m₀, g, _⟩ := r'.at (p := (Cc, .ns mm)) (.head _)
  exact ⟨m₀, g, fun h' hs' => ⟨.ref D, m1, _, rfl, r'.gone fun b o hb e => hs'.extBut b o hb e, e'.heap _, hK D acc hp⟩⟩
theorem S_AssignComp {y : Str} {py spos : Pos} (hsw : swapsWith (.ListComp elt [⟨tgt, iter, ifs, 0⟩] scope pos) (some (.Name y py)) spos.line env = pure true) (hclos : closureFor scope env = pure cl) (hcell : ∀ y ∈ scope.names, y.2 ≠ .cell) (hkind : scope.kind = .function) (hnames : ∀ y ∈ scope.names, y.2 = .local → scope.names.lookup y.1 = some .local)
    (h : WV c (eval iter env) m l fun x m1 l1 => CompC c env tgt elt ifs scope cl x m1 l1 fun D acc m2 l2 => ∀ Cc mm, StoreN c env y (.ref D) m2 ((Cc, .ns mm) :: (D, .list acc) :: l2) fun _ m3 l3 => ∃ mm3 l4, l3 = (Cc, .ns mm3) :: l4 ∧ KF' .next m3 l4) (hs : ∀ x, foldedSetIterable iter env x = pure x := by intro _; rfl) :
    WF c (exec (.Assign [.Name y py] (.ListComp elt [⟨tgt, iter, ifs, 0⟩] scope pos) spos) env) m l KF' := by
  intro s r
  rw [exec_Assign_Name_used _ _ _ _ hsw]
  refine wpAny_bind (wpAny_standAt (wpAny_bind ?_))
  show wpAny _ c.A (do let _ ← comprehension (.ListComp elt [⟨tgt, iter, ifs, 0⟩] scope pos) scope env _ (newList []) false (eval iter env) (some (assign (.Name y py) env))) _ _ s
  refine wpAny_bind (wpAny_mono (wpAny_comprehension_free (use := some (assign (.Name y py) env)) (Q := fun _ s' => ∃ a m' l', Fl.Is a .next ∧ R c m' l' s'.heap ∧ Sm s s' ∧ KF' a m' l') rfl hs hclos hkind hnames (h.use Sm.refl r fun x v m1 l1 s1 xv r1 e1 k1 => wpAny_mono (k1 v s s1 xv e1 r1) (fun iv s₂ h₂ => ?_) fun _ _ x => x)) (fun _ s' hq => wpAny_pure (wpAny_pure hq)) fun _ _ x => x)
  obtain ⟨I, n, its, need, Itm, P, l2, rfl, it, r2, e2, ck, hK⟩ := h₂
  refine comp_block (RR := fun acc Cc => compPost (model Pg c.w) c.A FF (some (assign (.Name y py) env)) (fun _ s' => ∃ a m' l', Fl.Is a .next ∧ R c m' l' s'.heap ∧ Sm s s' ∧ KF' a m' l') acc Cc) hcell hkind it r2 e2 ck ?_
  intro D Cc acc mm s' hp r' e'
  show wpAny _ c.A (assign (.Name y py) env (.ref D)) _ _ _
  refine wpAny_assign_Name (W.use (hK D acc hp Cc mm (.ref D) rfl) e' r' fun _ _ m3 l3 s3 _ r3 e3 k3 => ?_)
  obtain ⟨mm3, l4, rfl, k4⟩ := k3
  obtain ⟨m₀, g, _⟩ := r3.at (p := (Cc, .ns mm3)) (.head _)
  exact ⟨m₀, g, fun h' hs' => ⟨.next, m3, l4, rfl, r3.gone fun b o hb e => hs'.extBut b o hb e, e3.heap _, k4⟩⟩
end
/-! # Bl -/
section
variable {c : C} {m m' : Nm} {l l' : Lg} {env env' : Env} {K : V → Nm → Lg → Prop} {KB : Bool → Nm → Lg → Prop} {KF' : Fl → Nm → Lg → Prop} {KU : Unit → Nm → Lg → Prop} {KL : List V → Nm → Lg → Prop} {pos tp : Pos} {a b I Cc : Addr} {xs ys : List V} {x t t2 : Str} {u v : V} {tgt : Expr} {n : Nat}
  {its : Nat → Lg} {need : Lg → Prop} {Itm : Nat → V → Lg → Prop} {elt iter : Expr} {ifs : List Expr} {scope : Scope} {cl : List (Str × Addr)} {KC : Addr → List V → Nm → Lg → Prop} {mm mm' : Nm}
theorem N_ns (hk : env.scope.kind = .function) (hx : env.kindOf x = some .local) (hl : env.locals = Cc) (hm : (Cc, It.ns mm) ∈ l) (hu : Put x v mm mm') (nd : (mm.map (·.1)).Nodup) (u : Put Cc (.ns mm') l l') (h : KU () m l') : StoreN c env x v m l KU := by
  intro w hw s r
  obtain ⟨m₀, g, q⟩ := r.at hm
  refine wpAny_storeName_local hx (hl ▸ g) (fun h' hn hs => ?_) (by rw [hk]; rfl)
  rw [hl] at hn hs
  obtain ⟨o, es, ep, ho, _⟩ := id hn
  exact ⟨(), m, l', trivial, r.upd u hs ho ⟨_, hn, q.put hu nd hw⟩ rfl, Sm.refl.mk _ _, h⟩
theorem W_ns (hk : env.scope.kind = .function) (hx : env.kindOf x = some .local) (hl : env.locals = Cc) (hm : (Cc, It.ns mm) ∈ l) (hv : (x, v) ∈ mm) (hkn : v.Known = true) (h : K v m l) (hd : (x == ("__debug__" : Str)) = false := by decide) : WV c (eval (.Name x pos) env) m l K := by
  intro s r
  obtain ⟨m₀, g, q⟩ := r.at hm
  obtain ⟨w, e, i⟩ := (q.get hv).out hkn
  exact wpAny_Name (wpAny_loadName_local hk hx (hl ▸ g) e ⟨v, m, l, i, r, Sm.refl, h⟩) hd
theorem Asg_ns1 {X Y : Lg} (hk : scope.kind = .function) (hx : scope.names.lookup t = some .local) (h : KU () m (X ++ ((Cc, .ns [(t, v)]) :: Y))) : Asg c (.Name t tp) (compEnvC scope cl Cc env) v m (X ++ ((Cc, .ns [(t, .any)]) :: Y)) KU :=
  Asg_name (N_ns hk (lookup_relabel_local hx) rfl (List.mem_append_right _ (.head _)) .head (by simp) (Put.head.left X) h)
theorem Asg_ns2 {X Y : Lg} {k : Nat} {p1 p2 : Pos} {T : Addr} (ok : c.Ok) (hk : scope.kind = .function) (hx : scope.names.lookup t = some .local) (hx2 : scope.names.lookup t2 = some .local) (hne : t ≠ t2) (hT : (T, It.tup [u, v]) ∈ X) (h : KU () m (X ++ ((Cc, .ns [(t, u), (t2, v)]) :: Y))) :
    Asg c (.Tuple [.Name t p1, .Name t2 p2] k tp) (compEnvC scope cl Cc env) (.ref T) m (X ++ ((Cc, .ns [(t, .any), (t2, .any)]) :: Y)) KU :=
  Asg_tup ok (List.mem_append_left _ hT) rfl (AsgT_cons (Asg_name (N_ns (mm' := [(t, u), (t2, .any)]) (l' := X ++ ((Cc, .ns [(t, u), (t2, .any)]) :: Y)) hk (lookup_relabel_local hx) rfl (List.mem_append_right _ (.head _)) .head (by simp [hne]) (Put.head.left X)
    (AsgT_cons (Asg_name (N_ns (mm' := [(t, u), (t2, v)]) (l' := X ++ ((Cc, .ns [(t, u), (t2, v)]) :: Y)) hk (lookup_relabel_local hx2) rfl (List.mem_append_right _ (.head _)) (.tail .head) (by simp [hne]) (Put.head.left X) (AsgT_nil h)))))))
/-- the element's own goal -/
noncomputable abbrev Elt (c : C) (elt : Expr) (ifs : List Expr) (cenv : Env) (its1 : Lg) (i : Nat) (P : Nat → List V → Prop) (acc : List V) (Cc D : Addr) (m : Nm) (l : Lg) (m1 : Nm) (l1 : Lg) : Prop :=
  Tests c ifs cenv m1 l1 fun ok m2 l2 =>
    if ok = true then WV c (eval elt cenv) m2 l2 fun y m3 l3 => m3 = m ∧ P (i + 1) (acc ++ [y]) ∧ ∃ mm3, Fits l3 (its1 ++ ((Cc, .ns mm3) :: (D, .list acc) :: l))
    else m2 = m ∧ P (i + 1) acc ∧ ∃ mm3, Fits l2 (its1 ++ ((Cc, .ns mm3) :: (D, .list acc) :: l))
theorem CompC_list (ok : c.Ok) (hm : (a, It.list xs) ∈ l) (hk : scope.kind = .function) (hx : scope.names.lookup t = some .local) (he : env = env') (P : Nat → List V → Prop) (hlen : ∀ i acc, P i acc → acc.length ≤ 1000) (h0 : P 0 [])
    (turn : ∀ i acc v D Cc I, xs[i]? = some v → P i acc → Elt c elt ifs (compEnvC scope cl Cc env') [(I, .lit a (i + 1))] i P acc Cc D m l m ((I, .lit a (i + 1)) :: (Cc, .ns [(t, v)]) :: (D, .list acc) :: l))
    (done : ∀ D acc, P xs.length acc → KC D acc m l) : CompC c env (.Name t tp) elt ifs scope cl (.ref a) m l KC := by
  subst he
  rintro _ s₀ s rfl e r
  obtain ⟨ws, n, g, i⟩ := r.list hm
  refine wpAny_pyIter_list (isList g) ⟨s.heap.objs.size, xs.length, _, _, _, P, l, rfl, Iter.list (a := a) (xs := xs) ok fun _ => rfl, r.push (it := .lit a 0) rfl ⟨_, Heap.get?_push_size _ rfl, rfl, rfl⟩ rfl, e.heap _, fun D Cc => ⟨fun p q => .tail _ (.tail _ hm), hlen, h0, fun i acc x ex hi hp hI => ?_⟩, done⟩
  obtain ⟨hx', rfl⟩ := hI
  exact Asg_ns1 (X := [(s.heap.objs.size, .lit a (i + 1))]) hk hx (turn i acc x D Cc _ hx' hp)
theorem CompC_range {p q o : Int} (ok : c.Ok) (hd : (a, It.rngO p q o) ∈ l) (hk : scope.kind = .function) (hx : scope.names.lookup t = some .local) (he : env = env') (hsm : Builtin.Range.small p q o = true) (hz : Builtin.Range.rangeSize p q o = (n : Nat)) (P : Nat → List V → Prop) (hlen : ∀ i acc, P i acc → acc.length ≤ 1000) (h0 : P 0 [])
    (turn : ∀ i acc D Cc I, i < n → P i acc → Elt c elt ifs (compEnvC scope cl Cc env') [(I, .rng (p + ((i + 1 : Nat) : Int) * o) ((n : Int) - ((i + 1 : Nat) : Int)) o)] i P acc Cc D m l m ((I, .rng (p + ((i + 1 : Nat) : Int) * o) ((n : Int) - ((i + 1 : Nat) : Int)) o) :: (Cc, .ns [(t, .int (p + (i : Nat) * o))]) :: (D, .list acc) :: l))
    (done : ∀ D acc, P n acc → KC D acc m l) : CompC c env (.Name t tp) elt ifs scope cl (.ref a) m l KC := by
  subst he
  rintro _ s₀ s rfl e r
  obtain ⟨t1, u1, v1, hr⟩ := r.at hd
  refine wpAny_pyIter_range hr hsm ?_
  rw [hz]
  have r' := r.push (o := { cls := .type "range_iterator", data := .fields #[rawInt p, rawInt (n : Nat), rawInt o] }) (it := .rng (p + ((0 : Nat) : Int) * o) ((n : Int) - ((0 : Nat) : Int)) o) rfl (by
    show Heap.get? _ _ = _
    rw [Heap.get?_push_size _ rfl]; simp) rfl
  refine ⟨s.heap.objs.size, n, _, _, _, P, l, rfl, Iter.range (p := p) (q := o) (n := n) ok fun _ => rfl, r', e.heap _, fun D Cc => ⟨fun _ _ => trivial, hlen, h0, fun i acc x ex hi hp hI => ?_⟩, done⟩
  obtain ⟨rfl, rfl⟩ := hI
  exact Asg_ns1 (X := [(s.heap.objs.size, .rng (p + ((i + 1 : Nat) : Int) * o) ((n : Int) - ((i + 1 : Nat) : Int)) o)]) hk hx (turn i acc D Cc _ hi hp)
theorem CompC_zip {z TI TO i1 i2 : Addr} {k : Nat} {p1 p2 : Pos} (ok : c.Ok) (ha : (a, It.list xs) ∈ l) (hb : (b, It.list ys) ∈ l) (hk : scope.kind = .function) (hx : scope.names.lookup t = some .local) (hx2 : scope.names.lookup t2 = some .local) (hne : t ≠ t2) (he : env = env') (P : Nat → List V → Prop) (hlen : ∀ i acc, P i acc → acc.length ≤ 1000) (h0 : P 0 [])
    (turn : ∀ i acc u v T D Cc, xs[i]? = some u → ys[i]? = some v → P i acc → Elt c elt ifs (compEnvC scope cl Cc env') (zipIts z TI TO i1 i2 a b (i + 1)) i P acc Cc D m l m ((T, .tup [u, v]) :: (z, .obj (zipObj TI TO)) :: (TI, .obj (pairObj i1 i2)) :: (TO, .pair) :: (i1, .lit a (i + 1)) :: (i2, .lit b (i + 1)) :: (Cc, .ns [(t, u), (t2, v)]) :: (D, .list acc) :: l))
    (done : ∀ D acc, P (min xs.length ys.length) acc → KC D acc m l) : CompC c env (.Tuple [.Name t p1, .Name t2 p2] k tp) elt ifs scope cl (.ref z) m (zipIts z TI TO i1 i2 a b 0 ++ l) KC := by
  subst he
  rintro _ s₀ s rfl e r
  have it := Iter.zip (c := c) (z := z) (TI := TI) (TO := TO) (i1 := i1) (i2 := i2) (l1 := a) (l2 := b) (xs := xs) (ys := ys) (es := [.Name t p1, .Name t2 p2]) (k := k) (tp := tp) ok
  refine it.self m l s _ ⟨ha, hb⟩ r ⟨z, _, _, _, _, P, l, rfl, it, r, e, fun D Cc => ⟨fun _ _ => ⟨.tail _ (.tail _ ha), .tail _ (.tail _ hb)⟩, hlen, h0, fun i acc x ex hi hp hI => ?_⟩, done⟩
  obtain ⟨T, u, v, hu, hv, rfl, rfl⟩ := hI
  have := Asg_ns2 (c := c) (cl := cl) (env := env) (KU := fun _ m1 l1 => Elt c elt ifs (compEnvC scope cl Cc env) (zipIts z TI TO i1 i2 a b (i + 1)) i P acc Cc D m l m1 l1) (X := (T, .tup [u, v]) :: zipIts z TI TO i1 i2 a b (i + 1)) (Y := (D, .list acc) :: l) (m := m) (p1 := p1) (p2 := p2) (tp := tp) (k := k) (T := T) (u := u) (v := v) (Cc := Cc) ok hk hx hx2 hne (.head _) (turn i acc u v T D Cc hu hv hp)
  exact this
end
/-! # Bm -/
theorem updF_of {a : Addr} {o : Obj} : ∀ {news : List (Addr × Obj)}, (news.map (·.1)).Nodup → (a, o) ∈ news → ∃ g, UpdF a o news g ∧ (∀ o', ∀ p ∈ news, p.1 ≠ a → p ∈ g o') ∧ ∀ o', (a, o') ∈ g o'
  | [], _, hm => nomatch hm
  | p :: news, nd, hm => by
    rw [List.map_cons, List.nodup_cons] at nd
    rcases List.mem_cons.mp hm with rfl | hm
    · refine ⟨_, .head fun p hp x => nd.1 (by have z := List.mem_map_of_mem (f := Prod.fst) hp; rw [x] at z; exact z), fun o' p hp hne => ?_, fun o' => .head _⟩
      rcases List.mem_cons.mp hp with rfl | hp
      · exact absurd rfl hne
      · exact .tail _ hp
    · obtain ⟨g, u, k, z⟩ := updF_of nd.2 hm
      have hp : p.1 ≠ a := fun x => nd.1 (by have z := List.mem_map_of_mem (f := Prod.fst) hm; rw [x]; exact z)
      refine ⟨_, .tail hp u, fun o' q hq hne => ?_, fun o' => .tail _ (z o')⟩
      rcases List.mem_cons.mp hq with rfl | hq
      · exact .head _
      · exact .tail _ (k o' q hq hne)
section
variable {c : C} {m m1 m' : Nm} {l l' : Lg} {env env' : Env} {K : V → Nm → Lg → Prop} {KF' : Fl → Nm → Lg → Prop} {pos : Pos} {a b f : Addr} {args : List V} {name qual cn : Str} {params : Arguments} {body : List Stmt} {scope cs : Scope} {clos cl : List (Str × Addr)} {ns : List Str}
theorem MkFn_core {P cc L a : Addr} {line col fl : Nat} {U TP Z : Lg} {s : Shared} (ok : c.Ok) (C : CodeHd c.h₀ cc P) (he : c.env = envX cn cs L a (.ref cc) cl) (tp : TbAt P line col qual TP) (hl : pos.line = line) (hc : pos.col = col) (hcl : closureFor scope c.env = pure clos)
    (r : R0 c m (l ++ (U ++ TP ++ Z)) s.heap) : wpAny (model Pg c.w) c.A (makeFunction name qual params (.stmts body) scope c.env [] [] [] pos fl)
      (fun v s' => ∃ f c' TP', v = .ref f ∧ TbAt P line col qual TP' ∧ (c', It.code qual) ∈ TP' ∧ (∀ x q, (x, It.code q) ∈ TP → (x, It.code q) ∈ TP') ∧ R0 c m ((f, .fn name qual params body scope clos c') :: (l ++ (U ++ TP' ++ Z))) s'.heap ∧ Sm s s') FF s := by
  obtain ⟨m₀, news, F, q, N, en⟩ := r.via
  have hL : L = c.L := by have := ok.hL; rw [he] at this; exact this
  subst hL hl hc
  have mem : ∀ p ∈ l ++ (U ++ TP ++ Z), ∃ o, (p.1, o) ∈ news ∧ s.heap.get? p.1 = some o := fun p hp => by
    have : p.1 ∈ news.map (·.1) := by rw [en]; exact List.mem_map_of_mem (f := Prod.fst) hp
    obtain ⟨n, hn, e9⟩ := List.mem_map.mp this
    exact ⟨n.2, by rw [← e9]; exact hn, by have := (N n hn).1; rwa [e9] at this⟩
  rcases tp with rfl | ⟨c', rfl⟩
  · have hP : (P, It.obj (tabObj #[])) ∈ l ++ (U ++ [(P, It.obj (tabObj #[]))] ++ Z) := by simp
    obtain ⟨o, hmo, hgo⟩ := mem _ hP
    have ho : o = tabObj #[] := by have : s.heap.get? P = some (tabObj #[]) := (r.lg _ hP).2.2.2; rw [hgo] at this; exact Option.some.inj this
    subst ho
    obtain ⟨g, u, gk, gz⟩ := updF_of (by rw [en]; exact r.nd) hmo
    rw [he] at hcl ⊢
    refine nest_K F N ok.T C rfl u trivial rfl hcl fun f c' oc vs t ctv doc h' tk F' N' hd hv l1 l2 => ?_
    rw [Array.empty_append] at N'
    have lt : ∀ p ∈ l ++ (U ++ [(P, It.obj (tabObj #[]))] ++ Z), p.1 < c' := fun p hp => let ⟨o, h1, _⟩ := mem p hp; l1 _ h1
    have all : ∀ p ∈ l ++ (U ++ [(P, It.obj (tabObj #[]))] ++ Z), p.1 ≠ P → (∃ o, h'.get? p.1 = some o) ∧ p.1 ≠ c.L ∧ c.h₀.get? p.1 = none ∧ p.2.At h' p.1 := fun p hp hne => by
      obtain ⟨o, h1, h2⟩ := mem p hp
      have y := N' (p.1, o) (.tail _ (.tail _ (gk _ _ h1 hne)))
      exact ⟨⟨o, y.1⟩, y.2.1, y.2.2, (r.lg p hp).2.2.2.keep fun o2 e2 => by rw [h2] at e2; cases e2; exact y.1⟩
    have nd := r.nd
    refine ⟨f, c', [(P, .obj (tabObj #[rawInt pos.line, rawInt pos.col, .ref c'])), (c', .code qual)], rfl, .inr ⟨c', rfl⟩, .tail _ (.head _), fun x q hx => by simp at hx, ⟨⟨m₀, F', q⟩, r.ks, fun p hp => ?_, ?_⟩, Sm.refl.mk _ _⟩
    · rcases List.mem_cons.mp hp with rfl | hp
      · have y := N' _ (.head _)
        exact ⟨⟨_, y.1⟩, y.2.1, y.2.2, ⟨_, _, _, y.1⟩⟩
      · have cs : p = (P, .obj (tabObj #[rawInt pos.line, rawInt pos.col, .ref c'])) ∨ p = (c', .code qual) ∨ (p ∈ l ++ (U ++ [(P, It.obj (tabObj #[]))] ++ Z) ∧ p.1 ≠ P) := by
          simp only [List.mem_append, List.mem_cons, List.not_mem_nil, or_false] at hp
          have ne : ∀ {X Y : Lg}, ((X ++ (P, It.obj (tabObj #[])) :: Y).map (·.1)).Nodup → ∀ p, p ∈ X ∨ p ∈ Y → p.1 ≠ P := by
            intro X Y nd p hp e
            rw [List.map_append, List.map_cons] at nd
            have nd' := (List.perm_middle.nodup_iff).mp nd
            rw [List.nodup_cons] at nd'
            have z : p.1 ∈ X.map (·.1) ++ Y.map (·.1) := by
              rcases hp with hp | hp
              · exact List.mem_append_left _ (List.mem_map_of_mem (f := Prod.fst) hp)
              · exact List.mem_append_right _ (List.mem_map_of_mem (f := Prod.fst) hp)
            rw [e] at z
            exact nd'.1 z
          have nd2 : (((l ++ U) ++ (P, It.obj (tabObj #[])) :: Z).map (·.1)).Nodup := by simpa using nd
          rcases hp with hp | (hp | hp | hp) | hp
          · exact .inr (.inr ⟨by simp [hp], ne nd2 p (.inl (List.mem_append_left _ hp))⟩)
          · exact .inr (.inr ⟨by simp [hp], ne nd2 p (.inl (List.mem_append_right _ hp))⟩)
          · exact .inl hp
          · exact .inr (.inl hp)
          · exact .inr (.inr ⟨by simp [hp], ne nd2 p (.inr hp)⟩)
        rcases cs with rfl | rfl | ⟨hp, hne⟩
        · have y := N' _ (.tail _ (.tail _ (gz _)))
          exact ⟨⟨_, y.1⟩, y.2.1, y.2.2, y.1⟩
        · have y := N' _ (.tail _ (.head _))
          exact ⟨⟨_, y.1⟩, y.2.1, y.2.2, ⟨_, _, _, y.1, hd, hv⟩⟩
        · exact all p hp hne
    · have nd2 : (((l ++ U) ++ (P, It.obj (tabObj #[])) :: Z).map (·.1)).Nodup := by simpa using nd
      have pm : (((l ++ (U ++ [(P, It.obj (tabObj #[rawInt pos.line, rawInt pos.col, .ref c'])), (c', .code qual)] ++ Z)).map (·.1))).Perm (c' :: ((l ++ U) ++ (P, It.obj (tabObj #[])) :: Z).map (·.1)) := by
        have : ((l ++ (U ++ [(P, It.obj (tabObj #[rawInt pos.line, rawInt pos.col, .ref c'])), (c', .code qual)] ++ Z)).map (·.1)) = ((l ++ U).map (·.1) ++ [P]) ++ c' :: Z.map (·.1) := by simp
        rw [this]
        refine List.perm_middle.trans (.cons _ (.of_eq ?_))
        simp
      have lt2 : ∀ x ∈ ((l ++ U) ++ (P, It.obj (tabObj #[])) :: Z).map (·.1), x < c' := fun x hx => by
        obtain ⟨p, hp, rfl⟩ := List.mem_map.mp hx
        exact lt p (by simpa using hp)
      rw [List.map_cons, List.nodup_cons]
      refine ⟨fun hx => ?_, (pm.nodup_iff).mpr (List.nodup_cons.mpr ⟨fun hx => Nat.lt_irrefl _ (lt2 _ hx), nd2⟩)⟩
      rcases List.mem_cons.mp (pm.mem_iff.mp hx) with e | hx
      · have e' : f = c' := e; rw [e'] at l2; exact Nat.lt_irrefl _ l2
      · exact Nat.lt_irrefl _ (Nat.lt_trans l2 (lt2 _ hx))
  · have hP : (P, It.obj (tabObj #[rawInt pos.line, rawInt pos.col, .ref c'])) ∈ l ++ (U ++ [(P, It.obj (tabObj #[rawInt pos.line, rawInt pos.col, .ref c'])), (c', .code qual)] ++ Z) := by simp
    obtain ⟨o, hmo, hgo⟩ := mem _ hP
    have ho : o = tabObj #[rawInt pos.line, rawInt pos.col, .ref c'] := by have : s.heap.get? P = some (tabObj #[rawInt pos.line, rawInt pos.col, .ref c']) := (r.lg _ hP).2.2.2; rw [hgo] at this; exact Option.some.inj this
    subst ho
    rw [he] at hcl ⊢
    refine nestHit_K (c' := c') F N ok.T C rfl hmo (by simp [TriplesOk, rawInt]) (by simp [codeAmong, rawInt]) hcl fun f ctv doc h' tk F' N' l1 => ?_
    refine ⟨f, c', _, rfl, .inr ⟨c', rfl⟩, .tail _ (.head _), fun x q hx => hx, r.new N en q F' N' l1 ?_, Sm.refl.mk _ _⟩
    exact ⟨_, _, _, (N' _ (.head _)).1⟩
theorem MkFn {cc P L a fl : Nat} (w2 : (cc = 41 ∧ P = 37 ∧ pos.line = 47 ∧ qual = "_digits2int.<locals>.inner") ∨ (cc = 34 ∧ P = 30 ∧ pos.line = 32 ∧ qual = "_int2digits.<locals>.inner")) (ok : c.Ok) (he : c.env = envX cn cs L a (.ref cc) cl) (hc : pos.col = 4) (hcl : closureFor scope c.env = pure clos)
    (h : ∀ f c', K (.ref f) m ((f, .fn name qual params body scope clos c') :: l)) : WV c (makeFunction name qual params (.stmts body) scope c.env [] [] [] pos fl) m l K := by
  intro s r
  obtain ⟨T, ⟨T1, T2, rfl, t1, t2⟩, r0, k⟩ := r
  rcases w2 with ⟨rfl, rfl, hl, rfl⟩ | ⟨rfl, rfl, hl, rfl⟩
  · refine wpAny_mono (MkFn_core (U := []) (TP := T1) (Z := T2) ok ok.H.1 he t1 hl hc hcl r0) (fun v s' ⟨f, c', TP', hv, t1', hm, hx, r', e'⟩ => ⟨.ref f, m, _, hv, ⟨TP' ++ T2, ⟨TP', T2, rfl, t1', t2⟩, r', fun p hp x q e => ?_⟩, e', h f c'⟩) fun _ _ x => x
    rcases List.mem_cons.mp hp with rfl | hp
    · cases e; exact List.mem_append_left _ hm
    · rcases List.mem_append.mp (k p hp x q e) with z | z
      · exact List.mem_append_left _ (hx _ _ z)
      · exact List.mem_append_right _ z
  · have r1 : R0 c m (l ++ (T1 ++ T2 ++ [])) s.heap := by rw [List.append_nil]; exact r0
    refine wpAny_mono (MkFn_core (U := T1) (TP := T2) (Z := []) ok ok.H.2 he t2 hl hc hcl r1) (fun v s' ⟨f, c', TP', hv, t2', hm, hx, r', e'⟩ => ⟨.ref f, m, _, hv, ⟨T1 ++ TP', ⟨T1, TP', rfl, t1, t2'⟩, by rw [List.append_nil] at r'; exact r', fun p hp x q e => ?_⟩, e', h f c'⟩) fun _ _ x => x
    rcases List.mem_cons.mp hp with rfl | hp
    · cases e; exact List.mem_append_right _ hm
    · rcases List.mem_append.mp (k p hp x q e) with z | z
      · exact List.mem_append_left _ z
      · exact List.mem_append_right _ (hx _ _ z)
theorem S_def {cc P L a : Nat} (w2 : (cc = 41 ∧ P = 37 ∧ pos.line = 47 ∧ qual = "_digits2int.<locals>.inner") ∨ (cc = 34 ∧ P = 30 ∧ pos.line = 32 ∧ qual = "_int2digits.<locals>.inner")) (ok : c.Ok) (he : c.env = envX cn cs L a (.ref cc) cl) (hq : qualnameIn c.env name name = qual) (hc : pos.col = 4) (hcl : closureFor scope c.env = pure clos)
    (hd0 : params.defaults = []) (hk0 : params.kw_defaults = []) (ha : annTrees params none c.env = [])
    (h : ∀ f c', StoreN c c.env name (.ref f) m ((f, .fn name qual params body scope clos c') :: l) fun _ m2 l2 => KF' .next m2 l2) : WF c (exec (.FunctionDef name params body [] none [] scope none name pos) c.env) m l KF' :=
  fun s r => nestDef_K hd0 hk0 ha (by
    rw [hq]
    exact W.use (MkFn (K := fun v m1 l1 => StoreN c c.env name v m1 l1 fun _ m2 l2 => KF' .next m2 l2) w2 ok he hc hcl h) Sm.refl r fun v x m1 l1 s1 vx r1 e1 k1 => W.use (k1 x vx) e1 r1 fun _ _ m2 l2 s2 _ r2 e2 k2 => ⟨.next, m2, l2, rfl, r2, e2, k2⟩)
theorem CW_lfn {e : Expr} {rest : List Expr} {c' : Addr} (h : Args c env pos (e :: rest) m l fun vs m1 l1 => (f, It.fn name qual params body scope clos c') ∈ l1 ∧ CallA c (.ref f) vs m1 l1 K) (hf : (f, It.fn name qual params body scope clos c') ∈ l)
    (he : starEach (e :: rest) env = (false, eval e env) :: starEach rest env := by rfl) (hp : (backTo pos (starEach rest env)).any (·.1) = false := by rfl) : CallW c env pos (.ref f) [] (e :: rest) m l K := by
  rintro _ ys rfl rfl s r
  have fnAt : ∀ {l : Lg} {m : Nm} {s : Shared}, R c m l s.heap → (f, It.fn name qual params body scope clos c') ∈ l → FnAt f s.heap := fun r hm => by
    obtain ⟨d, p, ct, g⟩ := r.at hm
    exact ⟨_, _, _, _, g⟩
  exact callWith_F (fnAt r hf) (h.use Sm.refl r fun a x m1 l1 s1 ax r1 e1 k1 => ⟨fnAt r1 k1.1, W.fin (k1.2 _ x rfl ax) e1 r1⟩) he hp
theorem F_lfn {c' : Addr} (ok : c.Ok) (hn : 1 ≤ c.n) (hf : (f, It.fn name qual params body scope clos c') ∈ l)
    (hb : ∀ ys, VsIs args ys → ∃ binds, (∀ doc pm ct s, BindsTo s (fnX name qual params body scope clos .none .none doc pm none (.ref c') ct) ⟨ys, []⟩ binds) ∧ NmIs m1 (fun y => binds.reverse.lookup y) ∧ (binds.all fun x => decide (scope.names.lookup x.1 = some .local)) = true)
    (hm1 : m1.map (·.1) = ns) (nd : ns.Nodup) (loc : ∀ x ∈ ns, scope.names.lookup x = some .local) (hcell : ∀ x ∈ scope.names, x.2 ≠ .cell) (hco : scope.isCoroutine = false) (hgen : scope.isGenerator = false) (hk : scope.kind = .function)
    (hbody : ∀ c₂ : C, c₂.Ok → c₂.env = envX qual scope c₂.L f (.ref c') clos → c₂.w = c.w → c₂.n = c.n - 1 → c₂.ns = ns → WF c₂ (execs body c₂.env) m1 l (Body c K m)) : CallA c (.ref f) args m l K := by
  rintro _ ys rfl hys s r
  obtain ⟨T, t, r0, k⟩ := id r
  obtain ⟨doc, pm, ct, g⟩ := r.at hf
  obtain ⟨o, vs, tt, g2, hd, hv⟩ := (r0.lg _ (List.mem_append_right _ (k _ hf c' qual rfl))).2.2.2
  obtain ⟨binds, hbi, hnm, hloc⟩ := hb ys hys
  exact F_plain_at ok hn r ⟨_, g, rfl⟩ ⟨c', o, vs, tt, rfl, g2, hd, hv⟩ ⟨binds, hbi doc pm ct s, hnm, locs hloc⟩ hm1 nd loc hcell hco hgen hk hbody
end
/-! # Ea -/
/-! ## a ValueError under way, its context known to be none -/
/-- the exception has its class, a traceback entry whose flight mark is fl, and no context -/
noncomputable def Trc (e : Addr) (fl : Value) (base h : Heap) : Prop := ∃ oe vs T oT ts, h.get? e = some oe ∧ oe.cls = .type "ValueError" ∧ oe.data = .fields vs ∧ vs[1]? = some (.ref T) ∧ vs[2]? = some .none ∧
  base.get? T = none ∧ T ≠ e ∧ h.get? T = some oT ∧ oT.data = .fields ts ∧ ts[3]? = some fl
structure Fly (base : Heap) (l : List Env) (e : Addr) (fl : Value) (h : Heap) : Prop where
  st : base.StaysIn h
  new : base.get? e = none
  fr : h.FunFrames base l
  tr : Trc e fl base h
section
variable {M : Model} {A : Around} {E : Value → Shared → Prop} {s : Shared} {base : Heap} {env : Env} {outer l : List Env} {L e : Addr} {oe : Obj} {vs : Array Value} {head fl : Value} {hadNext : Bool} {Q : Unit → Shared → Prop}
theorem entry2 (hfr : A.frames = some (env :: outer)) (hf : env.frame = some L) (st : base.StaysIn s.heap) (new : base.get? e = none) (fr : s.heap.FunFrames base (env :: outer))
    (he : s.heap.get? e = some oe) (hc : oe.cls = .type "ValueError") (hd : oe.data = .fields vs) (h1 : 1 < vs.size) (h2 : vs[2]? = some .none)
    (h : ∀ h', Fly base (env :: outer) e (rawInt L) h' → s.heap.UpToSlots h' → Q () { s with heap := h' }) :
    wpAny M A (do let a ← frameOf env; let pl ← entryPlaceOf L hadNext; let b ← EntryCells.newEntry head a .none (rawInt L) .none pl; setField (.ref e) 1 b) Q E s := by
  have hen : e ∉ (env :: outer).filterMap (·.frame) := fun hm => by
    obtain ⟨_, o, ho, hnf⟩ := fr.mem hm
    rw [he] at ho; cases ho; exact hnf vs hd
  refine wpAny_bind (wpAny_frameOf_fun hfr fr hf fun g hs => ?_)
  refine wpAny_bind (wpAny_entryPlaceOf fun pl hpl => ?_)
  unfold EntryCells.newEntry newFields
  refine wpAny_bind (wpAny_newObj_type ?_ (hpl.sizeOk5 _ _ _ _ _))
  generalize hts : ([head, .ref L, .none, rawInt L, .none] ++ (if pl.isEmpty then List.replicate 6 Value.none else pl)).toArray = ts
  have h3 : ts[3]? = some (rawInt L) := by subst hts; simp
  have e1 : g.get? e = some oe := (hs.2.1 e hen).trans he
  have ne : g.objs.size ≠ e := Nat.ne_of_gt (Heap.lt_size e1)
  have e2 := Heap.get?_push_of_some (h := g) { cls := .type "traceback", dict := none, data := .fields ts } e1
  have d3 := Obj.data_mapFields hd (·.setIfInBounds 1 (Value.ref g.objs.size))
  have e3 := Heap.get?_update_self (Obj.mapFields (·.setIfInBounds 1 (Value.ref g.objs.size))) e2 (Obj.isFreed_of_fields d3)
  have hT := (Heap.get?_update_other (g.push { cls := .type "traceback", dict := none, data := .fields ts }) (Obj.mapFields (·.setIfInBounds 1 (Value.ref g.objs.size))) (Ne.symm ne)).trans (Heap.get?_push_size g rfl)
  have stay : base.StaysIn g := fun b o hb => (hs.2.1 b fun hm => by rw [(fr.mem hm).1] at hb; cases hb).trans (st b o hb)
  have keep : ∀ b o, b ≠ e → g.get? b = some o → ((g.push { cls := .type "traceback", dict := none, data := .fields ts }).update e (Obj.mapFields (·.setIfInBounds 1 (Value.ref g.objs.size)))).get? b = some o := fun b o hb q => by
    rw [Heap.get?_update_other _ _ (Ne.symm hb)]; exact Heap.get?_push_of_some _ q
  have ap : ∀ b o, s.heap.get? b = some o → (∀ vs, o.data ≠ .fields vs) → b ≠ e := fun b o hb hn q => by
    rw [q, he] at hb; cases hb; exact hn vs hd
  refine wpAny_setField e2 hd h1 (h _ ⟨fun b o hb => keep b o (fun q => by rw [q, new] at hb; cases hb) (stay b o hb), new, fr.of_keeps fun b o hb hn => ?_, ?_⟩ fun b o hb hn => ?_)
  · obtain ⟨sl, q⟩ := hs.2.2 b o hb
    exact ⟨_, keep b _ (ap b o hb hn) q, rfl⟩
  · exact ⟨_, _, g.objs.size, _, ts, e3, (Obj.cls_mapFields _ _).trans hc, d3, by simp [h1], by rw [Array.getElem?_setIfInBounds_ne (by decide)]; exact h2, stay.fresh, ne, hT, rfl, h3⟩
  · obtain ⟨sl, q⟩ := hs.2.2 b o hb
    exact ⟨sl, keep b _ (ap b o hb hn) q⟩
theorem note_first (hfr : A.frames = some (env :: outer)) (hf : env.frame = some L) (st : base.StaysIn s.heap) (new : base.get? e = none) (fr : s.heap.FunFrames base (env :: outer))
    (he : s.heap.get? e = some oe) (hc : oe.cls = .type "ValueError") (hd : oe.data = .fields vs) (h1 : vs[1]? = some .none) (h2 : vs[2]? = some .none)
    (h : ∀ h', Fly base (env :: outer) e (rawInt L) h' → s.heap.UpToSlots h' → Q () { s with heap := h' }) : wpAny M A (noteFrame (.ref e) env) Q E s := by
  unfold noteFrame
  simp only [hf]
  refine wpAny_bind (wpAny_field he hd h1 ?_)
  rw [if_neg (by decide)]
  exact entry2 hfr hf st new fr he hc hd (Array.getElem?_eq_some_iff.mp h1).1 h2 h
theorem note_next (hfr : A.frames = some (env :: outer)) (hf : env.frame = some L) (y : Fly base (env :: outer) e .none s.heap)
    (h : ∀ h', Fly base (env :: outer) e (rawInt L) h' → s.heap.UpToSlots h' → Q () { s with heap := h' }) : wpAny M A (noteFrame (.ref e) env) Q E s := by
  obtain ⟨st, new, fr, oe, vs, T, oT, ts, he, hc, hd, h1, h2, hT0, hTe, hT, hdT, h3⟩ := y
  unfold noteFrame
  simp only [hf]
  refine wpAny_bind (wpAny_field he hd h1 ?_)
  rw [if_pos (show (Value.ref T != Value.none) = true from by simp)]
  refine wpAny_bind (wpAny_field hT hdT h3 ?_)
  rw [if_neg (show ¬ ((Value.none == rawInt L) = true) from by simp [rawInt])]
  refine wpAny_bind (wpAny_setField hT hdT (Array.getElem?_eq_some_iff.mp h3).1 ?_)
  have oth : ∀ b, b ≠ T → (s.heap.update T (Obj.mapFields (·.setIfInBounds 3 Value.none))).get? b = s.heap.get? b := fun b hb => Heap.get?_update_other _ _ (Ne.symm hb)
  have ap : ∀ b o, s.heap.get? b = some o → (∀ vs, o.data ≠ .fields vs) → b ≠ T := fun b o hb hn q => by
    rw [q, hT] at hb; cases hb; exact hn ts hdT
  exact entry2 hfr hf (fun b o hb => (oth b fun q => by rw [q, hT0] at hb; cases hb).trans (st b o hb)) new (fr.of_keeps fun b o hb hn => ⟨o, (oth b (ap b o hb hn)).trans hb, rfl⟩)
    ((oth e (Ne.symm hTe)).trans he) hc hd (Array.getElem?_eq_some_iff.mp h1).1 h2 fun h' y' u => h h' y' fun b o hb hn => u b o ((oth b (ap b o hb hn)).trans hb) hn
theorem flight (y : Fly base l e fl s.heap) (h : ∀ h', Fly base l e .none h' → s.heap.UpToSlots h' → Q () { s with heap := h' }) : wpAny M A (setFlight (.ref e) none) Q E s := by
  obtain ⟨st, new, fr, oe, vs, T, oT, ts, he, hc, hd, h1, h2, hT0, hTe, hT, hdT, h3⟩ := y
  have sz : 3 < ts.size := (Array.getElem?_eq_some_iff.mp h3).1
  have oth : ∀ b, b ≠ T → (s.heap.update T (Obj.mapFields (·.setIfInBounds 3 ((none : Option Addr).elim Value.none fun f => rawInt f)))).get? b = s.heap.get? b := fun b hb => Heap.get?_update_other _ _ (Ne.symm hb)
  have ap : ∀ b o, s.heap.get? b = some o → (∀ vs, o.data ≠ .fields vs) → b ≠ T := fun b o hb hn q => by
    rw [q, hT] at hb; cases hb; exact hn ts hdT
  unfold setFlight
  refine wpAny_bind (wpAny_field he hd h1 ?_)
  rw [if_pos (show (Value.ref T != Value.none) = true from by simp)]
  refine wpAny_setField hT hdT sz (h _ ⟨fun b o hb => (oth b fun q => by rw [q, hT0] at hb; cases hb).trans (st b o hb), new, fr.of_keeps fun b o hb hn => ⟨o, (oth b (ap b o hb hn)).trans hb, rfl⟩, ?_⟩
    fun b o hb hn => ⟨o.slots, (oth b (ap b o hb hn)).trans hb⟩)
  exact ⟨oe, vs, T, _, _, (oth e (Ne.symm hTe)).trans he, hc, hd, h1, h2, hT0, hTe, Heap.get?_update_self _ hT (Obj.isFreed_of_fields (Obj.data_mapFields hdT _)), Obj.data_mapFields hdT _, by simp [sz]⟩
theorem Fly.up {env : Env} {l : List Env} {h : Heap} (y : Fly base (env :: l) e fl h) : Fly base l e fl h := ⟨y.st, y.new, y.fr.2.2, y.tr⟩
end
/-! # Eb -/
/-- a ValueError flies (or lies) in the frame of c; whatever its traceback does, the state's meaning stays -/
noncomputable def Rd (c : C) (m : Nm) (l : Lg) (e : Addr) (fl : Value) (h : Heap) : Prop := ∃ B, Fly B [c.env] e fl h ∧ ∀ h' fl', Fly B [c.env] e fl' h' → h.UpToSlots h' →
  ∃ oe vs, R c m ((e, .obj oe) :: l) h' ∧ oe.cls = .type "ValueError" ∧ oe.data = .fields vs ∧ vs[2]? = some .none
theorem Rd.go {c : C} {m : Nm} {l : Lg} {e : Addr} {fl fl' : Value} {h h' : Heap} {B : Heap} (y : Fly B [c.env] e fl h) (k : ∀ h' fl', Fly B [c.env] e fl' h' → h.UpToSlots h' →
  ∃ oe vs, R c m ((e, .obj oe) :: l) h' ∧ oe.cls = .type "ValueError" ∧ oe.data = .fields vs ∧ vs[2]? = some .none) (y' : Fly B [c.env] e fl' h') (u : h.UpToSlots h') : Rd c m l e fl' h' :=
  ⟨B, y', fun h2 fl2 y2 u2 => k h2 fl2 y2 (u.trans u2)⟩
theorem W.useE {α β : Type} {is : α → β → Prop} {c : C} {t : Sem β} {m : Nm} {l : Lg} {K : α → Nm → Lg → Prop} {s₀ s : Shared} {Q : β → Shared → Prop} {E : Value → Shared → Prop} (h : W is c t m l K) (e : Sm s₀ s) (r : R c m l s.heap)
    (q : ∀ a b m' l' s', is a b → R c m' l' s'.heap → Sm s₀ s' → K a m' l' → Q b s') : wpAny (model Pg c.w) c.A t Q E s :=
  wpAny_mono (h.use e r q) (fun _ _ x => x) fun _ _ x => x.elim
/-- a raise in the own frame of a callee: the exception leaves it, and lies in the caller's frame -/
theorem raised_back {c : C} {g h₂ : Heap} {L' : Addr} {env' : Env} {ns : List Str} {m m2 : Nm} {l2 : Lg} {e : Addr} {args : List Value} {m₀ : Str → Option Value} {E : Value → Shared → Prop} {Q : Unit → Shared → Prop} {s : Shared}
    (ok : c.Ok) (ho : c.outer = []) (ok' : (c.in g L' env' ns).Ok) (FG : Fr c.h₀ c.L g m₀) (q : NmIs m m₀) (ks : m.map (·.1) = c.ns) (r : R (c.in g L' env' ns) m2 l2 h₂) (hx : Heap.MadeExc h₂ s.heap e "ValueError" args)
    (h : ∀ h', Rd c m l2 e .none h' → Q () { s with heap := h' }) : wpAny (model Pg c.w) (c.A.deeper env') (leaving env' (.ref e)) Q E s := by
  obtain ⟨T, t, r0, kk⟩ := r
  obtain ⟨m₂, news, F, _, N, en⟩ := r0.via
  have hL' : env'.frame = some L' := ok'.hf
  have hL : c.env.frame = some c.L := ok.hf
  have nsL : h₂.Ns c.L m₀ := FG.ns.at' fun o => F.keep _ o
  have kg : ∀ b o, c.h₀.get? b = some o → h₂.get? b = some o := fun b o hb => F.keep b o (FG.keep b o hb)
  have gL : ∃ o, g.get? c.L = some o := by obtain ⟨o, _, _, ho, _⟩ := FG.ns; exact ⟨o, ho⟩
  obtain ⟨ob, tp, he, hobc, hobd⟩ := (hx.newExc).there
  have hxk : ∀ b o, h₂.get? b = some o → s.heap.get? b = some o := hx.keeps
  generalize hB : hideAll h₂ [L', c.L] = B
  have hBof : ∀ {b o}, B.get? b = some o → h₂.get? b = some o := fun {b o} hb => by rw [← hB] at hb; exact of_hideAll _ hb
  have hBget : ∀ {b o}, h₂.get? b = some o → b ≠ L' → b ≠ c.L → B.get? b = some o := fun {b o} hb h1 h2 => by rw [← hB]; exact hideAll_get _ hb (by simp [h1, h2])
  have hBL' : B.get? L' = none := by rw [← hB]; exact hideAll_none _ (by simp)
  have hBL : B.get? c.L = none := by rw [← hB]; exact hideAll_none _ (by simp)
  have hBe : B.get? e = none := by
    cases z : B.get? e with
    | none => rfl
    | some o => have := hBof z; rw [hx.new] at this; cases this
  have fr : s.heap.FunFrames B [env', c.env] := by
    refine .cons (by rw [show env'.scope.kind = .function from ok'.hk]; decide) hL' (m := m₂) (F.ns.at' fun o => hxk _ o) hBL' (.cons (by rw [ok.hk]; decide) hL (nsL.at' fun o => hxk _ o) hBL trivial)
  have st : B.StaysIn s.heap := fun b o hb => hxk b o (hBof hb)
  have hfr : (c.A.deeper env').frames = some (env' :: [c.env]) := by rw [← ho]; exact ok'.hA
  unfold leaving
  refine wpAny_bind (note_first hfr hL' st hBe fr he hobc hobd rfl rfl fun h4 y4 u4 => ?_)
  refine flight y4 fun h5 y5 u5 => h h5 ⟨B, y5.up, fun h' fl' y' u' => ?_⟩
  have sm : h₂.UpToSlots h' := ((Heap.UpToSlots.of_keeps hxk).trans u4).trans (u5.trans u')
  have inB : ∀ b o, c.h₀.get? b = some o → B.get? b = some o := fun b o hb => hBget (kg b o hb)
    (fun z => by have := Heap.lt_size (FG.keep b o hb); rw [z] at this; exact Nat.lt_irrefl _ (Nat.lt_of_lt_of_le this F.above))
    (fun z => by have := Heap.lt_size hb; rw [z] at this; exact Nat.lt_irrefl _ (Nat.lt_of_lt_of_le this FG.above))
  have F' : Fr c.h₀ c.L h' m₀ := ⟨sm.ns nsL, fun b o hb => y'.st b o (inB b o hb), FG.above⟩
  have N' : News c.h₀ c.L h' news := fun p hp => by
    obtain ⟨n1, n2, n3⟩ := N p hp
    have a1 : p.1 ≠ c.L := fun z => by obtain ⟨o, z2⟩ := gL; rw [← z] at z2; rw [show (c.in g L' env' ns).h₀ = g from rfl] at n3; rw [n3] at z2; cases z2
    refine ⟨y'.st _ _ (hBget n1 n2 a1), a1, ?_⟩
    cases z : c.h₀.get? p.1 with
    | none => rfl
    | some o => have := FG.keep _ _ z; rw [show (c.in g L' env' ns).h₀ = g from rfl] at n3; rw [n3] at this; cases this
  have rb : R0 c m (l2 ++ T) h' := r0.into N en F' N' q ks
  obtain ⟨_, _, _, oe, vs, _, _, _, hoe, hoc, hod, _, h2, _⟩ := y'
  refine ⟨oe, vs, ⟨T, t, rb.cons (it := .obj oe) (fun p hp z => ?_) hoe (fun z => ?_) ?_ hoe, kk.cons rfl⟩, hoc, hod, h2⟩
  · obtain ⟨o, ho'⟩ := (r0.lg p hp).1
    rw [z, hx.new] at ho'; cases ho'
  · obtain ⟨o, ho'⟩ := gL
    have := F.keep _ _ ho'
    rw [← z, hx.new] at this; cases this
  · cases z : c.h₀.get? e with
    | none => rfl
    | some o => have := kg _ _ z; rw [hx.new] at this; cases this
section
variable {c : C} {m m1 : Nm} {l : Lg} {f : Addr} {args : List V} {name qual : Str} {params : Arguments} {body : List Stmt} {scope : Scope} {dV kV doc pm cdv ct oc : Value} {an od : Option Addr} {osl : Array (Option Value)} {ns : List Str}
/-- a def whose body raises a ValueError -/
theorem F_raise {s : Shared} {ys : List Value} {E : Value → Shared → Prop} {Q : Value → Shared → Prop} (ok : c.Ok) (hout : c.outer = []) (hn : 1 ≤ c.n) (r : R c m l s.heap) (hys : VsIs args ys)
    (ho : (KF c.w).lookup f = some ⟨oc, od, .func (fnX name qual params body scope [] dV kV doc pm an cdv ct), osl⟩) (hcd : codeIn (KF c.w) cdv qual = true)
    (hb : ∀ ys, VsIs args ys → ∃ binds, (∀ S, peek (KF c.w) S (bindArgs (fnX name qual params body scope [] dV kV doc pm an cdv ct) ⟨ys, []⟩) = some binds) ∧ NmIs m1 (fun y => binds.reverse.lookup y) ∧ (binds.all fun x => decide (scope.names.lookup x.1 = some .local)) = true)
    (hm1 : m1.map (·.1) = ns) (nd : ns.Nodup) (loc : ∀ x ∈ ns, scope.names.lookup x = some .local) (hcell : ∀ x ∈ scope.names, x.2 ≠ .cell) (hco : scope.isCoroutine = false) (hgen : scope.isGenerator = false) (hk : scope.kind = .function)
    (hbody : ∀ c' : C, c'.Ok → c'.env = envX qual scope c'.L f cdv [] → c'.w = c.w → c'.ns = ns → ∀ (E' : Value → Shared → Prop) (s1 : Shared), R c' m1 l s1.heap →
      (∀ m2 s2 e h3 as, R c' m2 l s2.heap → Sm s1 s2 → Heap.MadeExc s2.heap h3 e "ValueError" as → E' (.ref e) { s2 with heap := h3 }) → wpAny (model Pg c'.w) c'.A (execs body c'.env) (fun _ _ => False) E' s1)
    (hE : ∀ e s', Sm s s' → Rd c m l e .none s'.heap → E (.ref e) s') : wpAny (model Pg c.w) c.A (call (.ref f) ys) Q E s := by
  obtain ⟨T, t, r0, kk⟩ := id r
  obtain ⟨m₀, news, F, q, N, en⟩ := r0.via
  obtain ⟨binds, h1, h2, h3⟩ := hb ys hys
  refine wpAny_call (callX_plain (cl := []) ok.B F N ok.T.nolimit ok.hA ok.hf ok.hk (ok.X.keeps r.keep _ _ ho) rfl (codeRec_of (ok.X.keeps r.keep) hcd) (by have := ok.hd; omega) (kp_binds (ok.X.keeps r.keep) h1) (locs h3) (fun g L' h₁ FG F' N' B' st lt => ?_) hcell hco hgen hk)
  have ok' : (c.in g L' (envX qual scope L' f cdv []) ns).Ok := ok.in hn B' st rfl rfl rfl rfl hk nd loc
  have r' : R (c.in g L' (envX qual scope L' f cdv []) ns) m1 l h₁ := ⟨T, t, r0.into N en F' N' h2 hm1, kk⟩
  have e0 : Sm s { s with heap := h₁, toks := s.toks + binds.length } := Sm.refl.mk _ _
  refine wpAny_mono (hbody _ ok' rfl rfl rfl (fun e s' => wpAny (model Pg c.w) (c.A.deeper (envX qual scope L' f cdv [])) (leaving (envX qual scope L' f cdv []) e) (fun _ s'' => E e s'') (fun e' s'' => E e' s'') s') _ r' fun m2 s2 e h3 as r2 e2 hx => ?_) (fun _ _ x => x.elim) (fun _ _ x => x)
  exact raised_back ok hout ok' FG q r0.ks r2 hx fun h' y => hE e _ ((e0.trans e2).heap _) y
end
/-! # Ec -/
/-! ## unpacking a tuple while an exception is handled -/
theorem entry_unchain : entryFor table "proto.unchain" = some Builtin.«proto.unchain» := entryFor_of_fast (by kernel_rfl)
section
variable {w : World} {A : Around} {E : Value → Shared → Prop} {s : Shared}
theorem unchain_none {H : Addr} {oH : Obj} {vH : Array Value} {v : Value} {Q : Value → Shared → Prop} (hH : s.heap.get? H = some oH) (hd : oH.data = .fields vH) (h2 : vH[2]? = some .none) (h : Q .none s) :
    wpAny (model Pg w) A (runValue (.builtin "proto.unchain" ⟨[v, .ref H, .ref H, .bool false], []⟩)) Q E s := by
  refine wpAny_runValue (codeAny_builtin entry_unchain ?_)
  unfold Builtin.«proto.unchain»
  dsimp only
  refine wpAny_bind (wpAny_field hH hd h2 ?_)
  rw [if_pos (by decide)]
  first
    | exact wpAny_pure h
    | exact wpAny_bind (wpAny_pure (wpAny_pure h))
theorem raise_over {α : Type} {a H : Addr} {oa oH : Obj} {va vH : Array Value} {Q : α → Shared → Prop} (hh : A.handled = some (.ref H)) (hne : H ≠ a) (ha : s.heap.get? a = some oa) (had : oa.data = .fields va) (hsz : 2 < va.size)
    (hH : s.heap.get? H = some oH) (hd : oH.data = .fields vH) (h2 : vH[2]? = some .none) (h : E (.ref a) { s with heap := s.heap.update a (Obj.mapFields (·.setIfInBounds 2 (.ref H))) }) : wpAny (model Pg w) A (raiseNew (.ref a) : Sem α) Q E s := by
  unfold raiseNew
  refine wpAny_bind (wpAny_handled ?_)
  rw [hh]
  dsimp only
  rw [if_pos (by simp [hne])]
  refine wpAny_bind (wpAny_holding (unchain_none hH hd h2 ?_))
  exact wpAny_bind (wpAny_setField (i := 2) (x := .ref H) ha had hsz (wpAny_throw h))
theorem next_endM {it t H : Addr} {i : Nat} {items : Array Value} {oH : Obj} {vH : Array Value} {Q : Option Value → Shared → Prop} (hh : A.handled = some (.ref H)) (hH : s.heap.get? H = some oH) (hHd : oH.data = .fields vH) (hH2 : vH[2]? = some .none) (hne : H ≠ it)
    (hit : s.heap.IsTupleIter it t i) (ht : s.heap.IsTuple t items) (hx : items[i]? = none) (hQ : ∀ h', Heap.ExtBut it s.heap h' → Q none { s with heap := h' }) : wpAny (model Pg w) A (pyNext (.ref it)) Q E s := by
  obtain ⟨o, ho, hc, hd⟩ := id hit
  obtain ⟨ol, hol, _, nl, hdl⟩ := ht
  unfold pyNext
  refine wpAny_bind (wpAny_attempt (wpAny_callSpecial?_slot (name := Str.ofString "__next__") hit.typeIs F.slot_tuple_iterator_next
    (wpAny_call_entry F.slot_tuple_iterator_next hit.typeIs F.entry_tuple_iterator_next ?_ (F.args_tuple_iterator_next_1 _))))
  show wpAny _ _ (field (.ref it) 0 >>= _) _ _ s
  refine wpAny_bind (wpAny_field ho hd (x := .ref t) rfl ?_)
  show wpAny _ _ (if (Value.ref t == Value.none) = true then _ else _) _ _ s
  rw [if_neg (show ¬ ((Value.ref t == Value.none) = true) from Bool.false_ne_true)]
  show wpAny _ _ (field (.ref it) 1 >>= _) _ _ s
  refine wpAny_bind (wpAny_field ho hd (x := .int i 0) rfl ?_)
  show wpAny _ _ (seqItems? (.ref t) >>= _) _ _ s
  refine wpAny_bind (wpAny_seqItems hol hdl ?_)
  simp only [Int.toNat_natCast, hx]
  refine wpAny_bind (wpAny_rule (wpAny_bind (wpAny_setField ho hd (by simp) ?_)))
  show wpAny _ _ (newExc (.type "StopIteration") [] >>= _) _ _ _
  refine wpAny_bind ?_
  simp only [newExc, newTuple]
  refine wpAny_bind (wpAny_newObj_type ?_ (by size_fits))
  refine wpAny_bind (m := firstArgMember _ _) (wpAny_of_eq (a := Value.none) (by first | rfl | (simp only [firstArgMember]; rfl)) ?_)
  refine wpAny_newObj_type ?_ (by size_fits)
  generalize hg : (s.heap.update it (Obj.mapFields fun x => x.setIfInBounds 0 Value.none)).push { cls := .type "tuple", data := .seq #[] } = g
  have ex : Heap.ExtBut it s.heap g := by rw [← hg]; exact (Heap.SameBut.update ..).extBut.push _
  have hHg : g.get? H = some oH := ex H oH hne hH
  show wpAny (model Pg w) A.in1 (raiseNew (.ref g.objs.size)) _ _ _
  generalize hX : ({ cls := .type "StopIteration", data := .fields (#[Value.ref (s.heap.update it (Obj.mapFields fun x => x.setIfInBounds 0 Value.none)).objs.size, Value.none, Value.none, Value.none, Value.bool false, Value.none] ++ ownMembersOf (.type "StopIteration") []) } : Obj) = X
  have hXc : X.cls = .type "StopIteration" := by rw [← hX]
  obtain ⟨va, hXd, hsz⟩ : ∃ va, X.data = .fields va ∧ 2 < va.size := by rw [← hX]; exact ⟨_, rfl, by simp; omega⟩
  have hXf : X.isFreed = false := by rw [← hX]; rfl
  have ha : (g.push X).get? g.objs.size = some X := Heap.get?_push_size _ hXf
  refine raise_over (a := g.objs.size) (oa := X) (va := va) (H := H) hh (Nat.ne_of_lt (Heap.lt_size hHg)) ha hXd hsz (Heap.get?_push_of_some _ hHg) hHd hH2 ?_
  refine wpAny_bind (wpAny_isInstance (T := "StopIteration") (b := true) ⟨_, Heap.get?_update_self _ ha (Obj.isFreed_of_fields (Obj.data_mapFields hXd _)), (Obj.cls_mapFields ..).trans hXc⟩ isSubtype_stop ?_)
  refine wpAny_pure (hQ _ fun b o hb e => ?_)
  have e1 := ex b o hb e
  show ((g.push X).update g.objs.size _).get? b = some o
  rw [Heap.get?_update_other _ _ (Nat.ne_of_gt (Heap.lt_size e1))]
  exact Heap.get?_push_of_some _ e1
theorem unpackItems_M {t H : Addr} {items : Array Value} {oH : Obj} {vH : Array Value} {Q : List Value → Shared → Prop} (hh : A.handled = some (.ref H)) (hH : s.heap.get? H = some oH) (hHd : oH.data = .fields vH) (hH2 : vH[2]? = some .none) (ht : s.heap.IsTuple t items)
    (hQ : ∀ h', Heap.ExtBut s.heap.objs.size s.heap h' → Q items.toList { s with heap := h' }) : wpAny (model Pg w) A (unpackItems (.ref t) items.size none) Q E s := by
  have hlt : t ≠ s.heap.objs.size := by obtain ⟨o, ho, _⟩ := ht; exact Nat.ne_of_lt (Heap.lt_size ho)
  have hHlt : H ≠ s.heap.objs.size := Nat.ne_of_lt (Heap.lt_size hH)
  unfold unpackItems
  refine wpAny_bind ?_
  unfold notIterableAtAll
  refine wpAny_bind (wpAny_specialOf ht.typeIs F.slot_tuple_iter.lookup ?_)
  refine wpAny_pure ?_
  simp only [Bool.false_eq_true, if_false]
  refine wpAny_bind (wpAny_holding (wpAny_pyIter_tuple ht ?_))
  refine wpAny_bind (wpAny_holding (wpAny_draw_tuple hlt items.size 0 _ _ ⟨_, Heap.get?_push_size _ rfl, rfl, rfl⟩ (ht.push _) (by omega) fun g hit hs => ?_))
  rw [show List.take items.size (List.drop 0 items.toList) = items.toList by rw [List.drop_zero]; exact List.take_of_length_le (by simp)]
  rw [if_neg (by simp)]
  refine wpAny_bind (wpAny_holding (next_endM hh (hs.extBut H oH hHlt (Heap.get?_push_of_some _ hH)) hHd hH2 hHlt hit ((ht.push _).extBut hs.extBut hlt) (by simp) fun g2 he => ?_))
  simp only [Option.isSome_none, Bool.false_eq_true, if_false]
  exact wpAny_pure (hQ g2 fun b o hb e => he b o hb (hs.extBut b o hb (Heap.get?_push_of_some _ e)))
end
/-- the same frame while an exception is handled -/
noncomputable def C.mk' (c : C) (e : Addr) : C := { c with A := c.A.mark (some (.ref e)) }
theorem R.mk' {c : C} {m : Nm} {l : Lg} {h : Heap} {e : Addr} (r : R c m l h) : R (c.mk' e) m l h := let ⟨T, t, r, k⟩ := r; ⟨T, t, ⟨r.nm, r.ks, r.lg, r.nd⟩, k⟩
theorem R.unmk {c : C} {m : Nm} {l : Lg} {h : Heap} {e : Addr} (r : R (c.mk' e) m l h) : R c m l h := let ⟨T, t, r, k⟩ := r; ⟨T, t, ⟨r.nm, r.ks, r.lg, r.nd⟩, k⟩
section
variable {c : C} {m m' : Nm} {l l' : Lg} {e : Addr} {KU : Unit → Nm → Lg → Prop} {KF' : Fl → Nm → Lg → Prop} {x : Str} {v : V}
theorem N_localM (ok : c.Ok) (u : Put x v m m') (h : KU () m' l) : StoreN (c.mk' e) c.env x v m l KU := by
  intro w hw s r
  have r0 := r.unmk
  obtain ⟨m₀, F, q⟩ := r0.nm
  have hl : c.env.kindOf x = some .local := ok.loc x (r0.ks ▸ u.key)
  rw [storeName_local hl ok.kw]
  intro Γ p hΓ
  refine Sem.wp_nsSet _ Γ _ p s (ok.hL ▸ F.ns) x w _ (fun h' hn hs => ⟨(), m', l, trivial, R.mk' ?_, Sm.refl.mk _ _, h⟩)
  rw [ok.hL] at hn hs
  refine r0.set ok.nd u hw (fun m₁ n₁ => ?_) hs
  rwa [show m₁ = m₀ from n₁.eq_nsMap.trans F.ns.eq_nsMap.symm]
theorem Asg_tupM {a : Addr} {oe : Obj} {ve : Array Value} {vs : List V} {es : List Expr} {k : Nat} {tp : Pos} {env : Env} (he0 : (e, It.obj oe) ∈ l) (hed : oe.data = .fields ve) (he2 : ve[2]? = some .none) (ht : (a, It.tup vs) ∈ l) (hn : es.length = vs.length)
    (h : AsgT (c.mk' e) env es vs m l KU) (he : assignEach es env = es.map fun e => (false, assign e env)) : Asg (c.mk' e) (.Tuple es k tp) env (.ref a) m l KU := by
  rintro _ rfl s r
  obtain ⟨ws, e1, i⟩ := (r.lg _ ht).2.2.2
  have hl := i.length
  have hH : s.heap.get? e = some oe := (r.lg _ he0).2.2.2
  rw [assign_Tuple]
  refine wpAny_bind (wpAny_standAt ?_)
  unfold unpack
  rw [he]
  rw [show (List.map (fun e => (false, assign e env)) es).map (·.2) = es.map fun e => assign e env by simp [Function.comp_def],
    show (List.map (fun e => (false, assign e env)) es).findIdx? (·.1) = none by simp, show (List.map (fun e => (false, assign e env)) es).length = ws.toArray.size by simp [hl, hn]]
  refine wpAny_bind (wpAny_holding (unpackItems_M (H := e) (oH := oe) (vH := ve) rfl hH hed he2 e1 fun h' ex => ?_))
  exact W.fin (h ws i) (Sm.refl.heap h') (r.grow fun b o e => ex b o (Nat.ne_of_lt (Heap.lt_size e)) e)
/-- try: .. except ValueError: .. where the body raises -/
theorem S_TryV {body suite : List Stmt} {b₀ : Stmt} {np hp pos : Pos} (ok : c.Ok) (hout : c.outer = []) (hx : c.env.kindOf "ValueError" = some .globalImplicit) (hg : nsIn (KF c.w) mainGlobals "ValueError" = some none)
    (hb : ∀ s, R c m l s.heap → ∀ E : Value → Shared → Prop, (∀ e s', Sm s s' → Rd c m l e .none s'.heap → E (.ref e) s') → wpAny (model Pg c.w) c.A (execs body c.env) (fun _ _ => False) E s)
    (hs : ∀ e oe vs, oe.data = .fields vs → vs[2]? = some .none → WF (c.mk' e) (execs (b₀ :: suite) c.env) m ((e, .obj oe) :: l) KF') :
    WF c (exec (.Try body [.ExceptHandler (some (.Name "ValueError" np)) none (b₀ :: suite) hp] [] [] pos) c.env) m l KF' := by
  intro s r
  refine wpAny_Try_except (wpAny_mono (hb s r _ fun e s' es rd => ?_) (fun _ _ x => x.elim) fun _ _ x => x)
  obtain ⟨B, y, k⟩ := rd
  have hfr : c.A.frames = some (c.env :: []) := by rw [← hout]; exact ok.hA
  refine note_next hfr ok.hf y fun h4 y4 u4 => ?_
  refine flight y4 fun h5 y5 u5 => ?_
  refine wpAny_handleBy_builtin (X := "ValueError") (T := "ValueError") (b := true) PySem.F.isExc_ValueError PySem.F.notTuple_ValueError (by rw [isSubtype_type]; kernel_rfl) ?_
  obtain ⟨oe, vs, r5, oc, od, o2⟩ := k h5 _ y5 (u4.trans u5)
  obtain ⟨m₀, F, q⟩ := r5.nm
  refine Name_function_global ok.hk hx (loadGlobal_builtin (env := c.env) (by rw [ok.hg]; exact ok.T.g.keeps F.keep) (mg_none_of ok.X ok.T.g hg) (by rw [ok.hb]; exact ok.T.b.keeps F.keep) ((ok.T.builtins "ValueError" (by decide)).trans PyProof.Rows.Boot.«ValueError») ⟨rfl, ⟨oe, (r5.lg _ (.head _)).2.2.2, oc⟩, ?_⟩) (by decide)
  refine flight y5 fun h6 y6 u6 => ?_
  obtain ⟨oe6, vs6, r6, oc6, od6, o26⟩ := k h6 _ y6 ((u4.trans u5).trans u6)
  exact wpAny_mono (W.use (hs e oe6 vs6 od6 o26) (Sm.heap (Sm.heap (Sm.heap es h4) h5) h6) r6.mk' fun fl f m' l' s'' i r'' e'' k'' => ⟨fl, m', l', i, r''.unmk, e'', k''⟩) (fun _ _ x => x) fun _ _ x => x.elim
end
/-! # Bg -/
section
variable {c : C} {m m' : Nm} {l l' : Lg} {K : V → Nm → Lg → Prop} {pos : Pos} {x qual : Str} {sc : Scope} {L f : Addr} {cdv : Value} {cl : List (Str × Addr)}
theorem W_bt {v : Value} (ok : c.Ok) (he : c.env = envX qual sc L f cdv cl) (hx : sc.names.lookup x = some .globalImplicit) (e : nsIn (KF c.w) mainGlobals x = some none) (hv : bootBuiltins x = some v) (h : K (.raw v) m l) (hn : x ≠ "__name__") (hd : (x == ("__debug__" : Str)) = false) : WV c (eval (.Name x pos) c.env) m l K :=
  W_boot (a := .raw v) ok e hv hn rfl ok.hg ok.hb ok.hk (by rw [he]; exact hx) h hd
theorem W_gf {a : Addr} (ok : c.Ok) (he : c.env = envX qual sc L f cdv cl) (hx : sc.names.lookup x = some .globalImplicit) (e : nsIn (KF c.w) mainGlobals x = some (some (.ref a))) (h : K (.ref a) m l) (hd : (x == ("__debug__" : Str)) = false) : WV c (eval (.Name x pos) c.env) m l K :=
  W_glob (a := .ref a) ok e rfl ok.hg ok.hk (by rw [he]; exact hx) h hd
theorem W_gi {n : Int} (ok : c.Ok) (he : c.env = envX qual sc L f cdv cl) (hx : sc.names.lookup x = some .globalImplicit) (e : ∃ t, nsIn (KF c.w) mainGlobals x = some (some (.int n t))) (h : K (.int n) m l) (hd : (x == ("__debug__" : Str)) = false) : WV c (eval (.Name x pos) c.env) m l K :=
  let ⟨t, e⟩ := e; W_glob (a := .int n) ok e ⟨t, rfl⟩ ok.hg ok.hk (by rw [he]; exact hx) h hd
theorem W_cellE {v : V} {a : Addr} (ok : c.Ok) (he : c.env = envX qual sc L f cdv cl) (hx : sc.names.lookup x = some .cell ∨ sc.names.lookup x = some .free) (hc : cl.lookup x = some a) (ha : (a, It.cell v) ∈ l) (hv : v.Known = true) (h : K v m l) (hd : (x == ("__debug__" : Str)) = false) (hn : (x == ("__classdict__" : Str)) = false) : WV c (eval (.Name x pos) c.env) m l K :=
  W_cell ok.hk (by rw [he]; exact hx) (by rw [he]; exact hc) ha hv h hd hn
theorem N_cellX {v v₀ : V} {a : Addr} {KU : Unit → Nm → Lg → Prop} (ok : c.Ok) (he : c.env = envX qual sc L f cdv cl) (hx : sc.names.lookup x = some .cell) (hc : cl.lookup x = some a) (ha : (a, It.cell v₀) ∈ l) (u : Put a (.cell v) l l') (h : KU () m l') : StoreN c c.env x v m l KU :=
  N_cell ok (by rw [he]; exact hx) (by rw [he]; exact hc) ha u h
theorem S_ExprE {e : Expr} {KF' : Fl → Nm → Lg → Prop} (ok : c.Ok) (h : WV c (eval e c.env) m l fun v m1 l1 => v.plain = true ∧ KF' .next m1 l1) (hs : swapsWith e none pos.line c.env = pure false) : WF c (exec (.Expr e pos) c.env) m l KF' :=
  S_Expr h (by unfold interactive; rw [ok.hk]; rfl) hs
theorem W.weak {α β : Type} {is : α → β → Prop} {t : Sem β} {K K' : α → Nm → Lg → Prop} (h : W is c t m l K') (q : ∀ a m' l', K' a m' l' → ∃ l2, Fits l' l2 ∧ K a m' l2) : W is c t m l K :=
  fun s r => h.use Sm.refl r fun a b m' l' s' i r' e' k => let ⟨l2, f, k2⟩ := q _ _ _ k; ⟨a, m', l2, i, r'.perm f, e', k2⟩
theorem CallA.weak {fv : V} {vs : List V} {K' : V → Nm → Lg → Prop} (h : CallA c fv vs m l K') (q : ∀ a m' l', K' a m' l' → ∃ l2, Fits l' l2 ∧ K a m' l2) : CallA c fv vs m l K := fun x ys hx hy => W.weak (h x ys hx hy) q
theorem CallA.mono {fv : V} {vs : List V} {K' : V → Nm → Lg → Prop} (h : CallA c fv vs m l K') (q : ∀ a m' l', K' a m' l' → K a m' l') : CallA c fv vs m l K := fun x ys hx hy => W.mono (h x ys hx hy) q
end
theorem g_len (w : World) : nsIn (KF w) mainGlobals "len" = some none := by kernel_rfl
theorem g_sum (w : World) : nsIn (KF w) mainGlobals "sum" = some none := by kernel_rfl
theorem g_zip (w : World) : nsIn (KF w) mainGlobals "zip" = some none := by kernel_rfl
theorem g_list (w : World) : nsIn (KF w) mainGlobals "list" = some none := by kernel_rfl
theorem g_reversed (w : World) : nsIn (KF w) mainGlobals "reversed" = some none := by kernel_rfl
theorem g_range (w : World) : nsIn (KF w) mainGlobals "range" = some none := by kernel_rfl
theorem g_max (w : World) : nsIn (KF w) mainGlobals "max" = some none := by kernel_rfl
theorem g_min (w : World) : nsIn (KF w) mainGlobals "min" = some none := by kernel_rfl
theorem g_int (w : World) : nsIn (KF w) mainGlobals "int" = some none := by kernel_rfl
theorem g_divmod (w : World) : nsIn (KF w) mainGlobals "divmod" = some none := by kernel_rfl
theorem b_len : bootBuiltins "len" = some (.builtin "len") := by boot_fast
theorem b_sum : bootBuiltins "sum" = some (.builtin "sum") := by boot_fast
theorem b_zip : bootBuiltins "zip" = some (.type "zip") := by boot_by_name
theorem b_list : bootBuiltins "list" = some (.type "list") := by boot_by_name
theorem b_reversed : bootBuiltins "reversed" = some (.type "reversed") := by boot_by_name
theorem b_range : bootBuiltins "range" = some (.type "range") := by boot_by_name
theorem b_max : bootBuiltins "max" = some (.builtin "max") := by boot_by_name
theorem b_min : bootBuiltins "min" = some (.builtin "min") := by boot_by_name
theorem b_int : bootBuiltins "int" = some (.type "int") := by boot_by_name
theorem b_divmod : bootBuiltins "divmod" = some (.builtin "divmod") := by boot_by_name
theorem g_div2 (w : World) : nsIn (KF w) mainGlobals "_div2n1n" = some (some (.ref 21)) := by kernel_rfl
theorem g_i2d (w : World) : nsIn (KF w) mainGlobals "_int2digits" = some (some (.ref 35)) := by kernel_rfl
theorem g_d2i (w : World) : nsIn (KF w) mainGlobals "_digits2int" = some (some (.ref 42)) := by kernel_rfl
theorem g_dp (w : World) : nsIn (KF w) mainGlobals "_divmod_pos" = some (some (.ref 49)) := by kernel_rfl
theorem g_dm (w : World) : nsIn (KF w) mainGlobals "int_divmod" = some (some (.ref 56)) := by kernel_rfl
theorem g_bl (w : World) : nsIn (KF w) mainGlobals "bisect_left" = some (some (.ref 74)) := by kernel_rfl
theorem g_br (w : World) : nsIn (KF w) mainGlobals "bisect_right" = some (some (.ref 65)) := by kernel_rfl
theorem g_ter (w : World) : nsIn (KF w) mainGlobals "ISTERMINAL" = some (some (.ref 84)) := by kernel_rfl
theorem g_non (w : World) : nsIn (KF w) mainGlobals "ISNONTERMINAL" = some (some (.ref 91)) := by kernel_rfl
theorem g_eof (w : World) : nsIn (KF w) mainGlobals "ISEOF" = some (some (.ref 98)) := by kernel_rfl
theorem g_tab (w : World) : nsIn (KF w) mainGlobals "EXACT_TOKEN_TYPES" = some (some (.ref 75)) := by kernel_rfl
theorem g_dl (w : World) : ∃ t, nsIn (KF w) mainGlobals "_DIV_LIMIT" = some (some (.int 4000 t)) := ⟨_, rfl⟩
theorem g_nt (w : World) : ∃ t, nsIn (KF w) mainGlobals "NT_OFFSET" = some (some (.int 256 t)) := ⟨_, rfl⟩
theorem g_em (w : World) : ∃ t, nsIn (KF w) mainGlobals "ENDMARKER" = some (some (.int 0 t)) := ⟨_, rfl⟩
theorem k_fn (w : World) : keepIn (KF w) (.ref 21) = true ∧ keepIn (KF w) (.ref 35) = true ∧ keepIn (KF w) (.ref 42) = true ∧ keepIn (KF w) (.ref 49) = true ∧ keepIn (KF w) (.ref 56) = true ∧ keepIn (KF w) (.ref 74) = true ∧ keepIn (KF w) (.ref 65) = true ∧ keepIn (KF w) (.ref 84) = true ∧ keepIn (KF w) (.ref 91) = true ∧ keepIn (KF w) (.ref 98) = true := by
  refine ⟨?_, ?_, ?_, ?_, ?_, ?_, ?_, ?_, ?_, ?_⟩ <;> kernel_rfl
theorem CW_defW {c : C} {m : Nm} {l : Lg} {env : Env} {pos : Pos} {K : V → Nm → Lg → Prop} {f : Addr} {e : Expr} {rest : List Expr} (ok : c.Ok) (hk : ∀ w, keepIn (KF w) (.ref f) = true) (h : Args c env pos (e :: rest) m l fun vs m1 l1 => CallA c (.ref f) vs m1 l1 K)
    (he : starEach (e :: rest) env = (false, eval e env) :: starEach rest env) (hp : (backTo pos (starEach rest env)).any (·.1) = false) : CallW c env pos (.ref f) [] (e :: rest) m l K := CW_def ok (hk _) h he hp
section
variable {c : C} {m : Nm} {l : Lg} {env : Env} {pos : Pos} {K : V → Nm → Lg → Prop} {a : Addr} {vs : List V} {args : List Expr}
theorem M_append (hm : (a, It.list vs) ∈ l) (h : CallW c env pos (.raw (.builtin "list.append")) [.ref a] args m l K) : Meth c env pos (Str.ofString "append") (.ref a) args m l K := M_list PySem.F.slot_list_append PySem.F.type_list_append hm h
theorem M_pop (hm : (a, It.list vs) ∈ l) (h : CallW c env pos (.raw (.builtin "list.pop")) [.ref a] args m l K) : Meth c env pos (Str.ofString "pop") (.ref a) args m l K := M_list PySem.F.slot_list_pop PySem.F.type_list_pop hm h
theorem M_reverse (hm : (a, It.list vs) ∈ l) (h : CallW c env pos (.raw (.builtin "list.reverse")) [.ref a] args m l K) : Meth c env pos (Str.ofString "reverse") (.ref a) args m l K := M_list PySem.F.slot_list_reverse PySem.F.type_list_reverse hm h
end
section
variable {c : C} {m : Nm} {l : Lg} {env : Env} {pos p : Pos} {K : V → Nm → Lg → Prop} {KP : Option Int → Nm → Lg → Prop} {x : Str} {a : Addr} {vs : List V} {o : Expr} {lo hi : Option Expr}
theorem W_btG {v : Value} (ok : c.Ok) (hg : env.globals = mainGlobals) (hb : env.builtins = builtinsNs) (hk : env.scope.kind = .function) (hx : env.kindOf x = some .globalImplicit) (e : nsIn (KF c.w) mainGlobals x = some none) (hv : bootBuiltins x = some v) (h : K (.raw v) m l) (hn : x ≠ "__name__") (hd : (x == ("__debug__" : Str)) = false) : WV c (eval (.Name x pos) env) m l K :=
  W_boot (a := .raw v) ok e hv hn rfl hg hb hk hx h hd
theorem W_gfG {a : Addr} (ok : c.Ok) (hg : env.globals = mainGlobals) (hk : env.scope.kind = .function) (hx : env.kindOf x = some .globalImplicit) (e : nsIn (KF c.w) mainGlobals x = some (some (.ref a))) (h : K (.ref a) m l) (hd : (x == ("__debug__" : Str)) = false) : WV c (eval (.Name x pos) env) m l K :=
  W_glob (a := .ref a) ok e rfl hg hk hx h hd
theorem W_giG {n : Int} (ok : c.Ok) (hg : env.globals = mainGlobals) (hk : env.scope.kind = .function) (hx : env.kindOf x = some .globalImplicit) (e : ∃ t, nsIn (KF c.w) mainGlobals x = some (some (.int n t))) (h : K (.int n) m l) (hd : (x == ("__debug__" : Str)) = false) : WV c (eval (.Name x pos) env) m l K :=
  let ⟨t, e⟩ := e; W_glob (a := .int n) ok e ⟨t, rfl⟩ hg hk hx h hd
noncomputable def PInt (v : V) (f : Int → Prop) : Prop := ∃ k, v = .int k ∧ f k
theorem PInt_mk {k : Int} {f : Int → Prop} (h : f k) : PInt (.int k) f := ⟨k, rfl, h⟩
theorem Part_none (h : KP none m l) : Part c env none m l KP := h
theorem Part_some {e : Expr} (h : WV c (eval e env) m l fun v m1 l1 => PInt v fun k => KP (some k) m1 l1) : Part c env (some e) m l KP := h
noncomputable def Cut (c : C) (x : V) (u v : Option Int) (m : Nm) (l : Lg) (K : V → Nm → Lg → Prop) : Prop := ∃ a vs, x = .ref a ∧ vs.length ≤ 1000 ∧ IsNow c m l a vs ∧ ∀ D, (∀ y ∈ l, y.1 ≠ D) → K (.ref D) m ((D, .list (cutV vs u v)) :: l)
theorem Cut_led {u v : Option Int} (hm : (a, It.list vs) ∈ l) (hz : vs.length ≤ 1000) (h : ∀ D, (∀ y ∈ l, y.1 ≠ D) → K (.ref D) m ((D, .list (cutV vs u v)) :: l)) : Cut c (.ref a) u v m l K := ⟨a, vs, rfl, hz, IsNow.led hm, h⟩
theorem Cut_old {u v : Option Int} {ws : List Value} (hl : c.h₀.IsList a ws.toArray) (i : VsIs vs ws) (hz : vs.length ≤ 1000) (h : ∀ D, (∀ y ∈ l, y.1 ≠ D) → K (.ref D) m ((D, .list (cutV vs u v)) :: l)) : Cut c (.ref a) u v m l K := ⟨a, vs, rfl, hz, IsNow.old hl i, h⟩
theorem W_cut (h : WV c (eval o env) m l fun x m1 l1 => Part c env lo m1 l1 fun u m2 l2 => Part c env hi m2 l2 fun v m3 l3 => Cut c x u v m3 l3 K) : WV c (eval (.Subscript o (.Slice lo hi none p) pos) env) m l K := W_Slice h
theorem cutV_map {α β : Type} (f : α → β) (xs : List α) (u v : Option Int) : cutV (xs.map f) u v = (cutV xs u v).map f := by simp [cutV, List.map_drop, List.map_take]
theorem cutV_from {α : Type} (xs : List α) {k : Int} (h0 : 0 ≤ k) (h1 : k ≤ xs.length) : cutV xs (some k) none = xs.drop k.toNat := by
  unfold cutV kms_lo kms_hi
  dsimp only
  rw [if_neg (by omega), Nat.min_eq_left (by omega), List.take_of_length_le (by simp)]
theorem cutV_upto {α : Type} (xs : List α) {k : Int} (h0 : 0 ≤ k) : cutV xs none (some k) = xs.take k.toNat := by
  unfold cutV kms_lo kms_hi
  simp only [List.drop_zero, Nat.sub_zero]
  rw [if_neg (by omega)]
  rcases Nat.le_total k.toNat xs.length with h | h
  · rw [Nat.min_eq_left h]
  · rw [Nat.min_eq_right h, List.take_of_length_le (Nat.le_refl _), List.take_of_length_le h]
theorem cutV_last2 {α : Type} (xs : List α) : cutV xs (some (-2)) none = xs.drop (xs.length - 2) := by
  unfold cutV kms_lo kms_hi
  dsimp only
  rw [if_pos (by decide), List.take_of_length_le (by simp)]; rfl
end
section
variable {c : C} {m m' : Nm} {l l' : Lg} {env' : Env} {K : V → Nm → Lg → Prop} {KF' : Fl → Nm → Lg → Prop} {pos : Pos} {tgt elt iter : Expr} {ifs : List Expr} {scope : Scope} {cl : List (Str × Addr)} {x : Str} {a : Addr}
theorem W_compE (he : c.env = env') (hclos : closureFor scope env' = pure cl) (hcell : ∀ y ∈ scope.names, y.2 ≠ .cell) (hkind : scope.kind = .function) (hnames : ∀ y ∈ scope.names, y.2 = .local → scope.names.lookup y.1 = some .local)
    (h : WV c (eval iter c.env) m l fun x m1 l1 => CompC c c.env tgt elt ifs scope cl x m1 l1 fun D acc m2 l2 => K (.ref D) m2 ((D, .list acc) :: l2)) (hs : ∀ x, foldedSetIterable iter c.env x = pure x) :
    WV c (eval (.ListComp elt [⟨tgt, iter, ifs, 0⟩] scope pos) c.env) m l K := W_comp (by rw [he]; exact hclos) hcell hkind hnames h hs
theorem S_AssignCompL {y : Str} {py spos : Pos} (ok : c.Ok) (he : c.env = env') (hsw : swapsWith (.ListComp elt [⟨tgt, iter, ifs, 0⟩] scope pos) (some (.Name y py)) spos.line env' = pure true) (hclos : closureFor scope env' = pure cl) (hcell : ∀ y ∈ scope.names, y.2 ≠ .cell) (hkind : scope.kind = .function) (hnames : ∀ y ∈ scope.names, y.2 = .local → scope.names.lookup y.1 = some .local)
    (h : WV c (eval iter c.env) m l fun x m1 l1 => CompC c c.env tgt elt ifs scope cl x m1 l1 fun D acc m2 l2 => ∃ m3, Put y (.ref D) m2 m3 ∧ KF' .next m3 ((D, .list acc) :: l2)) (hs : ∀ x, foldedSetIterable iter c.env x = pure x) :
    WF c (exec (.Assign [.Name y py] (.ListComp elt [⟨tgt, iter, ifs, 0⟩] scope pos) spos) c.env) m l KF' :=
  S_AssignComp (by rw [he]; exact hsw) (by rw [he]; exact hclos) hcell hkind hnames (W.mono h fun x m1 l1 k v s₀ s xv e r => wpAny_mono (k v s₀ s xv e r) (fun iv s₂ ⟨I, n, its, need, Itm, P, l2, h1, h2, h3, h4, h5, h6⟩ => ⟨I, n, its, need, Itm, P, l2, h1, h2, h3, h4, h5, fun D acc hp Cc mm => let ⟨m3, hu, hk⟩ := h6 D acc hp; N_local ok hu ⟨mm, _, rfl, hk⟩⟩) fun _ _ x => x) hs
theorem S_AssignCompC {y : Str} {py spos : Pos} {v₀ : V} (ok : c.Ok) (he : c.env = env') (hy : env'.kindOf y = some .cell) (hya : env'.cells.lookup y = some a) (hsw : swapsWith (.ListComp elt [⟨tgt, iter, ifs, 0⟩] scope pos) (some (.Name y py)) spos.line env' = pure true) (hclos : closureFor scope env' = pure cl) (hcell : ∀ y ∈ scope.names, y.2 ≠ .cell) (hkind : scope.kind = .function) (hnames : ∀ y ∈ scope.names, y.2 = .local → scope.names.lookup y.1 = some .local)
    (h : WV c (eval iter c.env) m l fun x m1 l1 => CompC c c.env tgt elt ifs scope cl x m1 l1 fun D acc m2 l2 => (a, It.cell v₀) ∈ l2 ∧ ∃ l3, Put a (.cell (.ref D)) l2 l3 ∧ KF' .next m2 ((D, .list acc) :: l3)) (hs : ∀ x, foldedSetIterable iter c.env x = pure x) :
    WF c (exec (.Assign [.Name y py] (.ListComp elt [⟨tgt, iter, ifs, 0⟩] scope pos) spos) c.env) m l KF' :=
  S_AssignComp (by rw [he]; exact hsw) (by rw [he]; exact hclos) hcell hkind hnames (W.mono h fun x m1 l1 k v s₀ s xv e r => wpAny_mono (k v s₀ s xv e r) (fun iv s₂ ⟨I, n, its, need, Itm, P, l2, h1, h2, h3, h4, h5, h6⟩ => ⟨I, n, its, need, Itm, P, l2, h1, h2, h3, h4, h5, fun D acc hp Cc mm => let ⟨hm, l3, hu, hk⟩ := h6 D acc hp; N_cell ok (by rw [he]; exact hy) (by rw [he]; exact hya) (.tail _ (.tail _ hm)) (.tail (.tail hu)) ⟨mm, _, rfl, hk⟩⟩) fun _ _ x => x) hs
end
theorem W_nsC {c : C} {m : Nm} {l : Lg} {env : Env} {pos : Pos} {K : V → Nm → Lg → Prop} {x : Str} {Cc : Addr} {mm : Nm} {v : V} {scope : Scope} {cl : List (Str × Addr)} (hk : scope.kind = .function) (hx : scope.names.lookup x = some .local) (hm : (Cc, It.ns mm) ∈ l) (hv : (x, v) ∈ mm) (hkn : v.Known = true) (h : K v m l) (hd : (x == ("__debug__" : Str)) = false) : WV c (eval (.Name x pos) (compEnvC scope cl Cc env)) m l K :=
  W_ns hk (lookup_relabel_local hx) rfl hm hv hkn h hd
/-! # Bg2 -/
structure GF (w : World) (x : Str) (a : Addr) : Prop where
  h : nsIn (KF w) mainGlobals x = some (some (.ref a))
structure GI (w : World) (x : Str) (n : Int) : Prop where
  h : ∃ t, nsIn (KF w) mainGlobals x = some (some (.int n t))
structure GB (w : World) (x : Str) (v : Value) : Prop where
  h : nsIn (KF w) mainGlobals x = some none
  b : bootBuiltins x = some v
structure KN (f : Addr) : Prop where
  h : ∀ w, keepIn (KF w) (.ref f) = true
theorem n_len (w : World) : GB w "len" (.builtin "len") := ⟨g_len w, b_len⟩
theorem n_sum (w : World) : GB w "sum" (.builtin "sum") := ⟨g_sum w, b_sum⟩
theorem n_zip (w : World) : GB w "zip" (.type "zip") := ⟨g_zip w, b_zip⟩
theorem n_list (w : World) : GB w "list" (.type "list") := ⟨g_list w, b_list⟩
theorem n_reversed (w : World) : GB w "reversed" (.type "reversed") := ⟨g_reversed w, b_reversed⟩
theorem n_range (w : World) : GB w "range" (.type "range") := ⟨g_range w, b_range⟩
theorem n_max (w : World) : GB w "max" (.builtin "max") := ⟨g_max w, b_max⟩
theorem n_min (w : World) : GB w "min" (.builtin "min") := ⟨g_min w, b_min⟩
theorem n_int (w : World) : GB w "int" (.type "int") := ⟨g_int w, b_int⟩
theorem n_divmod (w : World) : GB w "divmod" (.builtin "divmod") := ⟨g_divmod w, b_divmod⟩
theorem n_div2 (w : World) : GF w "_div2n1n" 21 := ⟨g_div2 w⟩
theorem n_i2d (w : World) : GF w "_int2digits" 35 := ⟨g_i2d w⟩
theorem n_d2i (w : World) : GF w "_digits2int" 42 := ⟨g_d2i w⟩
theorem n_dp (w : World) : GF w "_divmod_pos" 49 := ⟨g_dp w⟩
theorem n_dm (w : World) : GF w "int_divmod" 56 := ⟨g_dm w⟩
theorem n_bl (w : World) : GF w "bisect_left" 74 := ⟨g_bl w⟩
theorem n_br (w : World) : GF w "bisect_right" 65 := ⟨g_br w⟩
theorem n_ter (w : World) : GF w "ISTERMINAL" 84 := ⟨g_ter w⟩
theorem n_non (w : World) : GF w "ISNONTERMINAL" 91 := ⟨g_non w⟩
theorem n_eof (w : World) : GF w "ISEOF" 98 := ⟨g_eof w⟩
theorem n_tab (w : World) : GF w "EXACT_TOKEN_TYPES" 75 := ⟨g_tab w⟩
theorem n_dl (w : World) : GI w "_DIV_LIMIT" 4000 := ⟨g_dl w⟩
theorem n_nt (w : World) : GI w "NT_OFFSET" 256 := ⟨g_nt w⟩
theorem n_em (w : World) : GI w "ENDMARKER" 0 := ⟨g_em w⟩
theorem kn_21 : KN 21 := ⟨fun w => (k_fn w).1⟩
theorem kn_35 : KN 35 := ⟨fun w => (k_fn w).2.1⟩
theorem kn_42 : KN 42 := ⟨fun w => (k_fn w).2.2.1⟩
theorem kn_49 : KN 49 := ⟨fun w => (k_fn w).2.2.2.1⟩
theorem kn_56 : KN 56 := ⟨fun w => (k_fn w).2.2.2.2.1⟩
theorem kn_74 : KN 74 := ⟨fun w => (k_fn w).2.2.2.2.2.1⟩
theorem kn_65 : KN 65 := ⟨fun w => (k_fn w).2.2.2.2.2.2.1⟩
theorem kn_84 : KN 84 := ⟨fun w => (k_fn w).2.2.2.2.2.2.2.1⟩
theorem kn_91 : KN 91 := ⟨fun w => (k_fn w).2.2.2.2.2.2.2.2.1⟩
theorem kn_98 : KN 98 := ⟨fun w => (k_fn w).2.2.2.2.2.2.2.2.2⟩
section
variable {c : C} {m m' : Nm} {l l' : Lg} {K : V → Nm → Lg → Prop} {pos : Pos} {x qual : Str} {sc : Scope} {L f : Addr} {cdv : Value} {cl : List (Str × Addr)} {env : Env}
theorem W_btN {v : Value} (ok : c.Ok) (he : c.env = envX qual sc L f cdv cl) (hx : sc.names.lookup x = some .globalImplicit) (e : GB c.w x v) (h : K (.raw v) m l) (hn : x ≠ "__name__") (hd : (x == ("__debug__" : Str)) = false) : WV c (eval (.Name x pos) c.env) m l K := W_bt ok he hx e.h e.b h hn hd
theorem W_gfN {a : Addr} (ok : c.Ok) (he : c.env = envX qual sc L f cdv cl) (hx : sc.names.lookup x = some .globalImplicit) (e : GF c.w x a) (h : K (.ref a) m l) (hd : (x == ("__debug__" : Str)) = false) : WV c (eval (.Name x pos) c.env) m l K := W_gf ok he hx e.h h hd
theorem W_giN {n : Int} (ok : c.Ok) (he : c.env = envX qual sc L f cdv cl) (hx : sc.names.lookup x = some .globalImplicit) (e : GI c.w x n) (h : K (.int n) m l) (hd : (x == ("__debug__" : Str)) = false) : WV c (eval (.Name x pos) c.env) m l K := W_gi ok he hx e.h h hd
theorem W_btGN {v : Value} (ok : c.Ok) (hg : env.globals = mainGlobals) (hb : env.builtins = builtinsNs) (hk : env.scope.kind = .function) (hx : env.kindOf x = some .globalImplicit) (e : GB c.w x v) (h : K (.raw v) m l) (hn : x ≠ "__name__") (hd : (x == ("__debug__" : Str)) = false) : WV c (eval (.Name x pos) env) m l K := W_btG ok hg hb hk hx e.h e.b h hn hd
theorem W_gfGN {a : Addr} (ok : c.Ok) (hg : env.globals = mainGlobals) (hk : env.scope.kind = .function) (hx : env.kindOf x = some .globalImplicit) (e : GF c.w x a) (h : K (.ref a) m l) (hd : (x == ("__debug__" : Str)) = false) : WV c (eval (.Name x pos) env) m l K := W_gfG ok hg hk hx e.h h hd
theorem W_giGN {n : Int} (ok : c.Ok) (hg : env.globals = mainGlobals) (hk : env.scope.kind = .function) (hx : env.kindOf x = some .globalImplicit) (e : GI c.w x n) (h : K (.int n) m l) (hd : (x == ("__debug__" : Str)) = false) : WV c (eval (.Name x pos) env) m l K := W_giG ok hg hk hx e.h h hd
theorem CW_defN {env : Env} {e : Expr} {rest : List Expr} (ok : c.Ok) (hk : KN f) (h : Args c env pos (e :: rest) m l fun vs m1 l1 => CallA c (.ref f) vs m1 l1 K)
    (he : starEach (e :: rest) env = (false, eval e env) :: starEach rest env) (hp : (backTo pos (starEach rest env)).any (·.1) = false) : CallW c env pos (.ref f) [] (e :: rest) m l K := CW_def ok (hk.h _) h he hp
end
local macro_rules | `(tactic| walk_at "mem") => `(tactic| (with_reducible (repeat (first | exact List.mem_cons_self | refine List.mem_cons_of_mem _ ?_))))
local macro_rules | `(tactic| walk_at "put") => `(tactic| (with_reducible (repeat (first | exact Put.head | apply Put.tail))))
local macro_rules | `(tactic| walk_at "pick") => `(tactic| (with_reducible (repeat (first | exact Pick.head | apply Pick.tail))))
local macro_rules | `(tactic| walk_at "fits") => `(tactic| (with_reducible (repeat (first | exact Fits.refl | ((refine' Fits.cons ?pk ?_); (case pk => (with_reducible (repeat (first | exact Pick.head | apply Pick.tail))))) | exact Fits.nil | refine Fits.drop ?_))))
local macro_rules | `(tactic| walk_at "st2") => `(tactic| first | (((with_reducible refine' N_local ?ok ?hu ?_); (case ok => assumption); (case hu => (with_reducible (repeat (first | exact Put.head | apply Put.tail)))))) | (((with_reducible refine' N_cellX ?ok ?he ?hx ?hc ?ha ?hu ?_); (case ok => assumption); (case he => assumption); (case hx => exact rfl); (case hc => exact rfl); (case ha => (with_reducible (repeat (first | exact List.mem_cons_self | refine List.mem_cons_of_mem _ ?_)))); (case hu => (with_reducible (repeat (first | exact Put.head | apply Put.tail)))))) | with_reducible refine S_nil ?_)
local macro_rules | `(tactic| walk_at "w0") => `(tactic| with_reducible refine S_nil ?_)
local macro_rules | `(tactic| walk_at "w2") => `(tactic| first | with_reducible refine Asg_name ?_ | with_reducible refine AsgT_cons ?_ | with_reducible refine AsgT_nil ?_ | ((with_reducible refine' Asg_tup ?ok ?ht ?hn ?_ ?he); (case ok => assumption); (case ht => (with_reducible (repeat (first | exact List.mem_cons_self | refine List.mem_cons_of_mem _ ?_)))); (case hn => exact rfl); (case he => exact rfl)) | (((with_reducible refine' N_local ?ok ?hu ?_); (case ok => assumption); (case hu => (with_reducible (repeat (first | exact Put.head | apply Put.tail)))))) | (((with_reducible refine' N_cellX ?ok ?he ?hx ?hc ?ha ?hu ?_); (case ok => assumption); (case he => assumption); (case hx => exact rfl); (case hc => exact rfl); (case ha => (with_reducible (repeat (first | exact List.mem_cons_self | refine List.mem_cons_of_mem _ ?_)))); (case hu => (with_reducible (repeat (first | exact Put.head | apply Put.tail)))))) | with_reducible refine S_nil ?_)
local macro_rules | `(tactic| walk_at "w") => `(tactic| first | with_reducible refine S_cons ?_ | with_reducible refine S_nil ?_ | with_reducible refine S_If ?_ | ((with_reducible refine S_Assign ?_ ?hs); (case hs => exact rfl)) | with_reducible refine S_Return ?_ | ((with_reducible refine T_Compare ?_ ?hs); (case hs => exact rfl)) | with_reducible refine W_int ?_ | with_reducible refine W_none ?_ | with_reducible refine W_BinOp ?_ | ((with_reducible refine W_Compare ?_ ?hs); (case hs => exact rfl)) | with_reducible refine W_cut ?_ | with_reducible refine W_Subscript ?_ | with_reducible refine W_UnaryOp ?_ | with_reducible refine B_add ?_ | with_reducible refine B_sub ?_ | ((with_reducible refine B_mod ?_ ?hb); (case hb => decide)) | with_reducible refine C_lt ?_ | with_reducible refine C_le ?_ | with_reducible refine C_ge ?_ | with_reducible refine C_gt ?_ | with_reducible refine C_eq ?_ | with_reducible refine C_is_int_none ?_ | with_reducible refine C_is_none_none ?_ | with_reducible refine Tru_bool ?_ | with_reducible refine U_neg ?_ | with_reducible refine U_inv ?_ | with_reducible refine S_Return0 ?_ | with_reducible refine A_nil ?_ | ((with_reducible refine W_Call ?_ ?he); (case he => exact rfl)) | ((with_reducible refine' W_Method ?_ ?he); (case he => exact rfl)) | with_reducible refine M_bits ?_ | with_reducible refine F_bits ?_ | ((with_reducible refine' M_append ?hm ?_); (case hm => (with_reducible (repeat (first | exact List.mem_cons_self | refine List.mem_cons_of_mem _ ?_))))) | ((with_reducible refine' M_pop ?hm ?_); (case hm => (with_reducible (repeat (first | exact List.mem_cons_self | refine List.mem_cons_of_mem _ ?_))))) | ((with_reducible refine' M_reverse ?hm ?_); (case hm => (with_reducible (repeat (first | exact List.mem_cons_self | refine List.mem_cons_of_mem _ ?_))))) | ((with_reducible refine A_cons ?_ ?hs); (case hs => exact rfl)) | ((with_reducible refine B_div ?_ ?hb ?hn); (case hb => decide); (case hn => exact noPy (by decide))) | with_reducible refine ifT rfl ?_ | with_reducible refine ifF rfl ?_ | ((with_reducible refine S_For ?_ ?hs); (case hs => exact fun _ => rfl)) | ((with_reducible refine S_ExprE ?ok ?_ ?hs); (case ok => assumption); (case hs => exact rfl)) | ((with_reducible refine S_AssignTup ?_ ?h1 ?h2); (case h1 => exact rfl); (case h2 => exact rfl)) | ((with_reducible refine S_AssignSub ?_ ?hs); (case hs => exact rfl)) | with_reducible refine W_IfExp ?_ | with_reducible refine T_not ?_ | with_reducible refine T_and_nil ?_ | with_reducible refine T_or_nil ?_ | with_reducible refine T_or ?_ | with_reducible refine T_and ?_ | with_reducible refine C_is_bool ?_ | with_reducible refine W_bool ?_ | with_reducible refine U_not ?_ | with_reducible refine S_Continue ?_ | ((with_reducible refine T_plain ?_ ?ha); (case ha => exact rfl)) | with_reducible refine Tru_int ?_ | with_reducible refine W_list ?_ | ((with_reducible refine' W_compE ?he ?h1 ?h2 ?h3 ?h4 ?_ ?h5); (case he => assumption); (case h1 => exact rfl); (case h2 => decide); (case h3 => exact rfl); (case h4 => decide); (case h5 => exact fun _ => rfl)) | ((with_reducible refine' S_AssignCompL ?ok ?he ?hs ?h1 ?h2 ?h3 ?h4 ?_ ?h5); (case ok => assumption); (case he => assumption); (case hs => exact rfl); (case h1 => exact rfl); (case h2 => decide); (case h3 => exact rfl); (case h4 => decide); (case h5 => exact fun _ => rfl)) | with_reducible refine Part_none ?_ | with_reducible refine Part_some ?_ | with_reducible refine PInt_mk ?_ | with_reducible refine W_str ?_ | with_reducible refine Te_nil ?_ | with_reducible refine Te_one ?_ | with_reducible refine W_tuple ?_ | with_reducible refine W_and ?_ | with_reducible refine W_or ?_ | with_reducible refine W_one ?_ | with_reducible refine Asg_name ?_ | with_reducible refine AsgT_cons ?_ | with_reducible refine AsgT_nil ?_ | ((with_reducible refine' And.intro ?hm ?_); (case hm => (with_reducible (repeat (first | exact List.mem_cons_self | refine List.mem_cons_of_mem _ ?_))))) | ((with_reducible refine' Asg_tup ?ok ?ht ?hn ?_ ?he); (case ok => assumption); (case ht => (with_reducible (repeat (first | exact List.mem_cons_self | refine List.mem_cons_of_mem _ ?_)))); (case hn => exact rfl); (case he => exact rfl)) | (((with_reducible refine' W_name ?ok ?hx ?hv ?_ ?hd); (case ok => assumption); (case hx => (with_reducible (repeat (first | exact List.mem_cons_self | refine List.mem_cons_of_mem _ ?_)))); (case hv => exact rfl); (case hd => decide))) | (((with_reducible refine' N_local ?ok ?hu ?_); (case ok => assumption); (case hu => (with_reducible (repeat (first | exact Put.head | apply Put.tail)))))) | (((with_reducible refine' W_cellE ?ok ?he ?hx ?hc ?ha ?hv ?_ ?hd ?hn); (case ok => assumption); (case he => assumption); (case hx => first | exact .inl rfl | exact .inr rfl); (case hc => exact rfl); (case ha => (with_reducible (repeat (first | exact List.mem_cons_self | refine List.mem_cons_of_mem _ ?_)))); (case hv => exact rfl); (case hd => decide); (case hn => decide))) | (((with_reducible refine' N_cellX ?ok ?he ?hx ?hc ?ha ?hu ?_); (case ok => assumption); (case he => assumption); (case hx => exact rfl); (case hc => exact rfl); (case ha => (with_reducible (repeat (first | exact List.mem_cons_self | refine List.mem_cons_of_mem _ ?_)))); (case hu => (with_reducible (repeat (first | exact Put.head | apply Put.tail)))))) | ((first | ((with_reducible refine' CW_defN ?ok kn_21 ?_ ?he ?hp); (case ok => assumption); (case he => exact rfl); (case hp => exact rfl)) | ((with_reducible refine' CW_defN ?ok kn_35 ?_ ?he ?hp); (case ok => assumption); (case he => exact rfl); (case hp => exact rfl)) | ((with_reducible refine' CW_defN ?ok kn_42 ?_ ?he ?hp); (case ok => assumption); (case he => exact rfl); (case hp => exact rfl)) | ((with_reducible refine' CW_defN ?ok kn_49 ?_ ?he ?hp); (case ok => assumption); (case he => exact rfl); (case hp => exact rfl)) | ((with_reducible refine' CW_defN ?ok kn_56 ?_ ?he ?hp); (case ok => assumption); (case he => exact rfl); (case hp => exact rfl)) | ((with_reducible refine' CW_defN ?ok kn_74 ?_ ?he ?hp); (case ok => assumption); (case he => exact rfl); (case hp => exact rfl)) | ((with_reducible refine' CW_defN ?ok kn_65 ?_ ?he ?hp); (case ok => assumption); (case he => exact rfl); (case hp => exact rfl)) | ((with_reducible refine' CW_defN ?ok kn_84 ?_ ?he ?hp); (case ok => assumption); (case he => exact rfl); (case hp => exact rfl)) | ((with_reducible refine' CW_defN ?ok kn_91 ?_ ?he ?hp); (case ok => assumption); (case he => exact rfl); (case hp => exact rfl)) | ((with_reducible refine' CW_defN ?ok kn_98 ?_ ?he ?hp); (case ok => assumption); (case he => exact rfl); (case hp => exact rfl)) | ((with_reducible refine' CW_lfn ?_ ?hf ?he ?hp); (case hf => (with_reducible (repeat (first | exact List.mem_cons_self | refine List.mem_cons_of_mem _ ?_)))); (case he => exact rfl); (case hp => exact rfl)) | ((with_reducible refine' CW_builtin ?_ ?he ?hp); (case he => exact rfl); (case hp => exact rfl)) | with_reducible refine' CW_builtin0 ?_ | ((with_reducible refine' CW_type ?_ ?he ?hp); (case he => exact rfl); (case hp => exact rfl)))) | ((first | with_reducible refine' W_btN ?ok ?he ?hx (n_len _) ?_ ?hn ?hd | with_reducible refine' W_btN ?ok ?he ?hx (n_sum _) ?_ ?hn ?hd | with_reducible refine' W_btN ?ok ?he ?hx (n_zip _) ?_ ?hn ?hd | with_reducible refine' W_btN ?ok ?he ?hx (n_list _) ?_ ?hn ?hd | with_reducible refine' W_btN ?ok ?he ?hx (n_reversed _) ?_ ?hn ?hd | with_reducible refine' W_btN ?ok ?he ?hx (n_range _) ?_ ?hn ?hd | with_reducible refine' W_btN ?ok ?he ?hx (n_max _) ?_ ?hn ?hd | with_reducible refine' W_btN ?ok ?he ?hx (n_min _) ?_ ?hn ?hd | with_reducible refine' W_btN ?ok ?he ?hx (n_int _) ?_ ?hn ?hd | with_reducible refine' W_btN ?ok ?he ?hx (n_divmod _) ?_ ?hn ?hd); (case ok => assumption); (case he => assumption); (case hx => exact rfl); (case hn => decide); (case hd => decide)) | ((first | with_reducible refine' W_gfN ?ok ?he ?hx (n_div2 _) ?_ ?hd | with_reducible refine' W_gfN ?ok ?he ?hx (n_i2d _) ?_ ?hd | with_reducible refine' W_gfN ?ok ?he ?hx (n_d2i _) ?_ ?hd | with_reducible refine' W_gfN ?ok ?he ?hx (n_dp _) ?_ ?hd | with_reducible refine' W_gfN ?ok ?he ?hx (n_dm _) ?_ ?hd | with_reducible refine' W_gfN ?ok ?he ?hx (n_bl _) ?_ ?hd | with_reducible refine' W_gfN ?ok ?he ?hx (n_br _) ?_ ?hd | with_reducible refine' W_gfN ?ok ?he ?hx (n_ter _) ?_ ?hd | with_reducible refine' W_gfN ?ok ?he ?hx (n_non _) ?_ ?hd | with_reducible refine' W_gfN ?ok ?he ?hx (n_eof _) ?_ ?hd | with_reducible refine' W_gfN ?ok ?he ?hx (n_tab _) ?_ ?hd | with_reducible refine' W_giN ?ok ?he ?hx (n_dl _) ?_ ?hd | with_reducible refine' W_giN ?ok ?he ?hx (n_nt _) ?_ ?hd | with_reducible refine' W_giN ?ok ?he ?hx (n_em _) ?_ ?hd); (case ok => assumption); (case he => assumption); (case hx => exact rfl); (case hd => decide)) | ((first | ((with_reducible refine' W_nsC ?hk ?hx ?hm ?hv ?hkn ?_ ?hd); (case hk => exact rfl); (case hx => exact rfl); (case hm => (with_reducible (repeat (first | exact List.mem_cons_self | refine List.mem_cons_of_mem _ ?_)))); (case hv => (with_reducible (repeat (first | exact List.mem_cons_self | refine List.mem_cons_of_mem _ ?_)))); (case hkn => exact rfl); (case hd => decide)) | ((with_reducible refine' W_cell ?hk ?hx ?hc ?ha ?hv ?_ ?hd ?hn); (case hk => exact rfl); (case hx => first | exact .inl rfl | exact .inr rfl); (case hc => exact rfl); (case ha => (with_reducible (repeat (first | exact List.mem_cons_self | refine List.mem_cons_of_mem _ ?_)))); (case hv => exact rfl); (case hd => decide); (case hn => decide)) | ((with_reducible refine' W_btGN ?ok ?hg ?hb ?hk ?hx (n_len _) ?_ ?hn ?hd); (case ok => assumption); (case hg => exact rfl); (case hb => exact rfl); (case hk => exact rfl); (case hx => exact rfl); (case hn => decide); (case hd => decide)) | ((with_reducible refine' W_btGN ?ok ?hg ?hb ?hk ?hx (n_max _) ?_ ?hn ?hd); (case ok => assumption); (case hg => exact rfl); (case hb => exact rfl); (case hk => exact rfl); (case hx => exact rfl); (case hn => decide); (case hd => decide)) | ((with_reducible refine' W_btGN ?ok ?hg ?hb ?hk ?hx (n_min _) ?_ ?hn ?hd); (case ok => assumption); (case hg => exact rfl); (case hb => exact rfl); (case hk => exact rfl); (case hx => exact rfl); (case hn => decide); (case hd => decide)) | ((with_reducible refine' W_btGN ?ok ?hg ?hb ?hk ?hx (n_int _) ?_ ?hn ?hd); (case ok => assumption); (case hg => exact rfl); (case hb => exact rfl); (case hk => exact rfl); (case hx => exact rfl); (case hn => decide); (case hd => decide)) | ((with_reducible refine' W_gfGN ?ok ?hg ?hk ?hx (n_tab _) ?_ ?hd); (case ok => assumption); (case hg => exact rfl); (case hk => exact rfl); (case hx => exact rfl); (case hd => decide)) | ((with_reducible refine' W_gfGN ?ok ?hg ?hk ?hx (n_bl _) ?_ ?hd); (case ok => assumption); (case hg => exact rfl); (case hk => exact rfl); (case hx => exact rfl); (case hd => decide)) | ((with_reducible refine' W_gfGN ?ok ?hg ?hk ?hx (n_br _) ?_ ?hd); (case ok => assumption); (case hg => exact rfl); (case hk => exact rfl); (case hx => exact rfl); (case hd => decide)) | ((with_reducible refine' W_giGN ?ok ?hg ?hk ?hx (n_nt _) ?_ ?hd); (case ok => assumption); (case hg => exact rfl); (case hk => exact rfl); (case hx => exact rfl); (case hd => decide)))))
/-! # Bf -/
theorem F_lenI {c : C} {m : Nm} {l : Lg} {K : V → Nm → Lg → Prop} {a : Addr} {xs : List Int} (hm : (a, It.list (nums xs)) ∈ l) (hz : xs.length ≤ 100000) (h : K (.int xs.length) m l) : CallA c (.raw (.builtin "len")) [.ref a] m l K :=
  F_len hm (by simpa [nums] using hz) (by simpa [nums] using h)
theorem bl_int {c : C} {m : Nm} {l : Lg} {K : V → Nm → Lg → Prop} {a : Addr} {xs : List Int} {x lo hi : Int} (ok : c.Ok) (hn : 1 ≤ c.n) (hm : (a, It.list (nums xs)) ∈ l) (h0 : 0 ≤ lo) (h1 : lo ≤ hi) (h2 : hi ≤ xs.length) (h3 : xs.length ≤ 1000)
    (hs : ∀ i j : Nat, i ≤ j → j < xs.length → xs.getD i 0 ≤ xs.getD j 0)
    (h : ∀ r : Int, lo ≤ r → r ≤ hi → (∀ i : Nat, lo ≤ i → i < r → xs.getD i 0 < x) → (∀ i : Nat, r ≤ i → i < hi → x ≤ xs.getD i 0) → K (.int r) m l) : CallA c (.ref 74) [.ref a, .int x, .int lo, .int hi] m l K := by
  refine F_K (m1 := [("a", .ref a), ("x", .int x), ("lo", .int lo), ("hi", .int hi), ("key", .none), ("mid", .any)]) (ns := ["a", "x", "lo", "hi", "key", "mid"]) ok hn (f := 74) rfl rfl ?_ rfl (by decide) (by decide) (by decide) rfl rfl rfl ?_
  · rintro _ ⟨y1, _, rfl, i1, y2, _, rfl, i2, y3, _, rfl, i3, y4, _, rfl, i4, rfl⟩
    refine ⟨_, fun _ => rfl, ⟨⟨_, rfl, i1⟩, ⟨_, rfl, i2⟩, ⟨_, rfl, i3⟩, ⟨_, rfl, i4⟩, ⟨_, rfl, rfl⟩, trivial, trivial⟩, rfl⟩
  intro c' ok' he hw hcn hns
  clear ok hn hw hcn hns
  repeat walk_at "w"
  refine ifF (decide_eq_false (by omega)) ?_
  repeat walk_at "w"
  refine S_While (fun n m l' => l' = l ∧ ∃ lo' hi' mid', m = ([("a", .ref a), ("x", .int x), ("lo", .int lo'), ("hi", .int hi'), ("key", .none), ("mid", mid')] : Nm) ∧ lo ≤ lo' ∧ lo' ≤ hi' ∧ hi' ≤ hi ∧ n = (hi' - lo').toNat ∧
    (∀ i : Nat, lo ≤ i → i < lo' → xs.getD i 0 < x) ∧ (∀ i : Nat, hi' ≤ i → i < hi → x ≤ xs.getD i 0)) (n := (hi - lo).toNat) ⟨rfl, lo, hi, .any, rfl, by omega, by omega, by omega, rfl, fun i h1 h2 => by omega, fun i h1 h2 => by omega⟩ ?_
  rintro n m l' ⟨rfl, lo', hi', mid', rfl, g1, g2, g3, rfl, g4, g5⟩
  repeat walk_at "w"
  refine ifD (fun q => ?_) (fun q => ?_)
  · repeat walk_at "w"
    have hd1 : (lo' + hi').fdiv 2 = (lo' + hi') / 2 := Int.fdiv_eq_ediv_of_nonneg _ (by omega)
    have hd2 : lo' ≤ (lo' + hi').fdiv 2 ∧ (lo' + hi').fdiv 2 < hi' := by omega
    generalize (lo' + hi').fdiv 2 = mid at hd2 ⊢
    repeat walk_at "w"
    refine Sub_ints hm (by omega) (by omega) (by omega) ?_
    repeat walk_at "w"
    refine ifD (fun q2 => ?_) (fun q2 => ?_)
    · repeat walk_at "w"
      exact ⟨_, by omega, rfl, _, _, _, rfl, by omega, by omega, by omega, rfl, fun i u1 u2 => Int.lt_of_le_of_lt (hs i mid.toNat (by omega) (by omega)) q2, g5⟩
    · repeat walk_at "w"
      exact ⟨_, by omega, rfl, _, _, _, rfl, by omega, by omega, by omega, rfl, g4, fun i u1 u2 => Int.le_trans (Int.not_lt.mp q2) (hs mid.toNat i (by omega) (by omega))⟩
  · repeat walk_at "w"
    obtain rfl : lo' = hi' := by omega
    exact h lo' g1 g3 g4 g5
theorem bl_none {c : C} {m : Nm} {l : Lg} {K : V → Nm → Lg → Prop} {a : Addr} {xs : List Int} {x : Int} (ok : c.Ok) (hn : 1 ≤ c.n) (hm : (a, It.list (nums xs)) ∈ l) (h3 : xs.length ≤ 1000)
    (hs : ∀ i j : Nat, i ≤ j → j < xs.length → xs.getD i 0 ≤ xs.getD j 0)
    (h : ∀ r : Int, 0 ≤ r → r ≤ xs.length → (∀ i : Nat, 0 ≤ i → i < r → xs.getD i 0 < x) → (∀ i : Nat, r ≤ i → i < xs.length → x ≤ xs.getD i 0) → K (.int r) m l) : CallA c (.ref 74) [.ref a, .int x, .int 0, .none] m l K := by
  refine F_K (m1 := [("a", .ref a), ("x", .int x), ("lo", .int 0), ("hi", .none), ("key", .none), ("mid", .any)]) (ns := ["a", "x", "lo", "hi", "key", "mid"]) ok hn (f := 74) rfl rfl ?_ rfl (by decide) (by decide) (by decide) rfl rfl rfl ?_
  · rintro _ ⟨y1, _, rfl, i1, y2, _, rfl, i2, y3, _, rfl, i3, y4, _, rfl, i4, rfl⟩
    refine ⟨_, fun _ => rfl, ⟨⟨_, rfl, i1⟩, ⟨_, rfl, i2⟩, ⟨_, rfl, i3⟩, ⟨_, rfl, i4⟩, ⟨_, rfl, rfl⟩, trivial, trivial⟩, rfl⟩
  intro c' ok' he hw hcn hns
  clear ok hn hw hcn hns
  repeat walk_at "w"
  refine F_lenI hm (by omega) ?_
  repeat walk_at "w"
  refine S_While (fun n m l' => l' = l ∧ ∃ lo' hi' mid', m = ([("a", .ref a), ("x", .int x), ("lo", .int lo'), ("hi", .int hi'), ("key", .none), ("mid", mid')] : Nm) ∧ 0 ≤ lo' ∧ lo' ≤ hi' ∧ hi' ≤ xs.length ∧ n = (hi' - lo').toNat ∧
    (∀ i : Nat, 0 ≤ i → i < lo' → xs.getD i 0 < x) ∧ (∀ i : Nat, hi' ≤ i → i < xs.length → x ≤ xs.getD i 0)) (n := ((xs.length : Int) - 0).toNat) ⟨rfl, 0, (xs.length : Int), .any, rfl, by omega, by omega, by omega, rfl, fun i h1 h2 => by omega, fun i h1 h2 => by omega⟩ ?_
  rintro n m l' ⟨rfl, lo', hi', mid', rfl, g1, g2, g3, rfl, g4, g5⟩
  repeat walk_at "w"
  refine ifD (fun q => ?_) (fun q => ?_)
  · repeat walk_at "w"
    have hd1 : (lo' + hi').fdiv 2 = (lo' + hi') / 2 := Int.fdiv_eq_ediv_of_nonneg _ (by omega)
    have hd2 : lo' ≤ (lo' + hi').fdiv 2 ∧ (lo' + hi').fdiv 2 < hi' := by omega
    generalize (lo' + hi').fdiv 2 = mid at hd2 ⊢
    repeat walk_at "w"
    refine Sub_ints hm (by omega) (by omega) (by omega) ?_
    repeat walk_at "w"
    refine ifD (fun q2 => ?_) (fun q2 => ?_)
    · repeat walk_at "w"
      exact ⟨_, by omega, rfl, _, _, _, rfl, by omega, by omega, by omega, rfl, fun i u1 u2 => Int.lt_of_le_of_lt (hs i mid.toNat (by omega) (by omega)) q2, g5⟩
    · repeat walk_at "w"
      exact ⟨_, by omega, rfl, _, _, _, rfl, by omega, by omega, by omega, rfl, g4, fun i u1 u2 => Int.le_trans (Int.not_lt.mp q2) (hs mid.toNat i (by omega) (by omega))⟩
  · repeat walk_at "w"
    obtain rfl : lo' = hi' := by omega
    exact h lo' g1 g3 g4 g5
theorem br_none {c : C} {m : Nm} {l : Lg} {K : V → Nm → Lg → Prop} {a : Addr} {xs : List Int} {x : Int} (ok : c.Ok) (hn : 1 ≤ c.n) (hm : (a, It.list (nums xs)) ∈ l) (h3 : xs.length ≤ 1000)
    (hs : ∀ i j : Nat, i ≤ j → j < xs.length → xs.getD i 0 ≤ xs.getD j 0)
    (h : ∀ r : Int, 0 ≤ r → r ≤ xs.length → (∀ i : Nat, 0 ≤ i → i < r → xs.getD i 0 ≤ x) → (∀ i : Nat, r ≤ i → i < xs.length → x < xs.getD i 0) → K (.int r) m l) : CallA c (.ref 65) [.ref a, .int x] m l K := by
  refine F_K (m1 := [("a", .ref a), ("x", .int x), ("lo", .int 0), ("hi", .none), ("key", .none), ("mid", .any)]) (ns := ["a", "x", "lo", "hi", "key", "mid"]) ok hn (f := 65) rfl rfl ?_ rfl (by decide) (by decide) (by decide) rfl rfl rfl ?_
  · rintro _ ⟨y1, _, rfl, i1, y2, _, rfl, i2, rfl⟩
    refine ⟨_, fun _ => rfl, ⟨⟨_, rfl, i1⟩, ⟨_, rfl, i2⟩, ⟨_, rfl, ⟨_, rfl⟩⟩, ⟨_, rfl, rfl⟩, ⟨_, rfl, rfl⟩, trivial, trivial⟩, rfl⟩
  intro c' ok' he hw hcn hns
  clear ok hn hw hcn hns
  repeat walk_at "w"
  refine F_lenI hm (by omega) ?_
  repeat walk_at "w"
  refine S_While (fun n m l' => l' = l ∧ ∃ lo' hi' mid', m = ([("a", .ref a), ("x", .int x), ("lo", .int lo'), ("hi", .int hi'), ("key", .none), ("mid", mid')] : Nm) ∧ 0 ≤ lo' ∧ lo' ≤ hi' ∧ hi' ≤ xs.length ∧ n = (hi' - lo').toNat ∧
    (∀ i : Nat, 0 ≤ i → i < lo' → xs.getD i 0 ≤ x) ∧ (∀ i : Nat, hi' ≤ i → i < xs.length → x < xs.getD i 0)) (n := ((xs.length : Int) - 0).toNat) ⟨rfl, 0, (xs.length : Int), .any, rfl, by omega, by omega, by omega, rfl, fun i h1 h2 => by omega, fun i h1 h2 => by omega⟩ ?_
  rintro n m l' ⟨rfl, lo', hi', mid', rfl, g1, g2, g3, rfl, g4, g5⟩
  repeat walk_at "w"
  refine ifD (fun q => ?_) (fun q => ?_)
  · repeat walk_at "w"
    have hd1 : (lo' + hi').fdiv 2 = (lo' + hi') / 2 := Int.fdiv_eq_ediv_of_nonneg _ (by omega)
    have hd2 : lo' ≤ (lo' + hi').fdiv 2 ∧ (lo' + hi').fdiv 2 < hi' := by omega
    generalize (lo' + hi').fdiv 2 = mid at hd2 ⊢
    repeat walk_at "w"
    refine Sub_ints hm (by omega) (by omega) (by omega) ?_
    repeat walk_at "w"
    refine ifD (fun q2 => ?_) (fun q2 => ?_)
    · repeat walk_at "w"
      exact ⟨_, by omega, rfl, _, _, _, rfl, by omega, by omega, by omega, rfl, g4, fun i u1 u2 => Int.lt_of_lt_of_le q2 (hs mid.toNat i (by omega) (by omega))⟩
    · repeat walk_at "w"
      exact ⟨_, by omega, rfl, _, _, _, rfl, by omega, by omega, by omega, rfl, fun i u1 u2 => Int.le_trans (hs i mid.toNat (by omega) (by omega)) (Int.not_lt.mp q2), g5⟩
  · repeat walk_at "w"
    obtain rfl : lo' = hi' := by omega
    exact h lo' g1 g3 g4 g5
/-! # Bn -/
theorem f_ter {c : C} {m : Nm} {l : Lg} {K : V → Nm → Lg → Prop} {x : Int} (ok : c.Ok) (hn : 1 ≤ c.n) (h : K (.bool (decide (x < 256))) m l) : CallA c (.ref 84) [.int x] m l K := by
  refine F_K (m1 := [("x", .int x)]) (ns := ["x"]) ok hn (f := 84) rfl rfl ?_ rfl (by decide) (by decide) (by decide) rfl rfl rfl ?_
  · rintro _ ⟨y1, _, rfl, i1, rfl⟩
    exact ⟨_, fun _ => rfl, ⟨⟨_, rfl, i1⟩, trivial⟩, rfl⟩
  intro c' ok' he hw hcn hns
  clear ok hn hw hcn hns
  repeat walk_at "w"
  exact h
theorem f_non {c : C} {m : Nm} {l : Lg} {K : V → Nm → Lg → Prop} {x : Int} (ok : c.Ok) (hn : 1 ≤ c.n) (h : K (.bool (decide (256 ≤ x))) m l) : CallA c (.ref 91) [.int x] m l K := by
  refine F_K (m1 := [("x", .int x)]) (ns := ["x"]) ok hn (f := 91) rfl rfl ?_ rfl (by decide) (by decide) (by decide) rfl rfl rfl ?_
  · rintro _ ⟨y1, _, rfl, i1, rfl⟩
    exact ⟨_, fun _ => rfl, ⟨⟨_, rfl, i1⟩, trivial⟩, rfl⟩
  intro c' ok' he hw hcn hns
  clear ok hn hw hcn hns
  repeat walk_at "w"
  exact h
theorem f_eof {c : C} {m : Nm} {l : Lg} {K : V → Nm → Lg → Prop} {x : Int} (ok : c.Ok) (hn : 1 ≤ c.n) (h : K (.bool (x == 0)) m l) : CallA c (.ref 98) [.int x] m l K := by
  refine F_K (m1 := [("x", .int x)]) (ns := ["x"]) ok hn (f := 98) rfl rfl ?_ rfl (by decide) (by decide) (by decide) rfl rfl rfl ?_
  · rintro _ ⟨y1, _, rfl, i1, rfl⟩
    exact ⟨_, fun _ => rfl, ⟨⟨_, rfl, i1⟩, trivial⟩, rfl⟩
  intro c' ok' he hw hcn hns
  clear ok hn hw hcn hns
  repeat walk_at "w"
  exact h
theorem f_div2 {c : C} {m : Nm} {l : Lg} {K : V → Nm → Lg → Prop} {a b n : Int} (ok : c.Ok) (hn : 1 ≤ c.n) (h1 : (Builtin.Int.intBits a : Int) - n ≤ 4000) (hb : b ≠ 0) (hp : b.natAbs < 2 ^ 60) (h : ∀ D, K (.ref D) m ((D, .tup [.int (a.fdiv b), .int (a.fmod b)]) :: l)) : CallA c (.ref 21) [.int a, .int b, .int n] m l K := by
  refine F_K (m1 := [("a", .int a), ("b", .int b), ("n", .int n), ("pad", .any), ("half_n", .any), ("mask", .any), ("b1", .any), ("b2", .any), ("q1", .any), ("r", .any), ("q2", .any)]) (ns := ["a", "b", "n", "pad", "half_n", "mask", "b1", "b2", "q1", "r", "q2"]) ok hn (f := 21) rfl rfl ?_ rfl (by decide) (by decide) (by decide) rfl rfl rfl ?_
  · rintro _ ⟨y1, _, rfl, i1, y2, _, rfl, i2, y3, _, rfl, i3, rfl⟩
    exact ⟨_, fun _ => rfl, ⟨⟨_, rfl, i1⟩, ⟨_, rfl, i2⟩, ⟨_, rfl, i3⟩, trivial, trivial, trivial, trivial, trivial, trivial, trivial, trivial, trivial⟩, rfl⟩
  intro c' ok' he hw hcn hns
  clear ok hn hw hcn hns
  repeat walk_at "w"
  refine ifT (decide_eq_true h1) ?_
  repeat walk_at "w"
  refine F_divmod hb (noPy hp) fun D _ => ?_
  exact h D
/-! # Bo -/
theorem nums_set {xs : List Int} {i : Nat} {x : Int} : (nums xs).set i (.int x) = nums (xs.set i x) := by simp [nums, List.map_set]
theorem Set_ints {c : C} {m : Nm} {l l' : Lg} {K : Unit → Nm → Lg → Prop} {a : Addr} {xs : List Int} {k v : Int} (hm : (a, It.list (nums xs)) ∈ l) (u : Put a (.list (nums (xs.set k.toNat v))) l l') (h0 : 0 ≤ k) (h1 : k < xs.length) (h2 : xs.length ≤ 100000) (h : K () m l') : SetI c (.ref a) (.int k) (.int v) m l K :=
  Set_list hm (by rw [nums_set]; exact u) h0 (by omega) (by simp [nums]; omega) h
theorem f_i2d {c : C} {m : Nm} {l : Lg} {K : V → Nm → Lg → Prop} {a n : Nat} (ok : c.Ok) (hn : 90 ≤ c.n) (h0 : 0 < n) (h9 : n ≤ 100) (ha : a < 2 ^ 81) (h : ∀ D, K (.ref D) m ((D, .list (nums (dig n ((Builtin.Int.intBits a + n - 1) / n) a))) :: l)) : CallA c (.ref 35) [.int a, .int n] m l K := by
  refine CallA.weak (K' := fun v m' l' => ∃ D, v = .ref D ∧ m' = m ∧ Fits l' ((D, .list (nums (dig n ((Builtin.Int.intBits a + n - 1) / n) a))) :: l)) ?_ (by rintro _ _ _ ⟨D, rfl, rfl, f⟩; exact ⟨_, f, h D⟩)
  clear h
  refine F_cells (cv := fun x => if x = "n" then .int n else .any) (m1 := [("a", .int a)]) (ns := ["a"]) ok (by omega) (f := 35) (fun h r => ⟨_, ok.X.keeps r.keep 35 _ rfl, rfl⟩) (fun h r => codeRec_of (ok.X.keeps r.keep) rfl) ?_ rfl (by decide) (by decide) (by decide) (fun L => by simp [cellsFrom]; omega) (fun L => by simp [cellsFrom]; omega) rfl rfl rfl ?_
  · rintro _ ⟨y1, _, rfl, i1, y2, _, rfl, i2, rfl⟩
    refine ⟨_, fun s r => BindsTo.of_eq rfl, fun L => ⟨⟨_, rfl, i1⟩, trivial⟩, fun L x => ?_, rfl⟩
    by_cases hx : x = "n"
    · subst hx; rw [if_pos rfl]; exact ⟨_, rfl, i2⟩
    · rw [if_neg hx]; trivial
  intro c' ok' he0 hw hcn hns lt
  have he : c'.env = envX _ _ c'.L 35 (.ref 34) [("inner", c'.L + 1 + 1 + 1), ("a_digits", c'.L + 1 + 1), ("n", c'.L + 1)] := he0
  clear he0
  show WF c' _ _ ((c'.L + 1 + 1 + 1, It.cell .any) :: (c'.L + 1 + 1, It.cell .any) :: (c'.L + 1, It.cell (.int n)) :: l) _
  clear hns lt hw ok
  have hcn' : 89 ≤ c'.n := by omega
  clear hcn hn
  generalize c'.L + 1 + 1 + 1 = c3 at he ⊢
  generalize c'.L + 1 + 1 = c2 at he ⊢
  generalize c'.L + 1 = c1 at he ⊢
  repeat walk_at "w"
  refine ⟨by simp, fun D0 _ => ?_⟩
  repeat walk_at "w"
  refine B_div ?_ (by omega) (noPy (by omega))
  generalize hk : (Builtin.Int.intBits a + n - 1) / n = k
  have hb : Builtin.Int.intBits (a : Int) ≤ 81 := intBits_le_iff.mpr (by simpa using ha)
  have e1 : ((Builtin.Int.intBits a : Int) + n - 1).fdiv n = (k : Int) := by
    rw [Int.fdiv_eq_ediv_of_nonneg _ (by omega), ← hk]
    have : ((Builtin.Int.intBits (a : Int) : Int) + n - 1) = ((Builtin.Int.intBits a + n - 1 : Nat) : Int) := by omega
    rw [this]; exact (Int.natCast_ediv _ _).symm
  have hk81 : k ≤ 81 := by rw [← hk]; exact Nat.div_le_of_le_mul (by omega)
  have hak : a < 2 ^ (n * k) := by
    have h1 := Nat.div_add_mod (Builtin.Int.intBits (a : Int) + n - 1) n
    have h2 := Nat.mod_lt (Builtin.Int.intBits (a : Int) + n - 1) h0
    rw [hk] at h1
    have h3 : Builtin.Int.intBits (a : Int) ≤ n * k := by omega
    simpa using intBits_le_iff.mp h3
  rw [e1]
  refine B_mulL (by walk_at "mem") (by omega) (by simp; omega) (by omega) fun D _ => ?_
  have e2 : (List.replicate (k : Int).toNat [V.int 0]).flatten = nums (List.replicate k 0) := by simp
  rw [e2]
  repeat walk_at "w"
  refine S_def (.inr ⟨rfl, rfl, rfl, rfl⟩) ok' he (by rw [he]; rfl) rfl (by rw [he]; rfl) rfl rfl rfl fun f c9 => ?_
  repeat walk_at "w"
  generalize hit : It.fn _ _ _ _ _ _ c9 = fi
  have inner : ∀ j, 0 < j → ∀ (c₂ : C) (m : Nm) (K : V → Nm → Lg → Prop) (ds : List Int) (L x : Nat), c₂.Ok → j ≤ c₂.n → L + j ≤ ds.length → ds.length ≤ 1000 → x < 2 ^ (n * j) → x < 2 ^ 81 →
      K .none m ((f, fi) :: (D, .list (nums (putD ds L (dig n j x)))) :: (D0, .list [.int 0]) :: (c3, .cell (.ref f)) :: (c2, .cell (.ref D)) :: (c1, .cell (.int n)) :: l) →
      CallA c₂ (.ref f) [.int x, .int L, .int ((L + j : Nat) : Int)] m ((f, fi) :: (D, .list (nums ds)) :: (D0, .list [.int 0]) :: (c3, .cell (.ref f)) :: (c2, .cell (.ref D)) :: (c1, .cell (.int n)) :: l) K := by
    subst hit
    clear ok' he hcn'
    intro j
    induction j using Nat.strongRecOn with
    | ind j ih =>
    intro hj c₂ m K ds L x ok hn hd hd9 hx hx9 hK
    refine F_lfn (m1 := [("x", .int x), ("L", .int L), ("R", .int ((L + j : Nat) : Int)), ("mid", .any), ("shift", .any), ("upper", .any), ("lower", .any)]) (ns := ["x", "L", "R", "mid", "shift", "upper", "lower"]) ok (by omega) (by walk_at "mem") ?_ rfl (by decide) (by decide) (by decide) rfl rfl rfl ?_
    · rintro _ ⟨y1, _, rfl, i1, y2, _, rfl, i2, y3, _, rfl, i3, rfl⟩
      exact ⟨[("x", y1), ("L", y2), ("R", y3)], fun _ _ _ _ => BindsTo.of_eq rfl, ⟨⟨_, rfl, i1⟩, ⟨_, rfl, i2⟩, ⟨_, rfl, i3⟩, trivial, trivial, trivial, trivial, trivial⟩, rfl⟩
    intro c' ok' he hw hcn hns
    clear ok hns hw
    repeat walk_at "w"
    by_cases h1 : j = 1
    · subst h1
      refine ifT (by simp) ?_
      repeat walk_at "w"
      refine Set_ints (by walk_at "mem") (by walk_at "put") (by omega) (by omega) (by omega) ?_
      repeat walk_at "w"
      have := hK
      rw [dig_one n x (by simpa using hx), putD_one (by omega)] at this
      exact this
    · refine ifF (by simp; omega) ?_
      obtain ⟨i, q, rfl, hi, hq, hie⟩ : ∃ i q, j = i + q ∧ 0 < i ∧ 0 < q ∧ (i + q) / 2 = i := ⟨j / 2, j - j / 2, by omega, by omega, by omega, by rw [show j / 2 + (j - j / 2) = j by omega]⟩
      repeat walk_at "w"
      have em : ((L : Int) + ((L + (i + q) : Nat) : Int)).fdiv (2 ^ (1 : Int).toNat) = ((L + i : Nat) : Int) := by
        rw [Int.fdiv_eq_ediv_of_nonneg _ (by decide)]
        show ((L : Int) + ((L + (i + q) : Nat) : Int)) / 2 = _
        omega
      refine B_shr ?_ (by omega)
      rw [em]
      repeat walk_at "w"
      rw [show ((L + i : Nat) : Int) - (L : Int) = (i : Int) by omega]
      refine B_mul ?_ (IntMulOk.of_le (m := 64) (n := 64) (intBits_le_iff.mpr (by simp; omega)) (intBits_le_iff.mpr (by simp; omega)) (by decide))
      rw [show (i : Int) * (n : Int) = ((n * i : Nat) : Int) by push_cast; rw [Int.mul_comm]]
      repeat walk_at "w"
      refine B_shr ?_ (by omega)
      rw [show (x : Int).fdiv (2 ^ ((n * i : Nat) : Int).toNat) = ((x / 2 ^ (n * i) : Nat) : Int) by
        rw [Int.fdiv_eq_ediv_of_nonneg _ (Int.pow_nonneg (by decide))]; push_cast; rfl]
      have hni : n * i ≤ 100 * 1000 := Nat.mul_le_mul h9 (by omega)
      have hx2 : x / 2 ^ (n * i) < 2 ^ 81 := Nat.lt_of_le_of_lt (Nat.div_le_self ..) hx9
      have hx3 : x % 2 ^ (n * i) < 2 ^ 81 := Nat.lt_of_le_of_lt (Nat.mod_le ..) hx9
      have hx4 : x / 2 ^ (n * i) < 2 ^ (n * q) := Nat.div_lt_of_lt_mul (by rw [← Nat.pow_add, ← Nat.mul_add]; exact hx)
      have hx5 : x % 2 ^ (n * i) < 2 ^ (n * i) := Nat.mod_lt _ (Nat.two_pow_pos _)
      have hd1 := dig_add n i q x
      repeat walk_at "w"
      refine B_shlB ?_ (by omega) (by
        have : Builtin.Int.intBits ((x / 2 ^ (n * i) : Nat) : Int) ≤ 81 := intBits_le_iff.mpr (by rw [Int.natAbs_natCast]; exact hx2)
        omega)
      rw [show ((x / 2 ^ (n * i) : Nat) : Int) * 2 ^ ((n * i : Nat) : Int).toNat = ((x / 2 ^ (n * i) * 2 ^ (n * i) : Nat) : Int) by push_cast; rfl]
      refine B_xor ?_
      rw [xor_low]
      generalize x % 2 ^ (n * i) = lo at hx3 hx5 hd1 ⊢
      generalize x / 2 ^ (n * i) = up at hx2 hx4 hd1 ⊢
      repeat walk_at "w"
      refine ih i (by omega) hi c' _ _ ds L lo ok' (by omega) (by omega) hd9 hx5 hx3 ⟨rfl, ?_⟩
      repeat walk_at "w"
      have hl1 := putD_length (ds := ds) (ys := dig n i lo) (i := L) (by rw [dig_length]; omega)
      rw [show L + (i + q) = (L + i) + q by omega]
      refine ih q (by omega) hq c' _ _ _ (L + i) up ok' (by omega) (by omega) (by omega) hx4 hx2 ⟨rfl, ?_⟩
      repeat walk_at "w"
      have e9 := putD_putD (ds := ds) (ys := dig n i lo) (zs := dig n q up) (i := L) (by rw [dig_length, dig_length]; omega)
      rw [dig_length, ← hd1] at e9
      rw [e9]
      exact hK
  rw [← hit] at *
  clear hit
  by_cases ha0 : a = 0
  · subst ha0
    refine ifF rfl ?_
    have hk0 : k = 0 := by
      rw [← hk]
      have : Builtin.Int.intBits ((0 : Nat) : Int) = 0 := rfl
      rw [this]
      exact Nat.div_eq_of_lt (by omega)
    subst hk0
    repeat walk_at "w"
    exact ⟨D, rfl, rfl, Fits.cons (.tail .head) (by walk_at "fits")⟩
  · refine ifT (by simpa using ha0) ?_
    have hk0 : 0 < k := by
      rcases Nat.eq_zero_or_pos k with z | z
      · subst z; rw [Nat.mul_zero] at hak; omega
      · exact z
    repeat walk_at "w"
    refine F_lenI (by walk_at "mem") (by simp; omega) ?_
    rw [show (((List.replicate k (0 : Int)).length : Nat) : Int) = ((0 + k : Nat) : Int) by simp]
    repeat walk_at "w"
    refine inner k hk0 c' _ _ (List.replicate k 0) 0 a ok' (by omega) (by simp) (by simp; omega) hak ha ⟨rfl, ?_⟩
    rw [putD_all (by rw [dig_length]; simp)]
    repeat walk_at "w"
    exact ⟨D, rfl, rfl, Fits.cons (.tail .head) (by walk_at "fits")⟩
/-! # Bq -/
theorem f_d2i {c : C} {m : Nm} {l : Lg} {K : V → Nm → Lg → Prop} {dd : Addr} {ds : List Int} {n : Nat} (ok : c.Ok) (hn : 90 ≤ c.n) (h9 : n ≤ 100) (hm : (dd, It.list (nums ds)) ∈ l) (hz : ds.length ≤ 81) (hb : ∀ d ∈ ds, 0 ≤ d ∧ d < 2 ^ n) (h : K (.int (numOf n ds)) m l) : CallA c (.ref 42) [.ref dd, .int n] m l K := by
  refine CallA.weak (K' := fun v m' l' => v = .int (numOf n ds) ∧ m' = m ∧ Fits l' l) ?_ (by rintro _ _ _ ⟨rfl, rfl, f⟩; exact ⟨_, f, h⟩)
  clear h
  refine F_cells (cv := fun x => if x = "n" then .int n else if x = "digits" then .ref dd else .any) (m1 := []) (ns := []) ok (by omega) (f := 42) (fun h r => ⟨_, ok.X.keeps r.keep 42 _ rfl, rfl⟩) (fun h r => codeRec_of (ok.X.keeps r.keep) rfl) ?_ rfl (by decide) (by decide) (by decide) (fun L => by simp [cellsFrom]; omega) (fun L => by simp [cellsFrom]; omega) rfl rfl rfl ?_
  · rintro _ ⟨y1, _, rfl, i1, y2, _, rfl, i2, rfl⟩
    refine ⟨[("digits", y1), ("n", y2)], fun s r => BindsTo.of_eq rfl, fun L => trivial, fun L x => ?_, rfl⟩
    by_cases hx : x = "n"
    · subst hx; rw [if_pos rfl]; exact ⟨_, rfl, i2⟩
    · rw [if_neg hx]
      by_cases hx : x = "digits"
      · subst hx; rw [if_pos rfl]; exact ⟨_, rfl, i1⟩
      · rw [if_neg hx]; trivial
  intro c' ok' he0 hw hcn hns lt
  have he : c'.env = envX _ _ c'.L 42 (.ref 41) [("inner", c'.L + 1 + 1 + 1), ("n", c'.L + 1 + 1), ("digits", c'.L + 1)] := he0
  clear he0
  show WF c' _ _ ((c'.L + 1 + 1 + 1, It.cell .any) :: (c'.L + 1 + 1, It.cell (.int n)) :: (c'.L + 1, It.cell (.ref dd)) :: l) _
  clear hns lt hw ok
  have hcn' : 89 ≤ c'.n := by omega
  clear hcn hn
  generalize c'.L + 1 + 1 + 1 = c3 at he ⊢
  generalize c'.L + 1 + 1 = c2 at he ⊢
  generalize c'.L + 1 = c1 at he ⊢
  repeat walk_at "w"
  refine S_def (.inl ⟨rfl, rfl, rfl, rfl⟩) ok' he (by rw [he]; rfl) rfl (by rw [he]; rfl) rfl rfl rfl fun f c9 => ?_
  repeat walk_at "w"
  generalize hit : It.fn _ _ _ _ _ _ c9 = fi
  have inner : ∀ j, 0 < j → ∀ (c₂ : C) (m : Nm) (K : V → Nm → Lg → Prop) (L : Nat), c₂.Ok → j ≤ c₂.n → L + j ≤ ds.length →
      K (.int (numOf n ((ds.drop L).take j))) m ((f, fi) :: (c3, .cell (.ref f)) :: (c2, .cell (.int n)) :: (c1, .cell (.ref dd)) :: l) →
      CallA c₂ (.ref f) [.int L, .int ((L + j : Nat) : Int)] m ((f, fi) :: (c3, .cell (.ref f)) :: (c2, .cell (.int n)) :: (c1, .cell (.ref dd)) :: l) K := by
    subst hit
    clear ok' he hcn'
    intro j
    induction j using Nat.strongRecOn with
    | ind j ih =>
    intro hj c₂ m K L ok hn hd hK
    refine F_lfn (m1 := [("L", .int L), ("R", .int ((L + j : Nat) : Int)), ("mid", .any), ("shift", .any)]) (ns := ["L", "R", "mid", "shift"]) ok (by omega) (by walk_at "mem") ?_ rfl (by decide) (by decide) (by decide) rfl rfl rfl ?_
    · rintro _ ⟨y1, _, rfl, i1, y2, _, rfl, i2, rfl⟩
      exact ⟨[("L", y1), ("R", y2)], fun _ _ _ _ => BindsTo.of_eq rfl, ⟨⟨_, rfl, i1⟩, ⟨_, rfl, i2⟩, trivial, trivial, trivial⟩, rfl⟩
    intro c' ok' he hw hcn hns
    clear ok hns hw
    repeat walk_at "w"
    have hdl : ds.drop L = ds.getD L 0 :: ds.drop (L + 1) := by
      rw [List.drop_eq_getElem_cons (by omega)]; simp [List.getD, show L < ds.length by omega]
    by_cases h1 : j = 1
    · subst h1
      refine ifT (by simp) ?_
      repeat walk_at "w"
      refine Sub_ints (.tail _ (.tail _ (.tail _ (.tail _ hm)))) (by omega) (by omega) (by omega) ?_
      repeat walk_at "w"
      rw [hdl, show numOf n ((ds.getD L 0 :: ds.drop (L + 1)).take 1) = ds.getD L 0 by simp [numOf]] at hK
      exact hK
    · refine ifF (by simp; omega) ?_
      obtain ⟨i, q, rfl, hi, hq, hie⟩ : ∃ i q, j = i + q ∧ 0 < i ∧ 0 < q ∧ (i + q) / 2 = i := ⟨j / 2, j - j / 2, by omega, by omega, by omega, by rw [show j / 2 + (j - j / 2) = j by omega]⟩
      repeat walk_at "w"
      have em : ((L : Int) + ((L + (i + q) : Nat) : Int)).fdiv (2 ^ (1 : Int).toNat) = ((L + i : Nat) : Int) := by
        rw [Int.fdiv_eq_ediv_of_nonneg _ (by decide)]
        show ((L : Int) + ((L + (i + q) : Nat) : Int)) / 2 = _
        omega
      refine B_shr ?_ (by omega)
      rw [em]
      repeat walk_at "w"
      rw [show ((L + i : Nat) : Int) - (L : Int) = (i : Int) by omega]
      refine B_mul ?_ (IntMulOk.of_le (m := 64) (n := 64) (intBits_le_iff.mpr (by simp; omega)) (intBits_le_iff.mpr (by simp; omega)) (by decide))
      rw [show (i : Int) * (n : Int) = ((n * i : Nat) : Int) by push_cast; rw [Int.mul_comm]]
      repeat walk_at "w"
      rw [show L + (i + q) = (L + i) + q by omega]
      refine ih q (by omega) hq c' _ _ (L + i) ok' (by omega) (by omega) ?_
      have b1 := numOf_bound (n := n) (xs := (ds.drop (L + i)).take q) fun d hd => hb d (List.mem_of_mem_drop (List.mem_of_mem_take hd))
      have b2 : ((ds.drop (L + i)).take q).length = q := by simp; omega
      have hni : n * i ≤ 100 * 1000 := Nat.mul_le_mul h9 (by omega)
      have hnq : n * q ≤ 100 * 1000 := Nat.mul_le_mul h9 (by omega)
      rw [b2] at b1
      have b3 := bits_of_lt b1.1 b1.2
      have e9 : numOf n ((ds.drop L).take (i + q)) = numOf n ((ds.drop (L + i)).take q) * 2 ^ ((n * i : Nat) : Int).toNat + numOf n ((ds.drop L).take i) := by
        rw [List.take_add, numOf_append, List.drop_drop, show ((ds.drop L).take i).length = i by simp; omega, Int.toNat_natCast, Int.add_comm, Int.mul_comm]
      rw [e9] at hK
      repeat walk_at "w"
      refine B_shlB ?_ (by omega) (by omega)
      repeat walk_at "w"
      refine ih i (by omega) hi c' _ _ L ok' (by omega) (by omega) ?_
      repeat walk_at "w"
      exact hK
  rw [← hit] at *
  clear hit
  refine Tru_list (.tail _ (.tail _ (.tail _ (.tail _ hm)))) (by simp [nums]; omega) ?_
  by_cases hd0 : ds = []
  · subst hd0
    refine ifF rfl ?_
    repeat walk_at "w"
    exact ⟨rfl, rfl, by walk_at "fits"⟩
  · have hl : 0 < ds.length := List.length_pos_iff.mpr hd0
    refine ifT (by simpa [nums] using hl) ?_
    repeat walk_at "w"
    refine F_lenI (.tail _ (.tail _ (.tail _ (.tail _ hm)))) (by omega) ?_
    rw [show ((ds.length : Nat) : Int) = ((0 + ds.length : Nat) : Int) by simp]
    repeat walk_at "w"
    refine inner ds.length hl c' _ _ 0 ok' (by omega) (by omega) ?_
    exact ⟨by simp, rfl, by walk_at "fits"⟩
/-! # Br -/
theorem F_appendI {c : C} {m : Nm} {l l' : Lg} {K : V → Nm → Lg → Prop} {a : Addr} {xs : List Int} {x : Int} (hm : (a, It.list (nums xs)) ∈ l) (u : Put a (.list (nums (xs ++ [x]))) l l') (hz : xs.length ≤ 1000) (h : K .none m l') : CallA c (.raw (.builtin "list.append")) [.ref a, .int x] m l K :=
  F_append hm (by simpa [nums] using u) (by simpa [nums] using hz) h
theorem F_reverseI {c : C} {m : Nm} {l l' : Lg} {K : V → Nm → Lg → Prop} {a : Addr} {xs : List Int} (hm : (a, It.list (nums xs)) ∈ l) (u : Put a (.list (nums xs.reverse)) l l') (hz : xs.length ≤ 1000) (h : K .none m l') : CallA c (.raw (.builtin "list.reverse")) [.ref a] m l K :=
  F_reverse hm (by simpa [nums] using u) (by simpa [nums] using hz) h
theorem f_dp {c : C} {m : Nm} {l : Lg} {K : V → Nm → Lg → Prop} {a b : Nat} (ok : c.Ok) (hn : 92 ≤ c.n) (ha : a < 2 ^ 60) (hb : 0 < b) (hb9 : b < 2 ^ 60) (h : ∀ D, K (.ref D) m ((D, .tup [.int ((a / b : Nat) : Int), .int ((a % b : Nat) : Int)]) :: l)) : CallA c (.ref 49) [.int a, .int b] m l K := by
  refine CallA.weak (K' := fun v m' l' => ∃ D, v = .ref D ∧ m' = m ∧ Fits l' ((D, .tup [.int ((a / b : Nat) : Int), .int ((a % b : Nat) : Int)]) :: l)) ?_ (by rintro _ _ _ ⟨D, rfl, rfl, f⟩; exact ⟨_, f, h D⟩)
  clear h
  refine F_K (m1 := [("a", .int a), ("b", .int b), ("n", .any), ("a_digits", .any), ("r", .any), ("q_digits", .any), ("a_digit", .any), ("q_digit", .any), ("q", .any)]) (ns := ["a", "b", "n", "a_digits", "r", "q_digits", "a_digit", "q_digit", "q"]) ok (by omega) (f := 49) rfl rfl ?_ rfl (by decide) (by decide) (by decide) rfl rfl rfl ?_
  · rintro _ ⟨y1, _, rfl, i1, y2, _, rfl, i2, rfl⟩
    exact ⟨_, fun _ => rfl, ⟨⟨_, rfl, i1⟩, ⟨_, rfl, i2⟩, trivial, trivial, trivial, trivial, trivial, trivial, trivial, trivial⟩, rfl⟩
  intro c' ok' he hw hcn hns
  have hcn' : 91 ≤ c'.n := by omega
  clear ok hn hw hcn hns
  repeat walk_at "w"
  have hbb : Builtin.Int.intBits (b : Int) ≤ 60 := intBits_le_iff.mpr (by simpa using hb9)
  have hb0 : 0 < Builtin.Int.intBits (b : Int) := by
    rcases Nat.eq_zero_or_pos (Builtin.Int.intBits (b : Int)) with z | z
    · have := intBits_le_iff.mp (Nat.le_of_eq z); simp at this; omega
    · exact z
  have hbn : b < 2 ^ Builtin.Int.intBits (b : Int) := by simpa using intBits_le_iff.mp (Nat.le_refl (Builtin.Int.intBits (b : Int)))
  generalize Builtin.Int.intBits (b : Int) = n at hbb hb0 hbn ⊢
  have hba : Builtin.Int.intBits (a : Int) ≤ 60 := intBits_le_iff.mpr (by simpa using ha)
  refine f_i2d ok' (by omega) hb0 (by omega) (Nat.lt_trans ha (by decide)) fun D => ?_
  generalize hk : (Builtin.Int.intBits (a : Int) + n - 1) / n = k
  have hk81 : k ≤ 60 := by rw [← hk]; exact Nat.div_le_of_le_mul (by omega)
  have hak : a < 2 ^ (n * k) := by
    have h1 := Nat.div_add_mod (Builtin.Int.intBits (a : Int) + n - 1) n
    have h2 := Nat.mod_lt (Builtin.Int.intBits (a : Int) + n - 1) hb0
    rw [hk] at h1
    have h3 : Builtin.Int.intBits (a : Int) ≤ n * k := by omega
    simpa using intBits_le_iff.mp h3
  repeat walk_at "w"
  refine ⟨by simp, fun Q _ => ?_⟩
  repeat walk_at "w"
  refine F_reversed (by walk_at "mem") fun I _ => ?_
  have xl : (nums (dig n k a)).length = k := by simp [nums, dig_length]
  refine For_rev (xs := nums (dig n k a)) (l' := (Q, It.list []) :: (D, It.list (nums (dig n k a))) :: l) ok' (by walk_at "mem") (by walk_at "pick") (fun i m' l' => ∃ (r : Nat) (qs : List Int) (v1 v2 : V), m' = ([("a", .int a), ("b", .int b), ("n", .int n), ("a_digits", .ref D), ("r", .int r), ("q_digits", .ref Q), ("a_digit", v1), ("q_digit", v2), ("q", .any)] : Nm) ∧
      l' = (Q, It.list (nums qs)) :: (D, It.list (nums (dig n k a))) :: l ∧ qs.length = i ∧ i ≤ k ∧ (∀ d ∈ qs, 0 ≤ d ∧ d < 2 ^ n) ∧ r = a / 2 ^ (n * (k - i)) % b ∧ numOf n qs.reverse = ((a / 2 ^ (n * (k - i)) / b : Nat) : Int)) ?_ ?_ ?_ ?_
  · rintro i m' l' ⟨r, qs, v1, v2, rfl, rfl, _⟩
    walk_at "mem"
  · refine ⟨0, [], .any, .any, rfl, rfl, rfl, Nat.zero_le _, fun d hd => by simp at hd, ?_, ?_⟩
    · rw [Nat.sub_zero, Nat.div_eq_of_lt hak]; simp
    · rw [Nat.sub_zero, Nat.div_eq_of_lt hak]; simp [numOf]
  · rintro i m' l' x hi hx ⟨r, qs, v1, v2, rfl, rfl, hql, hik, hqb, hr, hqn⟩
    rw [xl] at hx hi
    have hik' : i < k := hi
    obtain ⟨j, hj⟩ : ∃ j, k - i = j + 1 := ⟨k - i - 1, by omega⟩
    have hx' : x = .int ((a / 2 ^ (n * j) % 2 ^ n : Nat) : Int) := by
      rw [show k - 1 - i = j by omega] at hx
      simp only [nums, List.getElem?_map, dig_get (show j < k by omega)] at hx
      exact (Option.some.inj hx).symm
    subst hx'
    rw [hj] at hr hqn
    have hrb : r < b := hr ▸ Nat.mod_lt _ hb
    have hd : a / 2 ^ (n * j) % 2 ^ n < 2 ^ n := Nat.mod_lt _ (Nat.two_pow_pos _)
    have st := div_step (A := a / 2 ^ (n * (j + 1))) (q := (r * 2 ^ n + a / 2 ^ (n * j) % 2 ^ n) / b) (r := (r * 2 ^ n + a / 2 ^ (n * j) % 2 ^ n) % b) hb hd (by rw [hr]) (by rw [hr])
    rw [← div_top] at st
    generalize a / 2 ^ (n * j) % 2 ^ n = d at hd st ⊢
    have hbig : r * 2 ^ n + d < 2 ^ 121 := by
      have h1 : (r + 1) * 2 ^ n ≤ 2 ^ 60 * 2 ^ 60 := Nat.mul_le_mul (by omega) (Nat.pow_le_pow_right (by decide) hbb)
      rw [Nat.add_mul] at h1
      have : (2 : Nat) ^ 60 * 2 ^ 60 < 2 ^ 121 := by decide
      omega
    repeat walk_at "w"
    refine B_shl ?_ (by omega) (by omega) (by simp; omega)
    rw [show (r : Int) * 2 ^ ((n : Nat) : Int).toNat = ((r * 2 ^ n : Nat) : Int) by push_cast; rfl]
    repeat walk_at "w"
    rw [show ((r * 2 ^ n : Nat) : Int) + (d : Int) = ((r * 2 ^ n + d : Nat) : Int) by push_cast; rfl]
    refine f_div2 ok' (by omega) (by
      have : Builtin.Int.intBits ((r * 2 ^ n + d : Nat) : Int) ≤ 121 := intBits_le_iff.mpr (by rw [Int.natAbs_natCast]; exact hbig)
      omega) (by omega) (by simpa using hb9) fun T => ?_
    rw [Int.fdiv_eq_ediv_of_nonneg _ (by omega), Int.fmod_eq_emod_of_nonneg _ (by omega), ← Int.natCast_ediv, ← Int.natCast_emod]
    generalize (r * 2 ^ n + d) / b = q at st ⊢
    generalize (r * 2 ^ n + d) % b = r' at st ⊢
    repeat walk_at "w"
    refine F_appendI (xs := qs) (x := (q : Int)) (by walk_at "mem") (by walk_at "put") (by omega) ⟨rfl, ?_⟩
    repeat walk_at "w"
    refine ⟨_, Fits.cons (.tail .head) (Fits.drop Fits.refl), r', qs ++ [(q : Int)], _, _, rfl, rfl, by simp [hql], by omega, ?_, ?_, ?_⟩
    · intro y hy
      rcases List.mem_append.mp hy with hy | hy
      · exact hqb y hy
      · rw [List.mem_singleton.mp hy]
        refine ⟨by omega, ?_⟩
        have : ((q : Nat) : Int) < ((2 ^ n : Nat) : Int) := by exact_mod_cast st.1
        simpa using this
    · rw [show k - (i + 1) = j by omega]; exact st.2.1
    · rw [show k - (i + 1) = j by omega, List.reverse_append, List.reverse_singleton, List.singleton_append]
      simp only [numOf]
      rw [hqn, st.2.2]
      push_cast; rfl
  · rintro m' l' ⟨r, qs, v1, v2, rfl, rfl, hql, hik, hqb, hr, hqn⟩
    rw [xl] at hql hr hqn
    rw [Nat.sub_self, Nat.mul_zero, Nat.pow_zero, Nat.div_one] at hr hqn
    repeat walk_at "w"
    refine F_reverseI (xs := qs) (by walk_at "mem") (by walk_at "put") (by omega) ⟨rfl, ?_⟩
    repeat walk_at "w"
    refine f_d2i ok' (by omega) (by omega) (by walk_at "mem") (by simp; omega) (fun d hd => hqb d (by simpa using hd)) ?_
    rw [hqn]
    repeat walk_at "w"
    refine ⟨by simp, fun T2 _ => ?_⟩
    repeat walk_at "w"
    rw [hr]
    refine ⟨T2, rfl, rfl, ?_⟩
    walk_at "fits"
/-! # Bs -/
theorem f_dm0 {c : C} {m : Nm} {l : Lg} {K : V → Nm → Lg → Prop} {a b : Int} (ok : c.Ok) (hn : 93 ≤ c.n) (ha : 0 ≤ a) (ha9 : a < 2 ^ 60) (hb : 0 < b) (hb9 : b < 2 ^ 60) (h : ∀ D, K (.ref D) m ((D, .tup [.int (a.fdiv b), .int (a.fmod b)]) :: l)) : CallA c (.ref 56) [.int a, .int b] m l K := by
  obtain ⟨a, rfl⟩ := Int.eq_ofNat_of_zero_le ha
  obtain ⟨b, rfl⟩ := Int.eq_ofNat_of_zero_le (Int.le_of_lt hb)
  refine F_K (m1 := [("a", .int a), ("b", .int b), ("q", .any), ("r", .any)]) (ns := ["a", "b", "q", "r"]) ok (by omega) (f := 56) rfl rfl ?_ rfl (by decide) (by decide) (by decide) rfl rfl rfl ?_
  · rintro _ ⟨y1, _, rfl, i1, y2, _, rfl, i2, rfl⟩
    exact ⟨_, fun _ => rfl, ⟨⟨_, rfl, i1⟩, ⟨_, rfl, i2⟩, trivial, trivial, trivial⟩, rfl⟩
  intro c' ok' he hw hcn hns
  have hcn' : 92 ≤ c'.n := by omega
  clear ok hn hw hcn hns
  repeat walk_at "w"
  refine ifF (by simp; omega) ?_
  repeat walk_at "w"
  refine f_dp ok' hcn' (by omega) (by omega) (by omega) fun D => ?_
  have := h D
  rw [Int.fdiv_eq_ediv_of_nonneg _ (by omega), Int.fmod_eq_emod_of_nonneg _ (by omega), ← Int.natCast_ediv, ← Int.natCast_emod] at this
  exact this
theorem f_dm1 {c : C} {m : Nm} {l : Lg} {K : V → Nm → Lg → Prop} {a b : Int} (ok : c.Ok) (hn : 94 ≤ c.n) (ha : -2 ^ 60 < a) (ha9 : a < 2 ^ 60) (hb : 0 < b) (hb9 : b < 2 ^ 60) (h : ∀ D, K (.ref D) m ((D, .tup [.int (a.fdiv b), .int (a.fmod b)]) :: l)) : CallA c (.ref 56) [.int a, .int b] m l K := by
  rcases Int.lt_or_le a 0 with a0 | a0
  rotate_left
  · exact f_dm0 ok (by omega) a0 ha9 hb hb9 h
  refine CallA.weak (K' := fun v m' l' => ∃ D, v = .ref D ∧ m' = m ∧ Fits l' ((D, .tup [.int (a.fdiv b), .int (a.fmod b)]) :: l)) ?_ (by rintro _ _ _ ⟨D, rfl, rfl, f⟩; exact ⟨_, f, h D⟩)
  clear h
  refine F_K (m1 := [("a", .int a), ("b", .int b), ("q", .any), ("r", .any)]) (ns := ["a", "b", "q", "r"]) ok (by omega) (f := 56) rfl rfl ?_ rfl (by decide) (by decide) (by decide) rfl rfl rfl ?_
  · rintro _ ⟨y1, _, rfl, i1, y2, _, rfl, i2, rfl⟩
    exact ⟨_, fun _ => rfl, ⟨⟨_, rfl, i1⟩, ⟨_, rfl, i2⟩, trivial, trivial, trivial⟩, rfl⟩
  intro c' ok' he hw hcn hns
  have hcn' : 93 ≤ c'.n := by omega
  clear ok hn hw hcn hns
  repeat walk_at "w"
  refine ifF (by simp; omega) ?_
  repeat walk_at "w"
  refine ifF (decide_eq_false (by omega)) ?_
  repeat walk_at "w"
  refine ifT (decide_eq_true a0) ?_
  repeat walk_at "w"
  have e : Builtin.bitNot a = -a - 1 := rfl
  rw [e]
  refine f_dm0 ok' hcn' (by omega) (by omega) hb hb9 fun D => ?_
  have i := inv_div a0 hb
  generalize (-a - 1).fdiv b = q at i ⊢
  generalize (-a - 1).fmod b = r at i ⊢
  repeat walk_at "w"
  refine ⟨by simp, fun T _ => ?_⟩
  repeat walk_at "w"
  rw [i.1, i.2]
  exact ⟨T, rfl, rfl, by walk_at "fits"⟩
theorem f_dm {c : C} {m : Nm} {l : Lg} {K : V → Nm → Lg → Prop} {a b : Int} (ok : c.Ok) (hn : 95 ≤ c.n) (ha : -2 ^ 60 < a) (ha9 : a < 2 ^ 60) (hb0 : b ≠ 0) (hb : -2 ^ 60 < b) (hb9 : b < 2 ^ 60) (h : ∀ D, K (.ref D) m ((D, .tup [.int (a.fdiv b), .int (a.fmod b)]) :: l)) : CallA c (.ref 56) [.int a, .int b] m l K := by
  rcases Int.lt_or_le b 0 with b0 | b0
  rotate_left
  · exact f_dm1 ok (by omega) ha ha9 (by omega) hb9 h
  refine CallA.weak (K' := fun v m' l' => ∃ D, v = .ref D ∧ m' = m ∧ Fits l' ((D, .tup [.int (a.fdiv b), .int (a.fmod b)]) :: l)) ?_ (by rintro _ _ _ ⟨D, rfl, rfl, f⟩; exact ⟨_, f, h D⟩)
  clear h
  refine F_K (m1 := [("a", .int a), ("b", .int b), ("q", .any), ("r", .any)]) (ns := ["a", "b", "q", "r"]) ok (by omega) (f := 56) rfl rfl ?_ rfl (by decide) (by decide) (by decide) rfl rfl rfl ?_
  · rintro _ ⟨y1, _, rfl, i1, y2, _, rfl, i2, rfl⟩
    exact ⟨_, fun _ => rfl, ⟨⟨_, rfl, i1⟩, ⟨_, rfl, i2⟩, trivial, trivial, trivial⟩, rfl⟩
  intro c' ok' he hw hcn hns
  have hcn' : 94 ≤ c'.n := by omega
  clear ok hn hw hcn hns
  repeat walk_at "w"
  refine ifF (by simp; omega) ?_
  repeat walk_at "w"
  refine ifT (decide_eq_true b0) ?_
  repeat walk_at "w"
  refine f_dm1 ok' hcn' (by omega) (by omega) (by omega) (by omega) fun D => ?_
  have i := neg_div (a := a) b0
  generalize (-a).fdiv (-b) = q at i ⊢
  generalize (-a).fmod (-b) = r at i ⊢
  repeat walk_at "w"
  refine ⟨by simp, fun T _ => ?_⟩
  repeat walk_at "w"
  rw [i.1, i.2]
  exact ⟨T, rfl, rfl, by walk_at "fits"⟩
/-! # Ed -/
theorem g_ve (w : World) : nsIn (KF w) mainGlobals "ValueError" = some none := by kernel_rfl
theorem bl_raise {c : C} {m : Nm} {l : Lg} {a : Addr} {x lo : Int} {s : Shared} {ys : List Value} {E : Value → Shared → Prop} {Q : Value → Shared → Prop} (ok : c.Ok) (hout : c.outer = []) (hn : 1 ≤ c.n) (hlo : lo < 0) (r : R c m l s.heap) (hys : VsIs [.ref a, .int x, .int lo] ys)
    (hE : ∀ e s', Sm s s' → Rd c m l e .none s'.heap → E (.ref e) s') : wpAny (model Pg c.w) c.A (call (.ref 74) ys) Q E s := by
  refine F_raise (m1 := [("a", .ref a), ("x", .int x), ("lo", .int lo), ("hi", .none), ("key", .none), ("mid", .any)]) (ns := ["a", "x", "lo", "hi", "key", "mid"]) ok hout hn r hys (f := 74) rfl rfl ?_ rfl (by decide) (by decide) (by decide) rfl rfl rfl ?_ hE
  · rintro _ ⟨y1, _, rfl, i1, y2, _, rfl, i2, y3, _, rfl, i3, rfl⟩
    exact ⟨_, fun _ => rfl, ⟨⟨_, rfl, i1⟩, ⟨_, rfl, i2⟩, ⟨_, rfl, i3⟩, ⟨_, rfl, rfl⟩, ⟨_, rfl, rfl⟩, trivial, trivial⟩, rfl⟩
  intro c' ok' he hw hns E' s1 r1 k
  clear ok hn hw hns hE hys r
  refine wpAny_execs_cons (wpAny_If ?_)
  refine W.useE (is := @Eq Bool) (K := fun b m' l' => b = true ∧ m' = ([("a", .ref a), ("x", .int x), ("lo", .int lo), ("hi", .none), ("key", .none), ("mid", .any)] : Nm) ∧ l' = l) (s₀ := s1) (by
    repeat walk_at "w"
    exact ⟨decide_eq_true hlo, rfl, rfl⟩) Sm.refl r1 ?_
  rintro _ b m2 l2 s2 rfl r2 e2 ⟨rfl, rfl, rfl⟩
  simp only [if_true]
  refine wpAny_execs_cons (Raise_madeB PySem.F.excCall_ValueError PySem.F.excRaise_ValueError ok'.hh ?_ rfl rfl)
  refine W.useE (is := V.Is) (K := fun v m' l' => v = .raw (.type "ValueError") ∧ m' = ([("a", .ref a), ("x", .int x), ("lo", .int lo), ("hi", .none), ("key", .none), ("mid", .any)] : Nm) ∧ l' = l2) (W_bt ok' he rfl (g_ve _) PyProof.Rows.Boot.«ValueError» ⟨rfl, rfl, rfl⟩ (by decide) (by decide)) e2 r2 ?_
  rintro _ f m3 l3 s3 i3 r3 e3 ⟨rfl, rfl, rfl⟩
  refine ⟨i3, ?_⟩
  refine W.useE (is := VsIs) (K := fun vs m' l' => vs.length = 1 ∧ m' = ([("a", .ref a), ("x", .int x), ("lo", .int lo), ("hi", .none), ("key", .none), ("mid", .any)] : Nm) ∧ l' = l3) (by
    refine A_cons (W_str ?_) rfl
    exact A_nil ⟨rfl, rfl, rfl⟩) e3 r3 ?_
  rintro vs ws m4 l4 s4 i4 r4 e4 ⟨h1, rfl, rfl⟩
  exact ⟨by rw [i4.length, h1]; decide, fun h' e hx => k _ _ _ _ _ r4 e4 hx⟩
theorem W.useS {α β : Type} {is : α → β → Prop} {c : C} {t : Sem β} {m : Nm} {l : Lg} {a : α} {s₀ s : Shared} {Q : β → Shared → Prop} {E : Value → Shared → Prop} (h : W is c t m l fun v m' l' => v = a ∧ m' = m ∧ l' = l) (e : Sm s₀ s) (r : R c m l s.heap)
    (q : ∀ b s', is a b → R c m l s'.heap → Sm s₀ s' → Q b s') : wpAny (model Pg c.w) c.A t Q E s :=
  W.useE h e r fun v b m' l' s' i r' e' k => by obtain ⟨rfl, rfl, rfl⟩ := k; exact q b s' i r' e'
/-! # Bt -/
noncomputable def TK (w : World) : List (Str × Int) := match (KF w).lookup 75 with
  | some ⟨_, _, .dict es _, _⟩ => es.toList.filterMap fun e => match e.key, e.val with
    | .str x _, .int n _ => some (x, n)
    | _, _ => none
  | _ => []
theorem tk_look (w : World) : KTD.tabLook KTD.flatLooks (fun b => (KF w).lookup b) 75 ((TK w).map fun p => (p.1, PyData.int p.2)) = true := by kernel_rfl
theorem tk_hash (w : World) : KTD.hashesOf (fun b => (KF w).lookup b) 75 = ((TK w).map fun p => (p.1, PyData.int p.2)).map fun p => (PySem.strKind Pg w).hash p.1 := by kernel_rfl
theorem tk_nd (w : World) : (((TK w).map fun p => (p.1, PyData.int p.2)).map (·.1)).Nodup := of_decide_eq_true (by kernel_rfl)
theorem tk_len (w : World) : (TK w).length = 48 := by kernel_rfl
theorem tk_ndv (w : World) : ((TK w).map (·.2)).Nodup := of_decide_eq_true (by kernel_rfl)
theorem tk_ok (w : World) : ((TK w).all fun p => decide (1 ≤ p.1.length) && decide (p.1.length ≤ 3) && decide (7 ≤ p.2) && decide (p.2 ≤ 54)) = true := by kernel_rfl
theorem tk_tab {w : World} {h : Heap} (X : (KF w).In h) : StrTab Pg w h 75 (kdpD (TK w)) := by
  have := kt_tab_in Pg w X (tk_look w) (tk_nd w) (tk_hash w)
  rw [List.map_map] at this
  exact this
noncomputable abbrev wrds (xs : List Str) : List V := xs.map V.str
theorem VsIs.ofStrs : ∀ {vs : List Value} {xs : List Str}, StrsAre vs xs → VsIs (wrds xs) vs
  | _, _, .nil => rfl
  | _, _, .cons k t r => ⟨_, _, rfl, ⟨t, rfl⟩, VsIs.ofStrs r⟩
section
variable {c : C} {m m' : Nm} {l l' : Lg} {env : Env} {K : V → Nm → Lg → Prop} {pos : Pos} {a : Addr} {x : Str} {xs : List Str}
theorem F_listD (ok : c.Ok) (h : ∀ D, K (.ref D) m ((D, .list (wrds ((TK c.w).map (·.1)))) :: l)) : CallA c (.raw (.type "list")) [.ref 75] m l K := by
  rintro _ _ rfl ⟨_, _, rfl, rfl, rfl⟩ s r
  obtain ⟨m₀, news, F, _, N, va⟩ := r.via
  refine kdz_list ok.hh F N (tk_tab (ok.X.keeps r.keep)) (by rw [tk_len]; decide) fun B n h' tk vs F' N' lt hs => ?_
  exact ⟨.ref B, m, _, rfl, va.new _ _ _ _ F' N' lt (atList (N' _ (.head _)).1 (VsIs.ofStrs hs)) rfl, Sm.refl.mk _ _, h B⟩
theorem kdp_find {ps : List (Str × Int)} {x : Str} {n : Int} (h : (x, n) ∈ ps) (nd : (ps.map (·.1)).Nodup) : kdpHas ps x = true ∧ kdpLook ps x 0 = n := by
  induction ps with
  | nil => cases h
  | cons p r ih =>
    rw [List.map_cons, List.nodup_cons] at nd
    unfold kdpHas kdpLook
    rcases List.mem_cons.mp h with rfl | h
    · simp
    · have hx : p.1 ≠ x := fun e => nd.1 (by rw [e]; exact List.mem_map_of_mem (f := Prod.fst) h)
      have := ih h nd.2
      unfold kdpHas kdpLook at this
      simp only [List.any_cons, List.find?_cons, decide_eq_false hx, Bool.false_or]
      exact this
theorem Sub_dict {ve se : Expr} {n : Int} (ok : c.Ok) (hx : (x, n) ∈ TK c.w) (h : K (.int n) m l)
    (hs : ∀ u, subscripted se false (.ref 75) (.str x u) = operate [.ref 75, .str x u] (getItem (.ref 75) (.str x u)) := by exact fun _ => rfl) (ht : ∀ x r, letTemporaryGo ve x r = pure () := by exact fun _ _ => rfl) : Sub c ve se (.ref 75) (.str x) m l K := by
  rintro _ _ rfl ⟨u, rfl⟩ s r
  have nd : ((TK c.w).map (·.1)).Nodup := by have := tk_nd c.w; rwa [List.map_map] at this
  obtain ⟨h1, h2⟩ := kdp_find hx nd
  exact kdp_item (tk_tab (ok.X.keeps r.keep)) h1 (fun t => ⟨.int n, m, l, ⟨t, by rw [h2]⟩, r, Sm.refl.tok _, h⟩) (hs u) (ht _)
theorem F_lenS (hz : x.length ≤ 1000) (h : K (.int x.length) m l) : CallA c (.raw (.builtin "len")) [.str x] m l K := by
  rintro _ _ rfl ⟨_, _, rfl, ⟨t, rfl⟩, rfl⟩ s r
  exact len_str (by omega) ⟨.int _, m, l, ⟨_, rfl⟩, r, Sm.refl.tok _, h⟩
end
noncomputable def lawOf : Option (List Stmt × Scope) := match PySem.Challenge.pw_rs0210_01.main.body.getLast? with
  | some (.FunctionDef _ _ b _ _ _ sc _ _ _) => some (b, sc)
  | _ => none
noncomputable def lawBody : List Stmt := (lawOf.getD default).1
noncomputable def lawScope : Scope := (lawOf.getD default).2
noncomputable def rest (k : Nat) : List Stmt := (lawOf.getD default).1.drop k
noncomputable def restOf (k : Nat) : Option (List Stmt) := lawOf.map fun p => p.1.drop k
theorem rest_cast {c : C} {k : Nat} {env : Env} {m : Nm} {l : Lg} {KF' : Fl → Nm → Lg → Prop} {st : Stmt} {b : List Stmt} (hl : restOf k = some (st :: b)) (h : WF c (execs (st :: b) env) m l KF') : WF c (execs (rest k) env) m l KF' := by
  have : rest k = st :: b := by
    unfold rest; unfold restOf at hl
    cases e : lawOf with
    | none => rw [e] at hl; cases hl
    | some p => rw [e] at hl; exact Option.some.inj hl
  rw [this]; exact h
theorem scope_cast {b : List Stmt} {sc : Scope} {P : Scope → Prop} (hl : lawOf = some (b, sc)) (h : P sc) : P lawScope := by unfold lawScope; rw [hl]; exact h
theorem W.fits {α β : Type} {is : α → β → Prop} {c : C} {t : Sem β} {m : Nm} {l l' : Lg} {K : α → Nm → Lg → Prop} (f : Fits l l') (h : W is c t m l' K) : W is c t m l K := fun s r => h s (r.perm f)
theorem four {T : List (Str × Int)} (hl : T.length = 48) (nd : (T.map (·.2)).Nodup) {k : Nat} (hk : k < 48) : ∃ qs : List (Str × Int), ((T ++ T).drop k).take 4 = qs ∧ qs.length = 4 ∧ (∀ q ∈ qs, q ∈ T) ∧ (qs.map (·.2)).Nodup := by
  refine ⟨_, rfl, by simp; omega, fun q hq => ?_, ?_⟩
  · have := List.mem_of_mem_drop (List.mem_of_mem_take hq)
    simpa using this
  · unfold List.Nodup
    rw [List.pairwise_iff_getElem]
    intro i j hi hj hij e
    have hj' := hj
    simp only [List.length_map, List.length_take, List.length_drop, List.length_append, hl] at hj'
    have get : ∀ i, i < 4 → (((T ++ T).drop k).take 4 |>.map (·.2))[i]? = (T.map (·.2))[(k + i) % 48]? := by
      intro i hi
      rw [List.getElem?_map, List.getElem?_map, List.getElem?_take_of_lt hi, List.getElem?_drop]
      rcases Nat.lt_or_ge (k + i) 48 with z | z
      · rw [List.getElem?_append_left (by omega), Nat.mod_eq_of_lt z]
      · rw [List.getElem?_append_right (by omega), hl, show (k + i) % 48 = k + i - 48 by omega]
    have l1 : (T.map (·.2)).length = 48 := by simp [hl]
    have e1 := get i (by omega)
    have e2 := get j (by omega)
    rw [List.getElem?_eq_getElem hi, List.getElem?_eq_getElem (by omega)] at e1
    rw [List.getElem?_eq_getElem hj, List.getElem?_eq_getElem (by omega)] at e2
    have e3 : (T.map (·.2))[(k + i) % 48] = (T.map (·.2))[(k + j) % 48] := by
      rw [← Option.some.inj e1, ← Option.some.inj e2]; exact e
    have := (List.getElem_inj nd).mp e3
    omega
noncomputable abbrev LM (script cells kinds kind told number line written laps ones marks side lone j due known mask hit both whole more carried less lent before place plain grown : V) : Nm := [("script", script), ("cells", cells), ("kinds", kinds), ("kind", kind), ("told", told), ("number", number), ("line", line), ("written", written), ("laps", laps), ("ones", ones), ("marks", marks), ("side", side), ("lone", lone), ("j", j), ("due", due), ("known", known), ("mask", mask), ("hit", hit), ("both", both), ("whole", whole), ("more", more), ("carried", carried), ("less", less), ("lent", lent), ("before", before), ("place", place), ("plain", plain), ("grown", grown)]
theorem wrds_get {xs : List Str} {i : Nat} {v : V} (h : (wrds xs)[i]? = some v) : ∃ x, xs[i]? = some x ∧ v = .str x := by
  simp only [wrds, List.getElem?_map] at h
  cases e : xs[i]? with
  | none => rw [e] at h; cases h
  | some x => rw [e] at h; exact ⟨x, rfl, (Option.some.inj h).symm⟩
theorem nums_get' {xs : List Int} {i : Nat} {v : V} (h : (nums xs)[i]? = some v) : ∃ x, xs[i]? = some x ∧ v = .int x := by
  simp only [nums, List.getElem?_map] at h
  cases e : xs[i]? with
  | none => rw [e] at h; cases h
  | some x => rw [e] at h; exact ⟨x, rfl, (Option.some.inj h).symm⟩
theorem take_next {α : Type} {xs : List α} {i : Nat} {x : α} (h : xs[i]? = some x) : xs.take (i + 1) = xs.take i ++ [x] := by rw [List.take_add_one, h]; rfl
theorem Comp_ints {c : C} {m : Nm} {l : Lg} {env env' : Env} {scope : Scope} {cl : List (Str × Addr)} {t : Str} {tp : Pos} {elt : Expr} {a : Addr} {xs : List Int} {KC : Addr → List V → Nm → Lg → Prop} (ok : c.Ok) (hm : (a, It.list (nums xs)) ∈ l) (hk : scope.kind = .function) (hx : scope.names.lookup t = some .local) (he : env = env') (hz : xs.length ≤ 1000) (f : Int → Int)
    (turn : ∀ x acc D Cc p, x ∈ xs → WV c (eval elt (compEnvC scope cl Cc env')) m (p :: (Cc, .ns [(t, .int x)]) :: (D, .list acc) :: l) fun y m3 l3 => m3 = m ∧ y = .int (f x) ∧ ∃ mm3, Fits l3 (p :: (Cc, .ns mm3) :: (D, .list acc) :: l))
    (done : ∀ D, KC D (nums (xs.map f)) m l) : CompC c env (.Name t tp) elt [] scope cl (.ref a) m l KC := by
  refine CompC_list (xs := nums xs) ok hm hk hx he (fun i acc => acc = nums ((xs.map f).take i)) (by rintro i _ rfl; simp; omega) (by simp) ?_ ?_
  · rintro i acc v D Cc I hv rfl
    obtain ⟨x, hx, rfl⟩ := nums_get' hv
    refine Te_nil (ifT rfl ?_)
    refine W.mono (turn x _ D Cc (I, .lit a (i + 1)) (List.mem_of_getElem? hx)) ?_
    rintro y m3 l3 ⟨rfl, rfl, mm, hf⟩
    refine ⟨rfl, ?_, mm, hf⟩
    show _ = nums ((xs.map f).take (i + 1))
    rw [take_next (show (xs.map f)[i]? = some (f x) by rw [List.getElem?_map, hx]; rfl)]
    simp
  · rintro D acc rfl
    rw [List.take_of_length_le (by simp)]
    exact done D
/-! # Bu -/
noncomputable def symOf (qs : List (Str × Int)) : List Int := qs.map (·.2) ++ [255, 256, 257, 258, 259, 0]
noncomputable def sgOf (qs : List (Str × Int)) : List Str := qs.map (·.1) ++ [(Str.ofString "")]
noncomputable def kindsOf (cs : List Int) : List Int := cs.map (fun x : Int => x.fmod 10) ++ [9]
noncomputable def toldOf (qs : List (Str × Int)) (cs : List Int) : List Int := (kindsOf cs).map fun k => (symOf qs).getD k.toNat 0
theorem law1 {c : C} {KF' : Fl → Nm → Lg → Prop} {fa al c1 c2 c3 c4 c5 c6 : Addr} {cd : Value} {vs : List Value} {xs : List Int} (ok : c.Ok) (hn : 100 ≤ c.n) (he : c.env = envX "law" lawScope c.L fa cd [("ends", c6), ("best", c5), ("piles", c4), ("symbol", c3), ("symbols", c2), ("signs", c1)])
    (hl : c.h₀.IsList al vs.toArray) (hi : IntsAre vs xs) (hx : xs.length ≤ 63)
    (h : ∀ (qs : List (Str × Int)) (cs : List Int) (SG SY CE KI TO : Addr), qs.length = 4 → (∀ q ∈ qs, q ∈ TK c.w) → (qs.map (·.2)).Nodup → cs.length = 8 → (∀ x ∈ cs, 0 ≤ x ∧ x < 50) →
      WF c (execs (rest 5) c.env) (LM (.ref al) (.ref CE) (.ref KI) .any (.ref TO) .any .any .any .any .any .any .any .any .any .any .any .any .any .any .any .any .any .any .any .any .any .any .any)
        [(TO, .list (nums (toldOf qs cs))), (KI, .list (nums (kindsOf cs))), (CE, .list (nums cs)), (SY, .list (nums (symOf qs))), (SG, .list (wrds (sgOf qs))),
          (c6, .cell .any), (c5, .cell .any), (c4, .cell .any), (c3, .cell .any), (c2, .cell (.ref SY)), (c1, .cell (.ref SG))] KF') :
    WF c (execs (rest 0) c.env) (LM (.ref al) .any .any .any .any .any .any .any .any .any .any .any .any .any .any .any .any .any .any .any .any .any .any .any .any .any .any .any)
      [(c6, .cell .any), (c5, .cell .any), (c4, .cell .any), (c3, .cell .any), (c2, .cell .any), (c1, .cell .any)] KF' := by
  revert he
  refine scope_cast (P := fun sc => c.env = envX "law" sc c.L fa cd _ → _) rfl ?_
  intro he
  refine rest_cast rfl ?_
  repeat walk_at "w"
  refine F_listD ok fun D1 => ?_
  repeat walk_at "w"
  refine B_mulL (by walk_at "mem") (by decide) (by simp [tk_len]) (by decide) fun D2 _ => ?_
  rw [show (List.replicate (2 : Int).toNat (wrds ((TK c.w).map (·.1)))).flatten = wrds ((TK c.w ++ TK c.w).map (·.1)) by
    show (List.replicate 2 (wrds ((TK c.w).map (·.1)))).flatten = _
    simp [List.replicate]]
  repeat walk_at "w"
  refine F_sumO ok hl hi ?_
  repeat walk_at "w"
  have hk1 : 0 ≤ (8 + xs.sum).fmod 48 := by rw [Int.fmod_eq_emod_of_nonneg _ (by decide)]; exact Int.emod_nonneg _ (by decide)
  have hk2 : (8 + xs.sum).fmod 48 < 48 := Int.fmod_lt_of_pos _ (by decide)
  generalize (8 + xs.sum).fmod 48 = k at hk1 hk2 ⊢
  have tl := tk_len c.w
  refine Cut_led (by walk_at "mem") (by simp [tl]) fun D3 _ => ?_
  repeat walk_at "w"
  refine Cut_led (by walk_at "mem") (by simp [cutV, tl]; omega) fun D4 _ => ?_
  rw [cutV_map, cutV_map, cutV_upto _ (by decide), cutV_from _ hk1 (by simp [tl]; omega), ← List.map_drop, ← List.map_take]
  obtain ⟨qs, hq, hq4, hqm, hqn⟩ := four tl (tk_ndv c.w) (show k.toNat < 48 by omega)
  show WV c _ _ ((D4, It.list ((((((TK c.w ++ TK c.w).drop k.toNat).take 4).map (·.1)).map V.str))) :: _) _
  rw [hq]
  repeat walk_at "w"
  refine ⟨by simp, fun D5 _ => ?_⟩
  repeat walk_at "w"
  refine B_addL (by walk_at "mem") (by walk_at "mem") (by simp [hq4]) fun SG _ => ?_
  rw [show List.map V.str (qs.map (·.1)) ++ [V.str (Str.ofString "")] = wrds (sgOf qs) by simp [sgOf]]
  repeat walk_at "w"
  refine Cut_led (by walk_at "mem") (by simp [sgOf, hq4]) fun D6 _ => ?_
  rw [cutV_map, cutV_upto _ (by decide), show (sgOf qs).take (4 : Int).toNat = qs.map (·.1) by show (sgOf qs).take 4 = _; simp [sgOf, hq4]]
  refine CompC_list (xs := wrds (qs.map (·.1))) ok (by walk_at "mem") rfl rfl he (fun i acc => acc = nums ((qs.map (·.2)).take i)) (by rintro i _ rfl; simp; omega) (by simp) ?_ ?_
  · rintro i acc v D Cc I hv rfl
    obtain ⟨x, hx, rfl⟩ := wrds_get hv
    rw [List.getElem?_map] at hx
    obtain ⟨q, hq, rfl⟩ := Option.map_eq_some_iff.mp hx
    have hqm' := hqm q (List.mem_of_getElem? hq)
    refine Te_nil (ifT rfl ?_)
    repeat walk_at "w"
    refine Sub_dict ok hqm' ?_
    refine ⟨rfl, ?_, _, Fits.refl⟩
    show _ = nums ((qs.map (·.2)).take (i + 1))
    rw [take_next (show (qs.map (·.2))[i]? = some q.2 by rw [List.getElem?_map, hq]; rfl)]
    simp
  rintro D acc rfl
  rw [List.take_of_length_le (by simp)]
  repeat walk_at "w"
  refine ⟨by simp, fun D7 _ => ?_⟩
  refine B_addL (by walk_at "mem") (by walk_at "mem") (by simp [hq4]) fun SY _ => ?_
  rw [show nums (qs.map (·.2)) ++ [V.int 255, V.int 256, V.int 257, V.int 258, V.int 259, V.int 0] = nums (symOf qs) by simp [symOf, nums]]
  repeat walk_at "st2"
  refine W.fits (l' := [(SY, .list (nums (symOf qs))), (SG, .list (wrds (sgOf qs))), (c6, .cell .any), (c5, .cell .any), (c4, .cell .any), (c3, .cell .any), (c2, .cell (.ref SY)), (c1, .cell (.ref SG))]) (by walk_at "fits") ?_
  repeat walk_at "w"
  refine Cut_old hl (VsIs.ofInts hi) (by simp; omega) fun D8 _ => ?_
  rw [cutV_map, cutV_upto _ (by decide)]
  repeat walk_at "w"
  refine ⟨by simp, fun D9 _ => ?_⟩
  repeat walk_at "w"
  refine B_mulL (by walk_at "mem") (by decide) (by decide) (by decide) fun D10 _ => ?_
  rw [show (List.replicate (8 : Int).toNat [V.int 0]).flatten = nums [0, 0, 0, 0, 0, 0, 0, 0] from rfl]
  refine B_addL (by walk_at "mem") (by walk_at "mem") (by simp; omega) fun D11 _ => ?_
  rw [show List.map V.int (xs.take (8 : Int).toNat) ++ nums [0, 0, 0, 0, 0, 0, 0, 0] = nums (xs.take 8 ++ [0, 0, 0, 0, 0, 0, 0, 0]) by simp [nums]]
  repeat walk_at "w"
  refine ⟨by simp, fun D12 _ => ?_⟩
  repeat walk_at "w"
  refine F_zip (by walk_at "mem") (by walk_at "mem") fun z TI TO' i1 i2 => ?_
  refine CompC_zip ok (by walk_at "mem") (by walk_at "mem") rfl rfl rfl (by decide) he (fun i acc => ∃ cs : List Int, acc = nums cs ∧ cs.length = i ∧ i ≤ 8 ∧ ∀ x ∈ cs, 0 ≤ x ∧ x < 50) (by rintro i _ ⟨cs, rfl, h1, h2, _⟩; simp; omega) ⟨[], rfl, rfl, by omega, by simp⟩ ?_ ?_
  · rintro i acc u v T D Cc hu hv ⟨cs, rfl, hc1, hc2, hc3⟩
    obtain ⟨x, hx, rfl⟩ := nums_get' hu
    obtain ⟨y, hy, rfl⟩ := nums_get' (xs := [37, 0, 18, 41, 2, 24, 15, 6]) hv
    refine Te_nil (ifT rfl ?_)
    repeat walk_at "w"
    refine ⟨rfl, ⟨cs ++ [(x + y).fmod 50], by simp [nums], by simp [hc1], ?_, ?_⟩, _, Fits.drop Fits.refl⟩
    · have := (List.getElem?_eq_some_iff.mp hy).1
      simp at this; omega
    · intro q hq
      rcases List.mem_append.mp hq with hq | hq
      · exact hc3 q hq
      · rw [List.mem_singleton.mp hq]
        exact ⟨by rw [Int.fmod_eq_emod_of_nonneg _ (by decide)]; exact Int.emod_nonneg _ (by decide), Int.fmod_lt_of_pos _ (by decide)⟩
  rintro CE acc ⟨cs, rfl, hc1, hc2, hc3⟩
  have hc8 : cs.length = 8 := by rw [hc1]; simp
  clear hc1 hc2
  refine ⟨_, by walk_at "put", ?_⟩
  refine W.fits (l' := [(CE, .list (nums cs)), (SY, .list (nums (symOf qs))), (SG, .list (wrds (sgOf qs))), (c6, .cell .any), (c5, .cell .any), (c4, .cell .any), (c3, .cell .any), (c2, .cell (.ref SY)), (c1, .cell (.ref SG))]) (by walk_at "fits") ?_
  repeat walk_at "w"
  refine Comp_ints ok (by walk_at "mem") rfl rfl he (by omega) (fun x => x.fmod 10) (fun x acc D Cc p hx => ?_) fun D13 => ?_
  · repeat walk_at "w"
    exact ⟨rfl, rfl, _, Fits.refl⟩
  repeat walk_at "w"
  refine ⟨by simp, fun D14 _ => ?_⟩
  refine B_addL (by walk_at "mem") (by walk_at "mem") (by simp; omega) fun KI _ => ?_
  rw [show nums (cs.map fun x => x.fmod 10) ++ [V.int 9] = nums (kindsOf cs) by simp [kindsOf, nums]]
  repeat walk_at "w"
  have hks : ∀ k ∈ kindsOf cs, 0 ≤ k ∧ k < 10 := by
    intro k hk
    rcases List.mem_append.mp hk with hk | hk
    · obtain ⟨x, _, rfl⟩ := List.mem_map.mp hk
      exact ⟨by rw [Int.fmod_eq_emod_of_nonneg _ (by decide)]; exact Int.emod_nonneg _ (by decide), Int.fmod_lt_of_pos _ (by decide)⟩
    · rw [List.mem_singleton.mp hk]; decide
  have hsl : (symOf qs).length = 10 := by simp [symOf, hq4]
  refine Comp_ints ok (by walk_at "mem") rfl rfl he (by simp [kindsOf]; omega) (fun k => (symOf qs).getD k.toNat 0) (fun x acc D Cc p hx => ?_) fun TO => ?_
  · obtain ⟨h1, h2⟩ := hks x hx
    repeat walk_at "w"
    refine Sub_ints (xs := symOf qs) (by walk_at "mem") h1 (by omega) (by omega) ?_
    exact ⟨rfl, rfl, _, Fits.refl⟩
  refine ⟨_, by walk_at "put", ?_⟩
  change WF c _ _ ((TO, It.list (nums (toldOf qs cs))) :: _) _
  refine W.fits (l' := [(TO, .list (nums (toldOf qs cs))), (KI, .list (nums (kindsOf cs))), (CE, .list (nums cs)), (SY, .list (nums (symOf qs))), (SG, .list (wrds (sgOf qs))), (c6, .cell .any), (c5, .cell .any), (c4, .cell .any), (c3, .cell .any), (c2, .cell (.ref SY)), (c1, .cell (.ref SG))]) (by walk_at "fits") ?_
  exact h qs cs SG SY CE KI TO hq4 hqm hqn hc8 hc3
/-! # Bv -/
theorem F_popI {c : C} {m : Nm} {l l' : Lg} {K : V → Nm → Lg → Prop} {a : Addr} {xs : List Int} {x : Int} (hm : (a, It.list (nums (xs ++ [x]))) ∈ l) (u : Put a (.list (nums xs)) l l') (hz : xs.length ≤ 1000) (h : K (.int x) m l') : CallA c (.raw (.builtin "list.pop")) [.ref a] m l K :=
  F_pop (vs := nums xs) (v := .int x) (by simpa [nums] using hm) u (by simpa [nums] using hz) h
theorem drop2 {ts : List Int} (q : (ts ++ [0]).drop ((ts ++ [0]).length - 2) = [0, 0]) : ∃ r, ts = r ++ [0] := by
  rcases List.eq_nil_or_concat ts with rfl | ⟨r, x, rfl⟩
  · simp at q
  · refine ⟨r, ?_⟩
    have e : (r.concat x ++ [0]).drop ((r.concat x ++ [0]).length - 2) = [x, 0] := by simp
    rw [e] at q
    simp at q
    rw [q]; simp
theorem ndrop2 {ts : List Int} (q : ¬ (ts ++ [0]).drop ((ts ++ [0]).length - 2) = [0, 0]) : ts = [] ∨ ∃ r x, ts = r ++ [x] ∧ x ≠ 0 := by
  rcases List.eq_nil_or_concat ts with rfl | ⟨r, x, rfl⟩
  · exact .inl rfl
  · refine .inr ⟨r, x, by simp, fun e => q ?_⟩
    have e2 : (r.concat x ++ [0]).drop ((r.concat x ++ [0]).length - 2) = [x, 0] := by simp
    rw [e2, e]
theorem law2 {c : C} {KF' : Fl → Nm → Lg → Prop} {fa al c1 c2 c3 c4 c5 c6 CE KI TO : Addr} {cd : Value} {told : List Int} {L0 : Lg} (ok : c.Ok) (hn : 100 ≤ c.n) (he : c.env = envX "law" lawScope c.L fa cd [("ends", c6), ("best", c5), ("piles", c4), ("symbol", c3), ("symbols", c2), ("signs", c1)])
    (ht : told.length = 9) (htb : ∀ d ∈ told, 0 ≤ d ∧ d < 2 ^ 9) (ht0 : ∃ r, told = r ++ [0])
    (h : ∀ (ts : List Int) (j number : Nat) (v : V), told = ts ++ [0] ++ List.replicate j 0 → number < 2 ^ 81 →
      WF c (execs (rest 9) c.env) (LM (.ref al) (.ref CE) (.ref KI) .any (.ref TO) (.int number) .any .any .any .any .any .any .any .any .any .any .any .any .any .any .any .any .any .any .any .any .any .any)
        ((TO, .list (nums (ts ++ [0]))) :: (c3, .cell v) :: L0) KF') :
    WF c (execs (rest 5) c.env) (LM (.ref al) (.ref CE) (.ref KI) .any (.ref TO) .any .any .any .any .any .any .any .any .any .any .any .any .any .any .any .any .any .any .any .any .any .any .any)
        ((TO, .list (nums told)) :: (c3, .cell .any) :: L0) KF' := by
  revert he
  refine scope_cast (P := fun sc => c.env = envX "law" sc c.L fa cd _ → _) rfl ?_
  intro he
  refine rest_cast rfl ?_
  repeat walk_at "w"
  refine F_reversed (by walk_at "mem") fun I _ => ?_
  have xl : (nums told).length = 9 := by simp [ht]
  refine For_rev (xs := nums told) (l' := (TO, .list (nums told)) :: (c3, .cell .any) :: L0) ok (by walk_at "mem") (by walk_at "pick") (fun i m' l' => ∃ v, m' = LM (.ref al) (.ref CE) (.ref KI) .any (.ref TO) (.int (numOf 9 (told.drop (9 - i)))) .any .any .any .any .any .any .any .any .any .any .any .any .any .any .any .any .any .any .any .any .any .any ∧
      l' = (TO, .list (nums told)) :: (c3, .cell v) :: L0) ?_ ?_ ?_ ?_
  · rintro i m' l' ⟨v, rfl, rfl⟩
    walk_at "mem"
  · refine ⟨.any, ?_, rfl⟩
    rw [Nat.sub_zero, List.drop_of_length_le (by omega)]; rfl
  · rintro i m' l' x hi hx ⟨v, rfl, rfl⟩
    rw [xl] at hi hx
    obtain ⟨d, hd, rfl⟩ := nums_get' hx
    repeat walk_at "w"
    refine B_mul ?_ (IntMulOk.of_le (m := 64) (n := 200) (intBits_le_iff.mpr (by decide)) (Nat.le_trans (bits_of_lt (numOf_bound fun d hd => htb d (List.mem_of_mem_drop hd)).1 (numOf_bound fun d hd => htb d (List.mem_of_mem_drop hd)).2) (by simp [ht]; omega)) (by decide))
    repeat walk_at "w"
    have e : 512 * numOf 9 (told.drop (9 - i)) + d = numOf 9 (told.drop (9 - (i + 1))) := by
      obtain ⟨hlt, hget⟩ := List.getElem?_eq_some_iff.mp hd
      rw [show 9 - (i + 1) = 9 - 1 - i by omega, List.drop_eq_getElem_cons hlt, show 9 - 1 - i + 1 = 9 - i by omega, hget]
      simp only [numOf]
      omega
    rw [e]
    repeat walk_at "w"
    exact ⟨_, Fits.refl, _, rfl, rfl⟩
  · rintro m' l' ⟨v, rfl, rfl⟩
    rw [xl, Nat.sub_self, List.drop_zero]
    have nb := numOf_bound htb
    rw [ht] at nb
    obtain ⟨number, hnum⟩ := Int.eq_ofNat_of_zero_le nb.1
    have hn81 : number < 2 ^ 81 := by
      have := nb.2
      rw [hnum] at this
      exact_mod_cast this
    rw [hnum]
    repeat walk_at "w"
    obtain ⟨r0, hr0⟩ := ht0
    refine S_While (fun n m' l' => ∃ (ts : List Int) (j : Nat), n = ts.length ∧ m' = LM (.ref al) (.ref CE) (.ref KI) .any (.ref TO) (.int number) .any .any .any .any .any .any .any .any .any .any .any .any .any .any .any .any .any .any .any .any .any .any ∧
      Fits l' ((TO, .list (nums (ts ++ [0]))) :: (c3, .cell v) :: L0) ∧ told = ts ++ [0] ++ List.replicate j 0) (n := r0.length) ⟨r0, 0, rfl, rfl, by rw [hr0]; exact Fits.refl, by simp [hr0]⟩ ?_
    rintro n m' l' ⟨ts, j, rfl, rfl, hfit, htd⟩
    refine W.fits hfit ?_
    clear hfit
    have htl : ts.length + 1 + j = 9 := by rw [← ht, htd]; simp; omega
    have htm : ∀ d ∈ ts, 0 ≤ d ∧ d < 2 ^ 9 := fun d hd => htb d (by rw [htd]; simp [hd])
    repeat walk_at "w"
    refine Cut_led (by walk_at "mem") (by simp; omega) fun D1 _ => ?_
    rw [cutV_map, cutV_last2]
    repeat walk_at "w"
    refine ⟨by simp, fun D2 _ => ?_⟩
    refine C_eqL (xs := (ts ++ [0]).drop ((ts ++ [0]).length - 2)) (ys := [0, 0]) ok (by omega) (.tail _ (.head _)) (.head _) ?_
    repeat walk_at "w"
    refine ifD (fun q => ?_) (fun q => ?_)
    · obtain ⟨r, rfl⟩ := drop2 q
      repeat walk_at "w"
      refine F_popI (xs := r ++ [0]) (x := 0) (by walk_at "mem") (by walk_at "put") (by simp at htl ⊢; omega) ⟨rfl, ?_⟩
      repeat walk_at "w"
      refine ⟨r.length, by simp, r, j + 1, rfl, rfl, by walk_at "fits", ?_⟩
      rw [htd, List.replicate_succ]; simp
    · have hlast := ndrop2 q
      have hnt : ((number : Nat) : Int) = numOf 9 ts := by
        rw [← hnum, htd, List.append_assoc, show [0] ++ List.replicate j (0 : Int) = List.replicate (j + 1) 0 from rfl, numOf_zeros]
      repeat walk_at "w"
      refine f_i2d (n := 9) ok (by omega) (by decide) (by decide) hn81 fun D3 => ?_
      rw [strip htm hlast hnt]
      repeat walk_at "w"
      refine ⟨by simp, fun D4 _ => ?_⟩
      refine B_addL (by walk_at "mem") (by walk_at "mem") (by simp; omega) fun D5 _ => ?_
      rw [show nums ts ++ [V.int 0] = nums (ts ++ [0]) by simp [nums]]
      repeat walk_at "w"
      refine C_neL (xs := ts ++ [0]) (ys := ts ++ [0]) ok (by omega) (by walk_at "mem") (by walk_at "mem") ?_
      repeat walk_at "w"
      refine ifF (by simp) ?_
      repeat walk_at "w0"
      refine W.fits (l' := (TO, .list (nums (ts ++ [0]))) :: (c3, .cell v) :: L0) (by walk_at "fits") ?_
      exact h ts j number v htd hn81
/-! # Bw -/
noncomputable def lineOf (qs : List (Str × Int)) (cs : List Int) : List Int := cs.map fun x => (symOf qs).getD (x.fdiv 10).toNat 0
noncomputable def writOf (qs : List (Str × Int)) (cs : List Int) : List Int := cs.map fun x => 256 + (((sgOf qs).getD (x.fdiv 10).toNat (Str.ofString "")).length : Int)
theorem wrds_at {xs : List Str} {k : Nat} (h : k < xs.length) : (wrds xs)[k]? = some (.str (xs.getD k (Str.ofString ""))) := by
  simp [wrds, List.getD, h]
theorem law3 {c : C} {KF' : Fl → Nm → Lg → Prop} {fa al c1 c2 c3 c4 c5 c6 CE KI TO SY SG : Addr} {cd : Value} {ts cs : List Int} {qs : List (Str × Int)} {number : Nat} {v : V} (ok : c.Ok) (hn : 100 ≤ c.n) (he : c.env = envX "law" lawScope c.L fa cd [("ends", c6), ("best", c5), ("piles", c4), ("symbol", c3), ("symbols", c2), ("signs", c1)])
    (hq : qs.length = 4) (hqt : ∀ q ∈ qs, q ∈ TK c.w) (hc : cs.length = 8) (hcb : ∀ x ∈ cs, 0 ≤ x ∧ x < 50) (hn81 : number < 2 ^ 81)
    (h : ∀ (laps : Int) (LI WR P B : Addr), 0 ≤ laps → laps < 2 ^ 27 →
      WF c (execs (rest 12) c.env) (LM (.ref al) (.ref CE) (.ref KI) .any (.ref TO) (.int number) (.ref LI) (.ref WR) (.int laps) (.int 255) (.int 0) (.int 1) .any .any .any .any .any .any .any .any .any .any .any .any .any .any .any .any)
        [(TO, .list (nums ts)), (KI, .list (nums (kindsOf cs))), (LI, .list (nums (lineOf qs cs))), (WR, .list (nums (writOf qs cs))), (CE, .list (nums cs)), (SG, .list (wrds (sgOf qs))), (P, .list (nums [])), (B, .list (nums [0, 0, 0, 0, 0, 0, 0, 0, 0])), (c6, .cell .any), (c5, .cell (.ref B)), (c4, .cell (.ref P)), (c3, .cell v), (c1, .cell (.ref SG))] KF') :
    WF c (execs (rest 9) c.env) (LM (.ref al) (.ref CE) (.ref KI) .any (.ref TO) (.int number) .any .any .any .any .any .any .any .any .any .any .any .any .any .any .any .any .any .any .any .any .any .any)
        [(TO, .list (nums ts)), (c3, .cell v), (KI, .list (nums (kindsOf cs))), (CE, .list (nums cs)), (SY, .list (nums (symOf qs))), (SG, .list (wrds (sgOf qs))), (c6, .cell .any), (c5, .cell .any), (c4, .cell .any), (c2, .cell (.ref SY)), (c1, .cell (.ref SG))] KF' := by
  revert he
  refine scope_cast (P := fun sc => c.env = envX "law" sc c.L fa cd _ → _) rfl ?_
  intro he
  refine rest_cast rfl ?_
  have hsl : (symOf qs).length = 10 := by simp [symOf, hq]
  have hgl : (sgOf qs).length = 5 := by simp [sgOf, hq]
  have dv : ∀ x ∈ cs, 0 ≤ x.fdiv 10 ∧ x.fdiv 10 < 5 := fun x hx => by
    obtain ⟨h0, h1⟩ := hcb x hx
    rw [Int.fdiv_eq_ediv_of_nonneg _ (by decide)]; omega
  repeat walk_at "w"
  refine Comp_ints ok (by walk_at "mem") rfl rfl he (by omega) (fun x => (symOf qs).getD (x.fdiv 10).toNat 0) (fun x acc D Cc p hx => ?_) fun LI => ?_
  · obtain ⟨h1, h2⟩ := dv x hx
    repeat walk_at "w"
    refine Sub_ints (xs := symOf qs) (by walk_at "mem") h1 (by omega) (by omega) ?_
    exact ⟨rfl, rfl, _, Fits.refl⟩
  refine ⟨_, by walk_at "put", ?_⟩
  repeat walk_at "w"
  refine Comp_ints ok (by walk_at "mem") rfl rfl he (by omega) (fun x => 256 + (((sgOf qs).getD (x.fdiv 10).toNat (Str.ofString "")).length : Int)) (fun x acc D Cc p hx => ?_) fun WR => ?_
  · obtain ⟨h1, h2⟩ := dv x hx
    have hsg : ∀ s ∈ sgOf qs, s.length ≤ 1000 := by
      intro s hs
      rcases List.mem_append.mp hs with hs | hs
      · obtain ⟨q, hq', rfl⟩ := List.mem_map.mp hs
        have := List.all_eq_true.mp (tk_ok c.w) q (hqt q hq')
        simp only [Bool.and_eq_true, decide_eq_true_eq] at this
        omega
      · rw [List.mem_singleton.mp hs]; decide
    repeat walk_at "w"
    refine Sub_list (by walk_at "mem") h1 (by omega) (wrds_at (by omega)) ?_
    repeat walk_at "w"
    refine F_lenS (hsg _ (by
      have : (x.fdiv 10).toNat < (sgOf qs).length := by omega
      simp only [List.getD, List.getElem?_eq_getElem this, Option.getD_some]; exact List.getElem_mem this)) ?_
    repeat walk_at "w"
    exact ⟨rfl, rfl, _, Fits.refl⟩
  refine ⟨_, by walk_at "put", ?_⟩
  repeat walk_at "w"
  refine B_shl ?_ (by decide) (by decide) (by decide)
  rw [show (1 : Int) * 2 ^ (27 : Int).toNat = 134217728 from rfl]
  have l0 : 0 ≤ (number : Int).fmod 134217728 := by rw [Int.fmod_eq_emod_of_nonneg _ (by decide)]; exact Int.emod_nonneg _ (by decide)
  have l1 : (number : Int).fmod 134217728 < 2 ^ 27 := Int.fmod_lt_of_pos _ (by decide)
  repeat walk_at "w"
  generalize (number : Int).fmod 134217728 = laps at l0 l1 ⊢
  refine ⟨by simp, fun P _ => ?_⟩
  repeat walk_at "w"
  refine ⟨by simp, fun D1 _ => ?_⟩
  repeat walk_at "w"
  refine B_mulL (by walk_at "mem") (by decide) (by decide) (by decide) fun B _ => ?_
  rw [show (List.replicate (9 : Int).toNat [V.int 0]).flatten = nums [0, 0, 0, 0, 0, 0, 0, 0, 0] from rfl]
  repeat walk_at "w"
  refine ⟨by simp, fun D2 _ => ?_⟩
  repeat walk_at "w2"
  change WF c _ _ ((D2, _) :: (B, _) :: (D1, _) :: (P, It.list (nums [])) :: (WR, It.list (nums (writOf qs cs))) :: (LI, It.list (nums (lineOf qs cs))) :: _) _
  refine W.fits ?_ (h laps LI WR P B l0 l1)
  walk_at "fits"
/-! # Ca -/
noncomputable def loopOf : Option (List Stmt) := (restOf 12).bind fun l => match l with
  | .For _ _ b _ _ :: _ => some b
  | _ => none
noncomputable def lb (k : Nat) : List Stmt := (loopOf.getD []).drop k
noncomputable def lbOf (k : Nat) : Option (List Stmt) := loopOf.map fun p => p.drop k
theorem lb_cast {c : C} {k : Nat} {env : Env} {m : Nm} {l : Lg} {KF' : Fl → Nm → Lg → Prop} {st : Stmt} {b : List Stmt} (hl : lbOf k = some (st :: b)) (h : WF c (execs (st :: b) env) m l KF') : WF c (execs (lb k) env) m l KF' := by
  have : lb k = st :: b := by
    unfold lb; unfold lbOf at hl
    cases e : loopOf with
    | none => rw [e] at hl; cases hl
    | some p => rw [e] at hl; exact Option.some.inj hl
  rw [this]; exact h
noncomputable def Stop (P : Prop) : Prop := P
theorem Stop.mk {P : Prop} (h : P) : Stop P := h
theorem seg {c : C} {k : Nat} {env : Env} {m : Nm} {l : Lg} {KF' : Fl → Nm → Lg → Prop} {st : Stmt} {b : List Stmt} (hl : lbOf k = some (st :: b)) (h : WF c (exec st env) m l fun f m1 l1 => Stop (match f with | .next => WF c (execs (lb (k + 1)) env) m1 l1 KF' | f => KF' f m1 l1)) : WF c (execs (lb k) env) m l KF' := by
  refine lb_cast hl (S_cons (W.mono h ?_))
  intro f m' l' hs
  have e : lb (k + 1) = b := by
    have : lb k = st :: b := by
      unfold lb; unfold lbOf at hl
      cases e : loopOf with
      | none => rw [e] at hl; cases hl
      | some p => rw [e] at hl; exact Option.some.inj hl
    unfold lb at this ⊢
    rw [← List.drop_drop, List.drop_one, this]; rfl
  rw [e] at hs
  exact hs
noncomputable abbrev LL (TO KI LI WR CE SG P B c6 c5 c4 c3 c1 : Addr) (ts ks li wr cs : List Int) (sg : List Str) (piles best : List Int) (v6 v3 : V) (X : Lg) : Lg :=
  (TO, .list (nums ts)) :: (KI, .list (nums ks)) :: (LI, .list (nums li)) :: (WR, .list (nums wr)) :: (CE, .list (nums cs)) :: (SG, .list (wrds sg)) :: (P, .list (nums piles)) :: (B, .list (nums best)) :: (c6, .cell v6) :: (c5, .cell (.ref B)) :: (c4, .cell (.ref P)) :: (c3, .cell v3) :: (c1, .cell (.ref SG)) :: X
noncomputable abbrev EnvOk (c : C) (fa : Addr) (cd : Value) (c1 c2 c3 c4 c5 c6 : Addr) : Prop := c.env = envX "law" lawScope c.L fa cd [("ends", c6), ("best", c5), ("piles", c4), ("symbol", c3), ("symbols", c2), ("signs", c1)]
theorem turn0 {c : C} {KF' : Fl → Nm → Lg → Prop} {fa al c1 c2 c3 c4 c5 c6 TO KI LI WR CE SG P B : Addr} {cd : Value} {ts ks li wr cs : List Int} {sg : List Str} {piles best : List Int} {v6 : V} {X : Lg} {σ κ : Int} {number laps ones marks side lone j due known mask hit both whole more carried less lent before place plain grown : V}
    (ok : c.Ok) (hn : 100 ≤ c.n) (he : EnvOk c fa cd c1 c2 c3 c4 c5 c6) (hc : (κ = 9 ∧ σ = 0) ∨ (0 ≤ κ ∧ κ < 5 ∧ κ < σ ∧ σ < 256) ∨ (5 ≤ κ ∧ κ < 9 ∧ 256 ≤ σ ∧ σ < 260))
    (h : ∀ lone, WF c (execs (lb 2) c.env) (LM (.ref al) (.ref CE) (.ref KI) (.int κ) (.ref TO) number (.ref LI) (.ref WR) laps ones marks side lone j due known mask hit both whole more carried less lent before place plain grown) (LL TO KI LI WR CE SG P B c6 c5 c4 c3 c1 ts ks li wr cs sg piles best v6 (.int σ) X) KF') :
    WF c (execs (lb 0) c.env) (LM (.ref al) (.ref CE) (.ref KI) (.int κ) (.ref TO) number (.ref LI) (.ref WR) laps ones marks side lone j due known mask hit both whole more carried less lent before place plain grown) (LL TO KI LI WR CE SG P B c6 c5 c4 c3 c1 ts ks li wr cs sg piles best v6 (.int σ) X) KF' := by
  revert he
  refine scope_cast (P := fun sc => c.env = envX "law" sc c.L fa cd _ → _) rfl ?_
  intro he
  refine seg rfl ?_
  rcases hc with ⟨rfl, rfl⟩ | ⟨k0, k1, k2, k3⟩ | ⟨k0, k1, k2, k3⟩
  · repeat walk_at "w"
    refine Stop.mk (seg rfl ?_)
    repeat walk_at "w"
    refine f_eof ok (by omega) ?_
    repeat walk_at "w"
    refine f_ter ok (by omega) ?_
    repeat walk_at "w"
    refine f_non ok (by omega) ?_
    repeat walk_at "w"
    exact h _
  · have s0 : (σ == 0) = false := beq_eq_false_iff_ne.mpr (by omega)
    have k9 : (κ == 9) = false := beq_eq_false_iff_ne.mpr (by omega)
    have st : decide (σ < 256) = true := decide_eq_true k3
    have sn : decide (256 ≤ σ) = false := decide_eq_false (by omega)
    have k5 : decide (κ < 5) = true := decide_eq_true k1
    repeat walk_at "w"
    refine ifT k5 ?_
    repeat walk_at "w"
    refine Stop.mk (seg rfl ?_)
    repeat walk_at "w"
    refine f_eof ok (by omega) ?_
    repeat walk_at "w"
    refine ifT (by rw [s0, k9]; rfl) ?_
    repeat walk_at "w"
    refine f_ter ok (by omega) ?_
    repeat walk_at "w"
    refine ifT (by rw [st, k5]; rfl) ?_
    repeat walk_at "w"
    refine f_non ok (by omega) ?_
    repeat walk_at "w"
    refine ifT (by rw [sn, k5]; rfl) ?_
    repeat walk_at "w"
    exact h _
  · have s0 : (σ == 0) = false := beq_eq_false_iff_ne.mpr (by omega)
    have k9 : (κ == 9) = false := beq_eq_false_iff_ne.mpr (by omega)
    have st : decide (σ < 256) = false := decide_eq_false (by omega)
    have sn : decide (256 ≤ σ) = true := decide_eq_true k2
    have k5 : decide (κ < 5) = false := decide_eq_false (by omega)
    repeat walk_at "w"
    refine ifF k5 ?_
    repeat walk_at "w"
    refine Stop.mk (seg rfl ?_)
    repeat walk_at "w"
    refine f_eof ok (by omega) ?_
    repeat walk_at "w"
    refine ifT (by rw [s0, k9]; rfl) ?_
    repeat walk_at "w"
    refine f_ter ok (by omega) ?_
    repeat walk_at "w"
    refine ifT (by rw [st, k9]; rfl) ?_
    repeat walk_at "w"
    refine f_non ok (by omega) ?_
    repeat walk_at "w"
    refine ifT (by rw [sn, k9]; rfl) ?_
    repeat walk_at "w"
    exact h _
/-! # Cb -/
theorem mulOk {a b : Int} (ha : a.natAbs < 2 ^ 60) (hb : b.natAbs < 2 ^ 60) : IntMulOk a b := IntMulOk.of_le (m := 60) (n := 60) (intBits_le_iff.mpr ha) (intBits_le_iff.mpr hb) (by decide)
section
variable {c : C} {m : Nm} {l : Lg} {KF' : Fl → Nm → Lg → Prop} {env' : Env} {pos tp : Pos} {es : List Expr} {k : Nat} {e : Expr} {ns : List Str}
theorem S_AssignSwapE (ok : c.Ok) (he : c.env = env') (h2 : swappedStores [.Tuple es k tp] e env' = pure (some ns)) (h1 : swapsWithSole [.Tuple es k tp] e pos.line c.env = pure false) (h : WV c (eval e c.env) m l fun v m1 l1 => Swp c c.env ns v m1 l1 fun _ m2 l2 => KF' .next m2 l2) : WF c (exec (.Assign [.Tuple es k tp] e pos) c.env) m l KF' :=
  S_AssignSwap ok h h1 (by rw [he]; exact h2)
theorem S_AssignTupE (he : c.env = env') (h2 : swappedStores [.Tuple es k tp] e env' = pure none) (h1 : swapsWithSole [.Tuple es k tp] e pos.line c.env = pure false) (h : WV c (eval e c.env) m l fun v m1 l1 => Asg c (.Tuple es k tp) c.env v m1 l1 fun _ m2 l2 => KF' .next m2 l2) : WF c (exec (.Assign [.Tuple es k tp] e pos) c.env) m l KF' :=
  S_AssignTup h h1 (by rw [he]; exact h2)
end
theorem turnA {c : C} {KF' : Fl → Nm → Lg → Prop} {fa al c1 c2 c3 c4 c5 c6 TO KI LI WR CE SG P B KA : Addr} {cd : Value} {ts ks li wr cs kn : List Int} {sg : List Str} {piles best : List Int} {v6 : V} {X : Lg} {σ κ laps side : Int} {em : List (Bool × Bool)} {number lone j due known mask hit both whole more carried less lent before place plain grown : V}
    (ok : c.Ok) (hn : 100 ≤ c.n) (he : EnvOk c fa cd c1 c2 c3 c4 c5 c6) (h8 : em.length = 8) (hk0 : 0 ≤ κ) (hk1 : κ < σ) (hs9 : σ < 260) (hsd : side = 1 ∨ side = -1) (hl0 : 0 ≤ laps) (hl1 : laps < 2 ^ 27)
    (hka : (σ < 256 ∧ KA = LI ∧ kn = li) ∨ (256 ≤ σ ∧ KA = WR ∧ kn = wr)) (hkn : kn.map (fun x => x == σ) = em.map (·.2))
    (h : ∀ mask hit both whole carried lent, WF c (execs (lb 11) c.env) (LM (.ref al) (.ref CE) (.ref KI) (.int κ) (.ref TO) number (.ref LI) (.ref WR) (.int laps) (.int (255 - val (outs false em))) (.int (val (outs false em))) (.int side) lone j due (.ref KA) mask hit both whole (.int (b2i (last false em) + laps)) carried (.int (b2i (last false em) - 1 - laps)) lent before place plain grown) (LL TO KI LI WR CE SG P B c6 c5 c4 c3 c1 ts ks li wr cs sg piles best v6 (.int σ) X) KF') :
    WF c (execs (lb 2) c.env) (LM (.ref al) (.ref CE) (.ref KI) (.int κ) (.ref TO) number (.ref LI) (.ref WR) (.int laps) (.int (255 - val (em.map (·.1)))) (.int (val (em.map (·.1)))) (.int side) lone j due known mask hit both whole more carried less lent before place plain grown) (LL TO KI LI WR CE SG P B c6 c5 c4 c3 c1 ts ks li wr cs sg piles best v6 (.int σ) X) KF' := by
  revert he
  refine scope_cast (P := fun sc => c.env = envX "law" sc c.L fa cd _ → _) rfl ?_
  intro he
  refine seg rfl ?_
  repeat walk_at "w"
  refine f_eof ok (by omega) ?_
  repeat walk_at "w"
  refine ifF (beq_eq_false_iff_ne.mpr (by omega)) ?_
  repeat walk_at "w"
  refine Stop.mk (seg rfl ?_)
  suffices main : WF c (execs (lb 4) c.env) (LM (.ref al) (.ref CE) (.ref KI) (.int κ) (.ref TO) number (.ref LI) (.ref WR) (.int laps) (.int (255 - val (em.map (·.1)))) (.int (val (em.map (·.1)))) (.int side) lone j due (.ref KA) mask hit both whole more carried less lent before place plain grown) (LL TO KI LI WR CE SG P B c6 c5 c4 c3 c1 ts ks li wr cs sg piles best v6 (.int σ) X) KF' by
    repeat walk_at "w"
    refine f_ter ok (by omega) ?_
    repeat walk_at "w"
    rcases hka with ⟨hs, rfl, rfl⟩ | ⟨hs, rfl, rfl⟩
    · refine ifT (decide_eq_true hs) ?_
      repeat walk_at "w"
      exact main
    · refine ifF (decide_eq_false (by omega)) ?_
      repeat walk_at "w"
      exact main
  refine seg rfl ?_
  have hm : (KA, It.list (nums kn)) ∈ LL TO KI LI WR CE SG P B c6 c5 c4 c3 c1 ts ks li wr cs sg piles best v6 (.int σ) X := by
    rcases hka with ⟨_, rfl, rfl⟩ | ⟨_, rfl, rfl⟩
    · exact .tail _ (.tail _ (.head _))
    · exact .tail _ (.tail _ (.tail _ (.head _)))
  have hkl : kn.length = 8 := by have := congrArg List.length hkn; simpa [h8] using this
  repeat walk_at "w"
  refine Comp_ints ok hm rfl rfl he (by omega) (fun x => b2i (x == σ)) (fun x acc D Cc p hx => ?_) fun D1 => ?_
  · repeat walk_at "w"
    refine F_intB ?_
    exact ⟨rfl, rfl, _, Fits.refl⟩
  repeat walk_at "w"
  have hb1 : kn.map (fun x => b2i (x == σ)) = bits (em.map (·.2)) := by rw [← hkn]; simp [bits]
  rw [hb1]
  refine f_d2i (n := 1) ok (by omega) (by decide) (by walk_at "mem") (by simp [bits, h8]) (fun d hd => ?_) ?_
  · obtain ⟨b, _, rfl⟩ := List.mem_map.mp hd
    have := b2i_bound b; omega
  rw [val_num]
  repeat walk_at "w"
  refine Stop.mk (W.fits (l' := LL TO KI LI WR CE SG P B c6 c5 c4 c3 c1 ts ks li wr cs sg piles best v6 (.int σ) X) (by walk_at "fits") (seg rfl ?_))
  refine S_AssignSwapE (ns := ["hit", "both", "whole"]) ok he rfl rfl ?_
  have hO : val (em.map fun p => !p.1) = 255 - val (em.map (·.1)) := by rw [val_not, h8]; rfl
  have tB := turnB h8 (laps := laps)
  have tC := turnC h8 (laps := laps)
  rw [hO] at tB
  have bM := val_bound (em.map (·.1))
  have bm := val_bound (em.map (·.2))
  rw [List.length_map, h8] at bM bm
  have bH := bitAnd_range (255 - val (em.map (·.1))) bm.1
  have bO : 0 ≤ Builtin.bitOr (val (em.map (·.1))) (val (em.map (·.2))) ∧ Builtin.bitOr (val (em.map (·.1))) (val (em.map (·.2))) < 256 := by
    have := val_bound (em.map fun p => p.1 || p.2)
    rw [val_or]
    rw [List.length_map, h8] at this
    exact this
  generalize val (em.map (·.2)) = Mm at bm tB tC bH bO ⊢
  generalize val (em.map (·.1)) = Mk at bM tB tC bH bO ⊢
  repeat walk_at "w"
  refine B_and ?_
  generalize Builtin.bitAnd (255 - Mk) Mm = H at tB bH ⊢
  repeat walk_at "w"
  refine B_or ?_
  generalize Builtin.bitOr Mk Mm = BO at tC bO ⊢
  repeat walk_at "w"
  refine B_mul ?_ (mulOk (by omega) (by decide))
  repeat walk_at "w"
  refine B_mul ?_ (mulOk (by omega) (by omega))
  repeat walk_at "w"
  refine ⟨by simp, fun T _ => Swp_mk (by walk_at "mem") rfl ?_⟩
  show AsgN c c.env ["whole", "both", "hit"] [.int _, .int _, .int _] _ _ _
  refine AsgN_cons ?_
  walk_at "st2"
  refine AsgN_cons ?_
  walk_at "st2"
  refine AsgN_cons ?_
  walk_at "st2"
  refine AsgN_nil ?_
  refine Stop.mk (W.fits (l' := LL TO KI LI WR CE SG P B c6 c5 c4 c3 c1 ts ks li wr cs sg piles best v6 (.int σ) X) (by walk_at "fits") (seg rfl ?_))
  obtain ⟨Xb, hXb, hXq, hXm⟩ := tB
  obtain ⟨Yc, hYc, hYq, hYm⟩ := tC
  have bX : 0 ≤ σ * Xb ∧ σ * Xb < 2 ^ 50 := by
    have h0 : 0 ≤ Xb := by omega
    have h1 : σ * Xb ≤ 260 * Xb := Int.mul_le_mul_of_nonneg_right (by omega) h0
    exact ⟨Int.mul_nonneg (by omega) h0, by omega⟩
  have bY : -2 ^ 50 < σ * Yc ∧ σ * Yc < 2 ^ 50 := by
    have h1 : σ * (Yc + 2 ^ 36) ≤ 260 * (Yc + 2 ^ 36) := Int.mul_le_mul_of_nonneg_right (by omega) (by omega)
    have h2 : 0 ≤ σ * (Yc + 2 ^ 36) := Int.mul_nonneg (by omega) (by omega)
    have h3 : σ * (Yc + 2 ^ 36) = σ * Yc + σ * 2 ^ 36 := Int.mul_add ..
    omega
  obtain ⟨d1, d2, d3⟩ := divs (X := Xb) hsd (by omega : 0 < σ) hk0 hk1
  obtain ⟨g1, g2, g3⟩ := divs (X := Yc) hsd (by omega : 0 < σ) hk0 hk1
  repeat walk_at "w"
  refine B_mul ?_ (mulOk (by decide) (by omega))
  repeat walk_at "w"
  rw [show 255 - Mk + H + 256 * laps = Xb from hXb.symm]
  refine B_mul ?_ (mulOk (by omega) (by omega))
  repeat walk_at "w"
  refine B_mul ?_ (mulOk (by omega) (by omega))
  repeat walk_at "w"
  have bw : side * 256 * σ ≠ 0 ∧ -2 ^ 60 < side * 256 * σ ∧ side * 256 * σ < 2 ^ 60 := by rcases hsd with rfl | rfl <;> omega
  have bN : -2 ^ 60 < side * (σ * Xb + κ) ∧ side * (σ * Xb + κ) < 2 ^ 60 := by rcases hsd with rfl | rfl <;> omega
  have bN' : -2 ^ 60 < side * (σ * Yc + κ) ∧ side * (σ * Yc + κ) < 2 ^ 60 := by rcases hsd with rfl | rfl <;> omega
  have fb : ∀ x y : Int, -2 ^ 60 < x → x < 2 ^ 60 → -2 ^ 60 < y → y < 2 ^ 60 → (x.fmod y).natAbs < 2 ^ 60 := fun x y h1 h2 h3 h4 => by
    have := intBits_fmod_le (x := x) (y := y) (m := 60) (n := 60) (intBits_le_iff.mpr (by omega)) (intBits_le_iff.mpr (by omega))
    exact intBits_le_iff.mp this
  have fca := fb _ _ bN.1 bN.2 bw.2.1 bw.2.2
  have fle := fb _ _ bN'.1 bN'.2 bw.2.1 bw.2.2
  refine f_dm ok (by omega) bN.1 bN.2 bw.1 bw.2.1 bw.2.2 fun T2 => ?_
  rw [d1, hXq]
  generalize (side * (σ * Xb + κ)).fmod (side * 256 * σ) = ca at d2 d3 fca ⊢
  repeat walk_at "w"
  refine Stop.mk (W.fits (l' := LL TO KI LI WR CE SG P B c6 c5 c4 c3 c1 ts ks li wr cs sg piles best v6 (.int σ) X) (by walk_at "fits") (seg rfl ?_))
  repeat walk_at "w"
  refine B_mul ?_ (mulOk (by decide) (by omega))
  repeat walk_at "w"
  refine B_mul ?_ (mulOk (by decide) (by omega))
  repeat walk_at "w"
  rw [show BO - 2 * Mk - 1 - 256 * laps = Yc from hYc.symm]
  refine B_mul ?_ (mulOk (by omega) (by omega))
  repeat walk_at "w"
  refine B_mul ?_ (mulOk (by omega) (by omega))
  repeat walk_at "w"
  refine f_dm ok (by omega) bN'.1 bN'.2 bw.1 bw.2.1 bw.2.2 fun T3 => ?_
  rw [g1, hYq]
  generalize (side * (σ * Yc + κ)).fmod (side * 256 * σ) = le at g2 g3 fle ⊢
  repeat walk_at "w"
  refine Stop.mk (W.fits (l' := LL TO KI LI WR CE SG P B c6 c5 c4 c3 c1 ts ks li wr cs sg piles best v6 (.int σ) X) (by walk_at "fits") (seg rfl ?_))
  repeat walk_at "w"
  refine B_mul ?_ (mulOk (by omega) (by omega))
  repeat walk_at "w"
  refine B_mod ?_ (by omega)
  repeat walk_at "w"
  refine B_mul ?_ (mulOk (by omega) (by omega))
  repeat walk_at "w"
  refine B_mod ?_ (by omega)
  rw [d2, g2]
  repeat walk_at "w"
  refine ⟨by simp, fun D2 _ => ?_⟩
  repeat walk_at "w"
  refine ⟨by simp, fun D3 _ => ?_⟩
  refine C_neL (xs := [κ, κ]) (ys := [κ, κ]) ok (by omega) (.tail _ (.head _)) (.head _) ?_
  repeat walk_at "w"
  refine ifF (by simp) ?_
  repeat walk_at "w"
  refine Stop.mk (W.fits (l' := LL TO KI LI WR CE SG P B c6 c5 c4 c3 c1 ts ks li wr cs sg piles best v6 (.int σ) X) (by walk_at "fits") (seg rfl ?_))
  repeat walk_at "w"
  refine B_mul ?_ (mulOk (by omega) (by omega))
  repeat walk_at "w"
  refine B_div ?_ (by omega) (noPy (by omega))
  rw [d3]
  refine B_or ?_
  rw [hXm]
  repeat walk_at "w"
  refine Stop.mk (seg rfl ?_)
  repeat walk_at "w"
  refine B_mul ?_ (mulOk (by omega) (by omega))
  repeat walk_at "w"
  refine B_div ?_ (by omega) (noPy (by omega))
  rw [g3]
  refine B_xor ?_
  refine B_and ?_
  rw [hYm]
  repeat walk_at "w"
  exact h _ _ _ _ _ _
/-! # Cc -/
theorem setTQ {T Q : List Int} {j : Int} (h : Q ≠ []) : (T ++ Q).set T.length j = T ++ j :: Q.tail := by
  cases Q with
  | nil => exact absurd rfl h
  | cons q r => simp
theorem turnP {c : C} {KF' : Fl → Nm → Lg → Prop} {fa al c1 c2 c3 c4 c5 c6 TO KI LI WR CE SG P B KA : Addr} {cd : Value} {ts ks li wr cs kn : List Int} {sg : List Str} {best : List Int} {v6 : V} {X : Lg} {σ κ : Int} {em : List (Bool × Bool)} {number laps ones marks side lone j due mask hit both whole more carried less lent before place plain grown : V}
    (ok : c.Ok) (hn : 100 ≤ c.n) (he : EnvOk c fa cd c1 c2 c3 c4 c5 c6) (h8 : em.length = 8) 
    (hka : (σ < 256 ∧ KA = LI ∧ kn = li) ∨ (256 ≤ σ ∧ KA = WR ∧ kn = wr)) (hkn : kn.map (fun x => x == σ) = em.map (·.2))
    (h : ∀ j place, WF c (execs (lb 13) c.env) (LM (.ref al) (.ref CE) (.ref KI) (.int κ) (.ref TO) number (.ref LI) (.ref WR) laps ones marks side lone j due (.ref KA) mask hit both whole more carried less lent (.int (pos 0 (em.map (·.1))).length) place plain grown) (LL TO KI LI WR CE SG P B c6 c5 c4 c3 c1 ts ks li wr cs sg (pos 0 (outs false em)) best v6 (.int σ) X) KF') :
    WF c (execs (lb 11) c.env) (LM (.ref al) (.ref CE) (.ref KI) (.int κ) (.ref TO) number (.ref LI) (.ref WR) laps ones marks side lone j due (.ref KA) mask hit both whole more carried less lent before place plain grown) (LL TO KI LI WR CE SG P B c6 c5 c4 c3 c1 ts ks li wr cs sg (pos 0 (em.map (·.1))) best v6 (.int σ) X) KF' := by
  revert he
  refine scope_cast (P := fun sc => c.env = envX "law" sc c.L fa cd _ → _) rfl ?_
  intro he
  refine seg rfl ?_
  refine S_AssignSwapE (ns := ["before", "place"]) ok he rfl rfl ?_
  have pl := pos_len 0 (em.map (·.1))
  rw [List.length_map, h8] at pl
  repeat walk_at "w"
  refine F_lenI (by walk_at "mem") (by omega) ?_
  repeat walk_at "w"
  refine ⟨by simp, fun T _ => Swp_mk (by walk_at "mem") rfl ?_⟩
  show AsgN c c.env ["place", "before"] [.none, .int _] _ _ _
  refine AsgN_cons ?_
  walk_at "st2"
  refine AsgN_cons ?_
  walk_at "st2"
  refine AsgN_nil ?_
  refine Stop.mk (W.fits (l' := LL TO KI LI WR CE SG P B c6 c5 c4 c3 c1 ts ks li wr cs sg (pos 0 (em.map (·.1))) best v6 (.int σ) X) (by walk_at "fits") (seg rfl ?_))
  repeat walk_at "w"
  refine F_range3 (by decide) (by decide) fun RG _ => ?_
  have hkl : kn.length = 8 := by have := congrArg List.length hkn; simpa [h8] using this
  have p8 : pil em 8 = pos 0 (em.map (·.1)) := by unfold pil; rw [List.take_of_length_le (by omega), List.drop_of_length_le (by omega)]; simp [outs, tr]
  refine For_range (n := 8) (p := 7) (q := -1) (o := -1) ok (by walk_at "mem") (by decide) (by decide) (fun i m' l' => ∃ jv pv, m' = LM (.ref al) (.ref CE) (.ref KI) (.int κ) (.ref TO) number (.ref LI) (.ref WR) laps ones marks side lone jv due (.ref KA) mask hit both whole more carried less lent (.int (pos 0 (em.map (·.1))).length) pv plain grown ∧
    l' = (RG, It.rngO 7 (-1) (-1)) :: LL TO KI LI WR CE SG P B c6 c5 c4 c3 c1 ts ks li wr cs sg (pil em (8 - i)) best v6 (.int σ) X ∧ (pv = .none ∨ ∃ q : Int, pv = .int q ∧ ((pos 0 ((em.take (8 - i)).map (·.1))).length : Int) ≤ q ∧ q ≤ (pil em (8 - i)).length)) ⟨_, _, rfl, by rw [Nat.sub_zero, p8], .inl rfl⟩ ?_ ?_
  · rintro i m' l' I hi ⟨jv, pv, rfl, rfl, hpv⟩
    obtain ⟨jj, hjj⟩ : ∃ jj, 8 - i = jj + 1 := ⟨7 - i, by omega⟩
    have hj7 : 8 - (i + 1) = jj := by omega
    rw [show (7 : Int) + (i : Int) * -1 = (jj : Int) by omega]
    rw [hjj] at hpv ⊢
    obtain ⟨⟨e, mm⟩, hem⟩ : ∃ p, em[jj]? = some p := ⟨em[jj], List.getElem?_eq_getElem (by omega)⟩
    obtain ⟨Tl, Q, hp1, hTd, hT, hQ, hp0⟩ := pil_parts hem
    have hkj : (kn.getD jj 0 == σ) = mm := by
      have h1 : (kn.map (fun x => x == σ))[jj]? = some mm := by rw [hkn, List.getElem?_map, hem]; rfl
      rw [List.getElem?_map, List.getElem?_eq_getElem (by omega)] at h1
      have := Option.some.inj h1
      simpa [List.getD, show jj < kn.length by omega] using this
    have hm : ∀ pi, (KA, It.list (nums kn)) ∈ (I, It.rng (7 + ((i + 1 : Nat) : Int) * -1) ((8 : Nat) - ((i + 1 : Nat) : Int)) (-1)) :: (RG, It.rngO 7 (-1) (-1)) :: LL TO KI LI WR CE SG P B c6 c5 c4 c3 c1 ts ks li wr cs sg pi best v6 (.int σ) X := fun pi => by
      rcases hka with ⟨_, rfl, rfl⟩ | ⟨_, rfl, rfl⟩
      · exact .tail _ (.tail _ (.tail _ (.tail _ (.head _))))
      · exact .tail _ (.tail _ (.tail _ (.tail _ (.tail _ (.head _)))))
    repeat walk_at "w"
    refine Sub_ints (hm _) (by omega) (by omega) (by omega) ?_
    repeat walk_at "w"
    rw [show (kn.getD (jj : Int).toNat 0 == σ) = mm from hkj]
    have hTl : (pos 0 ((em.take (jj + 1)).map (·.1))).length = Tl.length ∨ (pos 0 ((em.take (jj + 1)).map (·.1))).length = Tl.length + 1 := by
      have := pos_take (a := em.map (·.1)) (i := jj) (b := e) (by rw [List.getElem?_map, hem]; rfl)
      rw [← List.map_take, ← List.map_take, ← hTd] at this
      rw [this]
      cases e <;> simp
    have hlen : (pil em (jj + 1)).length = Tl.length + Q.length := by rw [hp1]; simp
    have hlen8 := pil_len em (jj + 1)
    cases mm with
    | false =>
      refine ifF rfl ?_
      repeat walk_at "w"
      refine ⟨_, Fits.refl, _, _, rfl, ?_, ?_⟩
      · rw [hj7, hp0, hp1]; rfl
      · rw [hj7, hp0, ← hTd]
        rcases hpv with rfl | ⟨q, rfl, q1, q2⟩
        · exact .inl rfl
        · refine .inr ⟨q, rfl, by omega, ?_⟩
          simp only [Bool.false_eq_true, if_false, List.length_append]; omega
    | true =>
      simp only [if_true] at hp0
      have call : ∀ (m : Nm) (l : Lg) (K' : V → Nm → Lg → Prop), (P, It.list (nums (pil em (jj + 1)))) ∈ l → K' (.int Tl.length) m l → CallA c (.ref 74) [.ref P, .int jj, .int 0, pv] m l K' := fun m l K' hml hK => by
        rcases hpv with rfl | ⟨q, rfl, q1, q2⟩
        · refine bl_none ok (by omega) hml (by omega) (pil_sorted em _) fun r r0 r1 lo up => ?_
          rw [hp1] at r1 lo up
          have := bis (hi := ((Tl ++ Q).length : Int)) hT hQ (by simp; omega) (Int.le_refl _) r0 r1 (fun i a b => lo i (Nat.zero_le _) b) (fun i a b => up i a (by omega))
          rw [this]; exact hK
        · refine bl_int ok (by omega) hml (Int.le_refl _) (by omega) q2 (by omega) (pil_sorted em _) fun r r0 r1 lo up => ?_
          rw [hp1] at q2 lo up
          have := bis hT hQ (by omega) q2 r0 r1 (fun i a b => lo i a b) (fun i a b => up i a b)
          rw [this]; exact hK
      rcases hpv with rfl | ⟨q, rfl, q1, q2⟩
      all_goals
        refine ifT rfl ?_
        repeat walk_at "w"
        refine call _ _ _ (by walk_at "mem") ?_
        repeat walk_at "w"
        refine F_lenI (xs := pil em (jj + 1)) (by walk_at "mem") (by omega) ?_
        repeat walk_at "w"
        by_cases hQ0 : Q = []
        · subst hQ0
          refine ifT (by rw [hlen]; simp) ?_
          repeat walk_at "w"
          refine F_appendI (xs := pil em (jj + 1)) (x := (jj : Int)) (by walk_at "mem") (by walk_at "put") (by omega) ⟨rfl, ?_⟩
          repeat walk_at "w"
          refine ⟨_, Fits.refl, _, _, rfl, ?_, .inr ⟨_, rfl, ?_, ?_⟩⟩
          · rw [hj7, hp0, hp1]; simp
          · rw [hj7, ← hTd]; exact Int.le_refl _
          · rw [hj7, hp0]; simp; omega
        · have hQl : 0 < Q.length := List.length_pos_iff.mpr hQ0
          refine ifF (by rw [hlen]; simp; omega) ?_
          repeat walk_at "w"
          refine Set_ints (xs := pil em (jj + 1)) (by walk_at "mem") (by walk_at "put") (by omega) (by omega) (by omega) ?_
          repeat walk_at "w"
          refine ⟨_, Fits.refl, _, _, rfl, ?_, .inr ⟨_, rfl, ?_, ?_⟩⟩
          · rw [hj7, hp0, hp1, show ((Tl.length : Int)).toNat = Tl.length from rfl, setTQ hQ0]
          · rw [hj7, ← hTd]; exact Int.le_refl _
          · rw [hj7, hp0]; simp; omega
  · rintro m' l' ⟨jv, pv, rfl, rfl, _⟩
    refine Stop.mk (W.fits (Fits.drop Fits.refl) ?_)
    rw [show pil em (8 - 8) = pos 0 (outs false em) from by unfold pil; simp]
    exact h _ _
/-! # Cd -/
theorem getD_mem {α : Type} {xs : List α} {k : Nat} {d : α} (h : k < xs.length) : xs.getD k d ∈ xs := by
  simp only [List.getD, List.getElem?_eq_getElem h, Option.getD_some]; exact List.getElem_mem h
theorem rngs : ∀ p : Int, 0 ≤ p → p ≤ 8 → Builtin.Range.small 0 p 1 = true ∧ Builtin.Range.rangeSize 0 p 1 = (p.toNat : Nat) := fun p h0 h1 => by
  have : p = 0 ∨ p = 1 ∨ p = 2 ∨ p = 3 ∨ p = 4 ∨ p = 5 ∨ p = 6 ∨ p = 7 ∨ p = 8 := by omega
  rcases this with rfl | rfl | rfl | rfl | rfl | rfl | rfl | rfl | rfl <;> decide
theorem turnD1 {c : C} {KF' : Fl → Nm → Lg → Prop} {fa al c1 c2 c3 c4 c5 c6 TO KI LI WR CE SG P B KA : Addr} {cd : Value} {ts ks li wr cs : List Int} {sg : List Str} {piles : List Int} {v6 : V} {X : Lg} {σ κ side : Int} {em : List (Bool × Bool)} {number laps ones marks lone j due mask hit both whole more carried less lent before place plain grown : V}
    (ok : c.Ok) (hn : 100 ≤ c.n) (he : EnvOk c fa cd c1 c2 c3 c4 c5 c6) (h8 : em.length = 8) (hc : cs.length = 8) (hcb : ∀ x ∈ cs, 0 ≤ x ∧ x < 50) (hg : sg.length = 5) (hgl : ∀ s ∈ sg, s.length ≤ 1000)
    (hmt : ∀ j : Nat, ∀ p, em[j]? = some p → (((cs.getD j 0).fdiv 10 == κ) || (((sg.getD ((cs.getD j 0).fdiv 10).toNat (Str.ofString "")).length : Int) == κ - 5)) = p.2)
    (h : ∀ j PL, WF c (execs (lb 16) c.env) (LM (.ref al) (.ref CE) (.ref KI) (.int κ) (.ref TO) number (.ref LI) (.ref WR) laps ones marks (.int (-side)) lone j due (.ref KA) mask hit both whole more carried less lent before place (.ref PL) grown) (LL TO KI LI WR CE SG P PL c6 c5 c4 c3 c1 ts ks li wr cs sg piles (cnt 0 (outs false em)) v6 (.int σ) X) KF') :
    WF c (execs (lb 13) c.env) (LM (.ref al) (.ref CE) (.ref KI) (.int κ) (.ref TO) number (.ref LI) (.ref WR) laps ones marks (.int side) lone j due (.ref KA) mask hit both whole more carried less lent before place plain grown) (LL TO KI LI WR CE SG P B c6 c5 c4 c3 c1 ts ks li wr cs sg piles (cnt 0 (em.map (·.1))) v6 (.int σ) X) KF' := by
  revert he
  refine scope_cast (P := fun sc => c.env = envX "law" sc c.L fa cd _ → _) rfl ?_
  intro he
  refine seg rfl ?_
  repeat walk_at "w"
  refine ⟨by simp, fun PL _ => ?_⟩
  repeat walk_at "w"
  refine Stop.mk (seg rfl ?_)
  repeat walk_at "w"
  refine F_range1 fun RG _ => ?_
  have ol : (outs false em).length = 8 := by rw [outs_length, h8]
  have cl : (cnt 0 (outs false em)).length = 9 := by rw [cnt_length, ol]
  have bl : (cnt 0 (em.map (·.1))).length = 9 := by rw [cnt_length]; simp [h8]
  refine For_range (n := 8) (p := 0) (q := 8) (o := 1) ok (by walk_at "mem") (by decide) (by decide) (fun i m' l' => ∃ jv, m' = LM (.ref al) (.ref CE) (.ref KI) (.int κ) (.ref TO) number (.ref LI) (.ref WR) laps ones marks (.int side) lone jv due (.ref KA) mask hit both whole more carried less lent before place (.ref PL) grown ∧
    l' = (RG, It.rngO 0 8 1) :: (PL, It.list (nums ((cnt 0 (outs false em)).take (i + 1)))) :: LL TO KI LI WR CE SG P B c6 c5 c4 c3 c1 ts ks li wr cs sg piles (cnt 0 (em.map (·.1))) v6 (.int σ) X) ⟨_, rfl, ?_⟩ ?_ ?_
  · have : (cnt 0 (outs false em)).take (0 + 1) = [0] := by cases outs false em <;> rfl
    rw [this]; rfl
  · rintro i m' l' I hi ⟨jv, rfl, rfl⟩
    rw [show (0 : Int) + (i : Int) * 1 = (i : Int) by omega]
    obtain ⟨⟨e, mm⟩, hem⟩ : ∃ p, em[i]? = some p := ⟨em[i], List.getElem?_eq_getElem (by omega)⟩
    have hmj := hmt i _ hem
    have hd := dp em 0 false i e mm hem
    rw [show (0 : Int) + b2i false = 0 from rfl] at hd
    have hcx := hcb (cs.getD i 0) (getD_mem (by omega))
    have hdv : 0 ≤ (cs.getD i 0).fdiv 10 ∧ (cs.getD i 0).fdiv 10 < 5 := by rw [Int.fdiv_eq_ediv_of_nonneg _ (by decide)]; omega
    have hsl : (sg.getD ((cs.getD i 0).fdiv 10).toNat (Str.ofString "")).length ≤ 1000 := hgl _ (getD_mem (by omega))
    have fin : ∀ y : Int, y = (cnt 0 (outs false em)).getD (i + 1) 0 → (cnt 0 (outs false em)).take (i + 1) ++ [y] = (cnt 0 (outs false em)).take (i + 1 + 1) := fun y hy => by
      have : i + 1 < (cnt 0 (outs false em)).length := by omega
      rw [take_next (List.getElem?_eq_getElem this), hy]
      simp only [List.getD, List.getElem?_eq_getElem this, Option.getD_some]
    repeat walk_at "w"
    refine Sub_ints (xs := cs) (by walk_at "mem") (by omega) (by omega) (by omega) ?_
    rw [Int.toNat_natCast]
    repeat walk_at "w"
    by_cases ha : ((cs.getD i 0).fdiv 10 == κ) = true
    · have hmm : mm = true := by rw [ha] at hmj; exact hmj.symm
      refine ifT ha (ifT rfl ?_)
      repeat walk_at "w"
      refine Sub_ints (xs := cnt 0 (em.map (·.1))) (by walk_at "mem") (by omega) (by omega) (by omega) ?_
      rw [Int.toNat_natCast]
      repeat walk_at "w"
      refine F_appendI (xs := (cnt 0 (outs false em)).take (i + 1)) (x := (cnt 0 (em.map (·.1))).getD i 0 + 1) (by walk_at "mem") (by walk_at "put") (by simp; omega) ⟨rfl, ?_⟩
      repeat walk_at "w"
      refine ⟨_, Fits.refl, _, rfl, ?_⟩
      rw [fin _ (by rw [hd, hmm]; rfl)]
    · have ha' : ((cs.getD i 0).fdiv 10 == κ) = false := by simpa using ha
      rw [ha', Bool.false_or] at hmj
      refine ifF ha' ?_
      repeat walk_at "w"
      refine Sub_ints (xs := cs) (by walk_at "mem") (by omega) (by omega) (by omega) ?_
      rw [Int.toNat_natCast]
      repeat walk_at "w"
      refine Sub_list (by walk_at "mem") hdv.1 (by omega) (wrds_at (by omega)) ?_
      repeat walk_at "w"
      refine F_lenS hsl ?_
      repeat walk_at "w"
      cases hb : (((sg.getD ((cs.getD i 0).fdiv 10).toNat (Str.ofString "")).length : Int) == κ - 5) with
      | true =>
        have hmm : mm = true := by rw [hb] at hmj; exact hmj.symm
        refine ifT rfl (ifT rfl ?_)
        repeat walk_at "w"
        refine Sub_ints (xs := cnt 0 (em.map (·.1))) (by walk_at "mem") (by omega) (by omega) (by omega) ?_
        rw [Int.toNat_natCast]
        repeat walk_at "w"
        refine F_appendI (xs := (cnt 0 (outs false em)).take (i + 1)) (x := (cnt 0 (em.map (·.1))).getD i 0 + 1) (by walk_at "mem") (by walk_at "put") (by simp; omega) ⟨rfl, ?_⟩
        repeat walk_at "w"
        refine ⟨_, Fits.refl, _, rfl, ?_⟩
        rw [fin _ (by rw [hd, hmm]; rfl)]
      | false =>
        have hmm : mm = false := by rw [hb] at hmj; exact hmj.symm
        refine ifF rfl ?_
        repeat walk_at "w"
        refine Sub_ints (xs := (cnt 0 (outs false em)).take (i + 1)) (by walk_at "mem") (by omega) (by simp; omega) (by simp; omega) ?_
        rw [Int.toNat_natCast]
        repeat walk_at "w"
        refine Sub_ints (xs := cnt 0 (em.map (·.1))) (by walk_at "mem") (by omega) (by omega) (by omega) ?_
        rw [show ((i : Int) + 1).toNat = i + 1 by omega]
        repeat walk_at "w"
        refine F_max2 ok ?_
        repeat walk_at "w"
        refine F_appendI (xs := (cnt 0 (outs false em)).take (i + 1)) (x := max (((cnt 0 (outs false em)).take (i + 1)).getD i 0) ((cnt 0 (em.map (·.1))).getD (i + 1) 0)) (by walk_at "mem") (by walk_at "put") (by simp; omega) ⟨rfl, ?_⟩
        repeat walk_at "w"
        refine ⟨_, Fits.refl, _, rfl, ?_⟩
        rw [fin _ (by
          rw [hd, hmm]
          have : ((cnt 0 (outs false em)).take (i + 1)).getD i 0 = (cnt 0 (outs false em)).getD i 0 := by
            simp [List.getD, List.getElem?_take_of_lt (Nat.lt_succ_self i)]
          rw [this]; rfl)]
  · rintro m' l' ⟨jv, rfl, rfl⟩
    rw [List.take_of_length_le (by omega)]
    refine Stop.mk (W.fits (Fits.drop Fits.refl) (seg rfl ?_))
    refine S_AssignTupE he rfl rfl ?_
    repeat walk_at "w"
    refine ⟨by simp, fun T _ => ?_⟩
    repeat walk_at "w"
    refine Stop.mk (W.fits (l' := LL TO KI LI WR CE SG P PL c6 c5 c4 c3 c1 ts ks li wr cs sg piles (cnt 0 (outs false em)) v6 (.int σ) X) (by walk_at "fits") ?_)
    exact h _ PL
/-! # Ce -/
theorem S_AssignE {c : C} {m : Nm} {l : Lg} {KF' : Fl → Nm → Lg → Prop} {env' : Env} {x : Str} {e : Expr} {px pos : Pos} (he : c.env = env') (hs : swapsWith e (some (.Name x px)) pos.line env' = pure false) (h : WV c (eval e c.env) m l fun v m1 l1 => StoreN c c.env x v m1 l1 fun _ m2 l2 => KF' .next m2 l2) : WF c (exec (.Assign [.Name x px] e pos) c.env) m l KF' :=
  S_Assign h (by rw [he]; exact hs)
theorem turnE {c : C} {KF' : Fl → Nm → Lg → Prop} {fa al c1 c2 c3 c4 c5 c6 TO KI LI WR CE SG P B KA : Addr} {cd : Value} {ts ks li wr cs : List Int} {sg : List Str} {v6 : V} {X : Lg} {σ κ side laps : Int} {em : List (Bool × Bool)} {number lone j due mask hit both whole carried lent place plain grown : V}
    (ok : c.Ok) (hn : 100 ≤ c.n) (he : EnvOk c fa cd c1 c2 c3 c4 c5 c6) (h8 : em.length = 8)
    (h : ∀ grown EN, KF' .next (LM (.ref al) (.ref CE) (.ref KI) (.int κ) (.ref TO) number (.ref LI) (.ref WR) (.int laps) (.int (255 - val (outs false em))) (.int (val (outs false em))) (.int side) lone j due (.ref KA) mask hit both whole (.int (b2i (last false em) + laps)) carried (.int (b2i (last false em) - 1 - laps)) lent (.int (pos 0 (em.map (·.1))).length) place plain grown) (LL TO KI LI WR CE SG P B c6 c5 c4 c3 c1 ts ks li wr cs sg (pos 0 (outs false em)) (cnt 0 (outs false em)) (.ref EN) (.int σ) X)) :
    WF c (execs (lb 16) c.env) (LM (.ref al) (.ref CE) (.ref KI) (.int κ) (.ref TO) number (.ref LI) (.ref WR) (.int laps) (.int (255 - val (outs false em))) (.int (val (outs false em))) (.int side) lone j due (.ref KA) mask hit both whole (.int (b2i (last false em) + laps)) carried (.int (b2i (last false em) - 1 - laps)) lent (.int (pos 0 (em.map (·.1))).length) place plain grown) (LL TO KI LI WR CE SG P B c6 c5 c4 c3 c1 ts ks li wr cs sg (pos 0 (outs false em)) (cnt 0 (outs false em)) v6 (.int σ) X) KF' := by
  revert he
  refine scope_cast (P := fun sc => c.env = envX "law" sc c.L fa cd _ → _) rfl ?_
  intro he
  have ol : (outs false em).length = 8 := by rw [outs_length, h8]
  have gr := pos_outs 0 false em
  have pl := pos_len 0 (outs false em)
  have pl2 := pos_len 0 (em.map (·.1))
  rw [List.length_map, h8] at pl2
  have tp := top_ok _ ol
  have dg := dig_ok _ ol
  have bv := val_bound (outs false em)
  rw [ol] at bv
  have bl := b2i_bound (last false em)
  have cl : (cnt 0 (outs false em)).length = 9 := by rw [cnt_length, ol]
  generalize outs false em = o at *
  refine seg rfl ?_
  refine S_AssignE he rfl ?_
  repeat walk_at "w"
  refine F_range1 fun RG _ => ?_
  refine CompC_range (n := 8) ok (by walk_at "mem") rfl rfl he (by decide) (by decide) (fun i acc => acc = nums (pos 0 (o.take i))) (by rintro i _ rfl; have := pos_len 0 (o.take i); simp at this ⊢; omega) (by simp [pos]) ?_ ?_
  · rintro i acc D Cc I hi rfl
    rw [show (0 : Int) + (i : Int) * 1 = (i : Int) by omega]
    have hoi : o[i]? = some (o.getD i false) := by simp [List.getD, show i < o.length by omega]
    have cg := cnt_gt o 0 i _ hoi
    refine Te_one ?_
    repeat walk_at "w"
    refine Sub_ints (xs := cnt 0 o) (by walk_at "mem") (by omega) (by omega) (by omega) ?_
    repeat walk_at "w"
    refine Sub_ints (xs := cnt 0 o) (by walk_at "mem") (by omega) (by omega) (by omega) ?_
    rw [show ((i : Int) + 1).toNat = i + 1 by omega, Int.toNat_natCast]
    repeat walk_at "w"
    cases hb : o.getD i false with
    | true =>
      rw [hb] at cg hoi
      refine ifT (decide_eq_true (by rw [cg]; show _ < (cnt 0 o).getD i 0 + 1; omega)) ?_
      repeat walk_at "w"
      refine ⟨rfl, ?_, _, Fits.refl⟩
      show _ = nums (pos 0 (o.take (i + 1)))
      rw [pos_take hoi]; simp
    | false =>
      rw [hb] at cg hoi
      refine ifF (decide_eq_false (by rw [cg]; simp [b2i])) ?_
      refine ⟨rfl, ?_, _, Fits.refl⟩
      show _ = nums (pos 0 (o.take (i + 1)))
      rw [pos_take hoi]; simp
  rintro EN acc rfl
  rw [List.take_of_length_le (by omega)]
  suffices main : WF c (execs (lb 17) c.env) (LM (.ref al) (.ref CE) (.ref KI) (.int κ) (.ref TO) number (.ref LI) (.ref WR) (.int laps) (.int (255 - val o)) (.int (val o)) (.int side) lone j due (.ref KA) mask hit both whole (.int (b2i (last false em) + laps)) carried (.int (b2i (last false em) - 1 - laps)) lent (.int (pos 0 (em.map (·.1))).length) place plain grown) (LL TO KI LI WR CE SG P B c6 c5 c4 c3 c1 ts ks li wr cs sg (pos 0 o) (cnt 0 o) (.ref EN) (.int σ) ((EN, .list (nums (pos 0 o))) :: X)) KF' by
    walk_at "st2"
    exact Stop.mk (W.fits (by walk_at "fits") main)
  refine seg rfl ?_
  repeat walk_at "w"
  refine F_lenI (xs := pos 0 o) (by walk_at "mem") (by omega) ?_
  repeat walk_at "w"
  refine Stop.mk (seg rfl ?_)
  repeat walk_at "w"
  refine C_neL (xs := pos 0 o) (ys := pos 0 o) ok (by omega) (by walk_at "mem") (by walk_at "mem") ?_
  repeat walk_at "w"
  refine ifF (by simp) ?_
  repeat walk_at "w"
  refine C_ne ?_
  rw [show (255 - val o + val o : Int) = 255 by omega]
  repeat walk_at "w"
  repeat walk_at "w"
  refine ⟨by simp, fun D1 _ => ?_⟩
  repeat walk_at "w"
  refine ⟨by simp, fun D2 _ => ?_⟩
  refine C_neL (xs := [b2i (last false em) + laps - laps, b2i (last false em) - 1 - laps + laps]) (ys := [((pos 0 o).length : Int) - (pos 0 (em.map (·.1))).length, ((pos 0 o).length : Int) - (pos 0 (em.map (·.1))).length - 1]) ok (by omega) (.tail _ (.head _)) (.head _) ?_
  rw [show b2i false = 0 from rfl] at gr
  repeat walk_at "w"
  refine ifF (by
    have e1 : b2i (last false em) + laps - laps = ((pos 0 o).length : Int) - (pos 0 (em.map (·.1))).length := by omega
    have e2 : b2i (last false em) - 1 - laps + laps = ((pos 0 o).length : Int) - (pos 0 (em.map (·.1))).length - 1 := by omega
    rw [e1, e2]; simp) ?_
  repeat walk_at "w"
  suffices main : WF c (execs (lb 19) c.env) (LM (.ref al) (.ref CE) (.ref KI) (.int κ) (.ref TO) number (.ref LI) (.ref WR) (.int laps) (.int (255 - val o)) (.int (val o)) (.int side) lone j due (.ref KA) mask hit both whole (.int (b2i (last false em) + laps)) carried (.int (b2i (last false em) - 1 - laps)) lent (.int (pos 0 (em.map (·.1))).length) place plain (.int (((pos 0 o).length : Int) - (pos 0 (em.map (·.1))).length))) (LL TO KI LI WR CE SG P B c6 c5 c4 c3 c1 ts ks li wr cs sg (pos 0 o) (cnt 0 o) (.ref EN) (.int σ) ((EN, .list (nums (pos 0 o))) :: X)) KF' by
    exact Stop.mk (W.fits (by walk_at "fits") main)
  refine seg rfl ?_
  repeat walk_at "w"
  obtain ⟨a, ha⟩ := Int.eq_ofNat_of_zero_le bv.1
  rw [ha] at dg bv ⊢
  have ha81 : a < 2 ^ 81 := by have := bv.2; omega
  refine f_i2d (n := 1) ok (by omega) (by decide) (by decide) ha81 fun D3 => ?_
  rw [Int.toNat_natCast] at dg
  rw [dg]
  repeat walk_at "w"
  refine ⟨by simp, fun D4 _ => ?_⟩
  repeat walk_at "w"
  refine B_addL (by walk_at "mem") (by walk_at "mem") (by simp; omega) fun D5 _ => ?_
  rw [show [V.int (-1)] ++ nums (pos 0 o) = nums (-1 :: pos 0 o) by simp [nums]]
  repeat walk_at "w"
  refine F_maxL (xs := -1 :: pos 0 o) ok (by walk_at "mem") (by simp) fun M hM1 hM2 => ?_
  obtain rfl : M = topOf o := Int.le_antisymm (tp.2.1 M hM1) (hM2 _ tp.1)
  have tp2 := tp.2.2
  repeat walk_at "w"
  obtain ⟨sm, sz⟩ := rngs (topOf o + 1) (by omega) (by omega)
  refine F_range1 fun RG2 _ => ?_
  refine CompC_range (n := (topOf o + 1).toNat) ok (by walk_at "mem") rfl rfl he sm sz (fun i acc => acc = nums (((List.range (topOf o + 1).toNat).map fun j : Nat => if (pos 0 o).any (· == (j : Int)) then (1 : Int) else 0).take i)) (by rintro i _ rfl; simp; omega) (by simp) ?_ ?_
  · rintro i acc D Cc I hi rfl
    rw [show (0 : Int) + (i : Int) * 1 = (i : Int) by omega]
    refine Te_nil (ifT rfl ?_)
    repeat walk_at "w"
    refine C_in (xs := pos 0 o) (by walk_at "mem") ?_
    repeat walk_at "w"
    refine F_intB ?_
    refine ⟨rfl, ?_, _, Fits.refl⟩
    show _ = nums (((List.range (topOf o + 1).toNat).map fun j : Nat => if (pos 0 o).any (· == (j : Int)) then (1 : Int) else 0).take (i + 1))
    rw [take_next (x := if (pos 0 o).any (· == (i : Int)) then (1 : Int) else 0) (by rw [List.getElem?_map, List.getElem?_range hi]; rfl)]
    simp [nums]
  rintro D6 acc rfl
  rw [List.take_of_length_le (by simp)]
  refine C_neL (xs := (List.range (topOf o + 1).toNat).map fun j : Nat => if (pos 0 o).any (· == (j : Int)) then (1 : Int) else 0) (ys := (List.range (topOf o + 1).toNat).map fun j : Nat => if (pos 0 o).any (· == (j : Int)) then (1 : Int) else 0) ok (by omega) (by walk_at "mem") (by walk_at "mem") ?_
  repeat walk_at "w"
  refine ifF (by simp) ?_
  repeat walk_at "w"
  rw [← ha]
  refine Stop.mk ?_
  show WF c (execs (lb 20) c.env) _ _ _
  rw [show lb 20 = [] from rfl]
  refine W.fits ?_ (S_nil (h _ EN))
  walk_at "fits"
/-! # Cf -/
theorem turnF1 {c : C} {KF' : Fl → Nm → Lg → Prop} {fa al c1 c2 c3 c4 c5 c6 TO KI LI WR CE SG P B : Addr} {cd : Value} {ts ks li wr cs : List Int} {sg : List Str} {v6 : V} {X : Lg} {κ : Int} {e : List Bool} {number laps ones marks side lone j due known mask hit both whole more carried less lent before place plain grown : V}
    (ok : c.Ok) (hout : c.outer = []) (hn : 100 ≤ c.n) (he : EnvOk c fa cd c1 c2 c3 c4 c5 c6) (h8 : e.length = 8)
    (h : ∀ due P' B', KF' .cont (LM (.ref al) (.ref CE) (.ref KI) (.int κ) (.ref TO) number (.ref LI) (.ref WR) laps (.int 255) (.int 0) side lone j due known mask hit both whole more carried less lent before place plain grown) (LL TO KI LI WR CE SG P' B' c6 c5 c4 c3 c1 ts ks li wr cs sg [] [0, 0, 0, 0, 0, 0, 0, 0, 0] v6 (.int 0) X)) :
    WF c (execs (lb 2) c.env) (LM (.ref al) (.ref CE) (.ref KI) (.int κ) (.ref TO) number (.ref LI) (.ref WR) laps ones marks side lone j due known mask hit both whole more carried less lent before place plain grown) (LL TO KI LI WR CE SG P B c6 c5 c4 c3 c1 ts ks li wr cs sg (pos 0 e) (cnt 0 e) v6 (.int 0) X) KF' := by
  revert he
  refine scope_cast (P := fun sc => c.env = envX "law" sc c.L fa cd _ → _) rfl ?_
  intro he
  have pl := pos_len 0 e
  have cl : (cnt 0 e).length = 9 := by rw [cnt_length, h8]
  have dok := due_ok e h8
  have pc := pos_cnt e h8
  refine seg rfl ?_
  repeat walk_at "w"
  refine f_eof ok (by omega) ?_
  repeat walk_at "w"
  refine F_range1 fun RG _ => ?_
  refine CompC_range (n := 8) ok (by walk_at "mem") rfl rfl he (by decide) (by decide) (fun i acc => acc = nums ((cnt 0 e).tail.take i)) (by rintro i _ rfl; simp; omega) (by simp) ?_ ?_
  · rintro i acc D Cc I hi rfl
    rw [show (0 : Int) + (i : Int) * 1 = (i : Int) by omega]
    refine Te_nil (ifT rfl ?_)
    obtain ⟨T, Q, hp, hT, hQ, hcn⟩ := pc i hi
    repeat walk_at "w"
    refine br_none (xs := pos 0 e) ok (by omega) (by walk_at "mem") (by omega) (pos_sorted e) fun r r0 r1 lo up => ?_
    have hr : r = T.length := by
      rw [hp] at r1 lo up
      exact bis (j := (i : Int) + 1) (hi := ((T ++ Q).length : Int)) (fun x hx => by have := hT x hx; omega) (fun x hx => by have := hQ x hx; omega) (by simp; omega) (Int.le_refl _) r0 r1 (fun k _ b => by have := lo k (Nat.zero_le _) b; omega) (fun k a b => by have := up k a (by omega); omega)
    refine ⟨rfl, ?_, _, Fits.refl⟩
    show _ = nums ((cnt 0 e).tail.take (i + 1))
    have hg : (cnt 0 e).tail[i]? = some r := by
      rw [List.getElem?_tail, List.getElem?_eq_getElem (by omega), hr, ← hcn]
      simp [List.getD, show i + 1 < (cnt 0 e).length by omega]
    rw [take_next hg]; simp [nums]
  rintro D1 acc rfl
  rw [List.take_of_length_le (by simp; omega)]
  repeat walk_at "w"
  refine Cut_led (by walk_at "mem") (by simp; omega) fun D2 _ => ?_
  rw [cutV_map, cutV_from _ (by decide) (by rw [cl]; decide), show (1 : Int).toNat = 1 from rfl, List.drop_one]
  refine C_neL (xs := (cnt 0 e).tail) (ys := (cnt 0 e).tail) ok (by omega) (by walk_at "mem") (by walk_at "mem") ?_
  repeat walk_at "w"
  refine ifF (by simp) ?_
  repeat walk_at "w"
  refine Comp_ints (xs := pos 0 e) ok (by walk_at "mem") rfl rfl he (by omega) (fun x => max 3 (min (x + 1) 7)) (fun x acc D Cc p hx => ?_) fun D3 => ?_
  · repeat walk_at "w"
    refine F_min2 ok ?_
    repeat walk_at "w"
    refine F_max2 ok ?_
    exact ⟨rfl, rfl, _, Fits.refl⟩
  repeat walk_at "w"
  refine ⟨by simp, fun D4 _ => ?_⟩
  repeat walk_at "w"
  refine F_lenI (xs := pos 0 e) (by walk_at "mem") (by omega) ?_
  repeat walk_at "w"
  refine B_mulL (by walk_at "mem") (by omega) (by simp; omega) (by omega) fun D5 _ => ?_
  rw [show (List.replicate ((8 : Int) - ((pos 0 e).length : Int)).toNat [V.int 7]).flatten = nums (List.replicate (8 - (pos 0 e).length) 7) by
    rw [show ((8 : Int) - ((pos 0 e).length : Int)).toNat = 8 - (pos 0 e).length by omega]; simp [nums]]
  refine B_addL (by walk_at "mem") (by walk_at "mem") (by simp; omega) fun D6 _ => ?_
  rw [show nums ((pos 0 e).map fun x => max 3 (min (x + 1) 7)) ++ nums (List.replicate (8 - (pos 0 e).length) 7) = nums (dueOf e) by simp [dueOf, nums]]
  repeat walk_at "w"
  refine F_range1 fun RG2 _ => ?_
  refine CompC_range (n := 8) ok (by walk_at "mem") rfl rfl he (by decide) (by decide) (fun i acc => acc = nums (((List.range 8).map fun j : Nat => fnd (cnt 0 e) ((j : Int) + 1)).take i)) (by rintro i _ rfl; simp; omega) (by simp) ?_ ?_
  · rintro i acc D Cc I hi rfl
    rw [show (0 : Int) + (i : Int) * 1 = (i : Int) by omega]
    refine Te_nil (ifT rfl ?_)
    repeat walk_at "w"
    refine bl_int (xs := cnt 0 e) ok (by omega) (by walk_at "mem") (by decide) (by decide) (by rw [cl]; decide) (by omega) (cnt_sorted e) fun r r0 r1 lo up => ?_
    have hr := fnd_of r0 r1 lo up
    refine ⟨rfl, ?_, _, Fits.refl⟩
    show _ = nums (((List.range 8).map fun j : Nat => fnd (cnt 0 e) ((j : Int) + 1)).take (i + 1))
    rw [take_next (x := fnd (cnt 0 e) ((i : Int) + 1)) (by rw [List.getElem?_map, List.getElem?_range hi]; rfl), hr]; simp [nums]
  rintro D7 acc rfl
  rw [List.take_of_length_le (by simp), dok]
  repeat walk_at "w"
  refine C_neL (xs := dueOf e) (ys := dueOf e) ok (by omega) (by walk_at "mem") (by walk_at "mem") ?_
  repeat walk_at "w"
  refine ifF (by simp) ?_
  repeat walk_at "w"
  refine S_TryV ok hout (by rw [he]; rfl) (g_ve _) ?_ ?_
  · intro s r E hE
    refine wpAny_execs_cons (wpAny_Expr_any (Call_ ?_ rfl) (by unfold interactive; rw [ok.hk]; rfl) rfl)
    refine W.useS (is := V.Is) (a := .ref 74) (W_gf ok he rfl (g_bl _) ⟨rfl, rfl, rfl⟩ rfl) Sm.refl r ?_
    rintro _ s1 rfl r1 e1
    refine callWith_K ok.X (kn_74.h _) ?_ rfl rfl
    refine W.useS (is := VsIs) (a := [.ref B, .int 1, .int (0 - 1)]) (by
      repeat walk_at "w"
      exact ⟨rfl, rfl, rfl⟩) e1 r1 ?_
    rintro ws s2 i2 r2 e2
    exact ⟨ok.X.keeps r2.keep, bl_raise ok hout (by omega) (by decide) r2 i2 fun e s' es rd => hE e s' (e2.trans es) rd⟩
  · intro ex oe vs hd h2
    repeat walk_at "w"
    refine ⟨by decide, fun P' _ => ?_⟩
    rw [show It.list [] = It.list (nums []) from rfl]
    repeat walk_at "w"
    refine ⟨by simp, fun Z _ => ?_⟩
    repeat walk_at "w"
    refine B_mulL (by walk_at "mem") (by decide) (by decide) (by decide) fun B' _ => ?_
    rw [show (List.replicate (9 : Int).toNat [V.int 0]).flatten = nums [0, 0, 0, 0, 0, 0, 0, 0, 0] from rfl]
    repeat walk_at "w"
    refine ⟨by simp, fun T _ => ?_⟩
    refine Asg_tupM (by walk_at "mem") hd h2 (by walk_at "mem") rfl ?_ rfl
    refine AsgT_cons (Asg_name (N_localM ok (by walk_at "put") ?_))
    refine AsgT_cons (Asg_name (N_localM ok (by walk_at "put") ?_))
    refine AsgT_cons (Asg_name (N_cellE ok.hk (by rw [he]; rfl) (by rw [he]; rfl) (by walk_at "mem") (by walk_at "put") ?_))
    refine AsgT_cons (Asg_name (N_cellE ok.hk (by rw [he]; rfl) (by rw [he]; rfl) (by walk_at "mem") (by walk_at "put") ?_))
    refine AsgT_nil ?_
    refine S_nil ?_
    refine W.fits (l' := LL TO KI LI WR CE SG P' B' c6 c5 c4 c3 c1 ts ks li wr cs sg [] [0, 0, 0, 0, 0, 0, 0, 0, 0] v6 (.int 0) X) (by walk_at "fits") ?_
    refine S_cons (S_Continue ?_)
    exact h _ _ _
/-! # Cg -/
theorem sym_at {qs : List (Str × Int)} (hq : qs.length = 4) : ∃ a b c d : Str × Int, qs = [a, b, c, d] := by
  match qs, hq with
  | [a, b, c, d], _ => exact ⟨a, b, c, d, rfl⟩
/-- what the tables say of a symbol -/
theorem facts {w : World} {qs : List (Str × Int)} {cs : List Int} (hq : qs.length = 4) (hqt : ∀ q ∈ qs, q ∈ TK w) (hqn : (qs.map (·.2)).Nodup) (hc : cs.length = 8) (hcb : ∀ x ∈ cs, 0 ≤ x ∧ x < 50) {κ : Int} (h0 : 0 ≤ κ) (h1 : κ < 10) :
    ((κ = 9 ∧ (symOf qs).getD κ.toNat 0 = 0) ∨ (0 ≤ κ ∧ κ < 5 ∧ κ < (symOf qs).getD κ.toNat 0 ∧ (symOf qs).getD κ.toNat 0 < 256) ∨ (5 ≤ κ ∧ κ < 9 ∧ 256 ≤ (symOf qs).getD κ.toNat 0 ∧ (symOf qs).getD κ.toNat 0 < 260)) ∧
    (∀ a : Int, 0 ≤ a → a < 5 → κ < 5 → ((symOf qs).getD a.toNat 0 == (symOf qs).getD κ.toNat 0) = ((a == κ) || (((sgOf qs).getD a.toNat (Str.ofString "")).length : Int) == κ - 5)) ∧
    (∀ a : Int, 0 ≤ a → a < 5 → 5 ≤ κ → κ < 9 → (256 + (((sgOf qs).getD a.toNat (Str.ofString "")).length : Int) == (symOf qs).getD κ.toNat 0) = ((a == κ) || (((sgOf qs).getD a.toNat (Str.ofString "")).length : Int) == κ - 5)) := by
  obtain ⟨q0, q1, q2, q3, rfl⟩ := sym_at hq
  have ok : ∀ q ∈ [q0, q1, q2, q3], 7 ≤ q.2 ∧ q.2 ≤ 54 := fun q hq' => by
    have := List.all_eq_true.mp (tk_ok w) q (hqt q hq')
    simp only [Bool.and_eq_true, decide_eq_true_eq] at this
    exact ⟨this.1.2, this.2⟩
  have o0 := ok q0 (.head _); have o1 := ok q1 (.tail _ (.head _)); have o2 := ok q2 (.tail _ (.tail _ (.head _))); have o3 := ok q3 (.tail _ (.tail _ (.tail _ (.head _))))
  have nd : [q0.2, q1.2, q2.2, q3.2, 255].Nodup := by
    have h255 : ∀ x ∈ [q0.2, q1.2, q2.2, q3.2], ∀ y ∈ [(255 : Int)], x ≠ y := fun x hx y hy e => by
      obtain ⟨q, hq', rfl⟩ := List.mem_map.mp (show x ∈ [q0, q1, q2, q3].map (·.2) from hx)
      rw [List.mem_singleton.mp hy] at e
      have := (ok q hq').2
      omega
    exact List.nodup_append.mpr ⟨hqn, by decide, h255⟩
  have get5 : ∀ k : Nat, ∀ h : k < 5, (symOf [q0, q1, q2, q3]).getD k 0 = [q0.2, q1.2, q2.2, q3.2, 255][k]'h := fun k h => by
    match k, h with
    | 0, _ => rfl
    | 1, _ => rfl
    | 2, _ => rfl
    | 3, _ => rfl
    | 4, _ => rfl
  obtain ⟨k, rfl⟩ := Int.eq_ofNat_of_zero_le h0
  rw [Int.toNat_natCast]
  have hk : k < 10 := by omega
  refine ⟨?_, fun a a0 a1 k5 => ?_, fun a a0 a1 k5 k9 => ?_⟩
  · match k, hk with
    | 0, _ => exact .inr (.inl ⟨by decide, by decide, Int.lt_of_lt_of_le (by decide) o0.1, Int.lt_of_le_of_lt o0.2 (by decide)⟩)
    | 1, _ => exact .inr (.inl ⟨by decide, by decide, Int.lt_of_lt_of_le (by decide) o1.1, Int.lt_of_le_of_lt o1.2 (by decide)⟩)
    | 2, _ => exact .inr (.inl ⟨by decide, by decide, Int.lt_of_lt_of_le (by decide) o2.1, Int.lt_of_le_of_lt o2.2 (by decide)⟩)
    | 3, _ => exact .inr (.inl ⟨by decide, by decide, Int.lt_of_lt_of_le (by decide) o3.1, Int.lt_of_le_of_lt o3.2 (by decide)⟩)
    | 4, _ => exact .inr (.inl ⟨by decide, by decide, show (4 : Int) < 255 by decide, show (255 : Int) < 256 by decide⟩)
    | 5, _ => exact .inr (.inr ⟨by decide, by decide, show (256 : Int) ≤ 256 by decide, show (256 : Int) < 260 by decide⟩)
    | 6, _ => exact .inr (.inr ⟨by decide, by decide, show (256 : Int) ≤ 257 by decide, show (257 : Int) < 260 by decide⟩)
    | 7, _ => exact .inr (.inr ⟨by decide, by decide, show (256 : Int) ≤ 258 by decide, show (258 : Int) < 260 by decide⟩)
    | 8, _ => exact .inr (.inr ⟨by decide, by decide, show (256 : Int) ≤ 259 by decide, show (259 : Int) < 260 by decide⟩)
    | 9, _ => exact .inl ⟨rfl, rfl⟩
  · obtain ⟨b, rfl⟩ := Int.eq_ofNat_of_zero_le a0
    have hb : b < 5 := by omega
    have hk5 : k < 5 := by omega
    rw [Int.toNat_natCast, get5 b hb, get5 k hk5, beq_eq_false_iff_ne.mpr (show ((((sgOf [q0, q1, q2, q3]).getD b (Str.ofString "")).length : Nat) : Int) ≠ (k : Int) - 5 by omega), Bool.or_false, Bool.eq_iff_iff, beq_iff_eq, beq_iff_eq]
    exact ⟨fun e => congrArg Nat.cast ((List.getElem_inj nd).mp e), fun e => by cases Int.ofNat.inj e; rfl⟩
  · have e : (symOf [q0, q1, q2, q3]).getD k 0 = 251 + (k : Int) := by
      have k5' : 5 ≤ k := by omega
      have k9' : k < 9 := by omega
      match k, k5', k9' with
      | 5, _, _ => rfl
      | 6, _, _ => rfl
      | 7, _, _ => rfl
      | 8, _, _ => rfl
    rw [e, beq_eq_false_iff_ne.mpr (show a ≠ (k : Int) by omega), Bool.false_or, Bool.eq_iff_iff, beq_iff_eq, beq_iff_eq]
    omega
/-! # Ch -/
theorem law4 {c : C} {KF' : Fl → Nm → Lg → Prop} {fa al c1 c2 c3 c4 c5 c6 CE KI TO SG LI WR P B : Addr} {cd : Value} {ts cs : List Int} {qs : List (Str × Int)} {jz : Nat} {v : V} {laps : Int} {number : V} (ok : c.Ok) (hout : c.outer = []) (hn : 100 ≤ c.n) (he : EnvOk c fa cd c1 c2 c3 c4 c5 c6)
    (hq : qs.length = 4) (hqt : ∀ q ∈ qs, q ∈ TK c.w) (hqn : (qs.map (·.2)).Nodup) (hc : cs.length = 8) (hcb : ∀ x ∈ cs, 0 ≤ x ∧ x < 50) (hl0 : 0 ≤ laps) (hl1 : laps < 2 ^ 27) (hts : toldOf qs cs = ts ++ List.replicate jz 0)
    (h : ∀ m l, KF' (.ret (.bool true)) m l) :
    WF c (execs (rest 12) c.env) (LM (.ref al) (.ref CE) (.ref KI) .any (.ref TO) number (.ref LI) (.ref WR) (.int laps) (.int 255) (.int 0) (.int 1) .any .any .any .any .any .any .any .any .any .any .any .any .any .any .any .any)
      (LL TO KI LI WR CE SG P B c6 c5 c4 c3 c1 ts (kindsOf cs) (lineOf qs cs) (writOf qs cs) cs (sgOf qs) [] [0, 0, 0, 0, 0, 0, 0, 0, 0] .any v []) KF' := by
  have he0 := he
  revert he
  refine scope_cast (P := fun sc => c.env = envX "law" sc c.L fa cd _ → _) rfl ?_
  intro he
  refine rest_cast rfl ?_
  repeat walk_at "w"
  refine F_zip (by walk_at "mem") (by walk_at "mem") fun z TI TO' i1 i2 => ?_
  refine For_zip (xs := nums ts) (ys := nums (kindsOf cs)) ok (fun i m l => ∃ (e : List Bool) (side : Int) (P B : Addr) (v6 v3 kind lone j due known mask hit both whole more carried less lent before place plain grown : V), e.length = 8 ∧ (side = 1 ∨ side = -1) ∧
    m = LM (.ref al) (.ref CE) (.ref KI) kind (.ref TO) number (.ref LI) (.ref WR) (.int laps) (.int (255 - val e)) (.int (val e)) (.int side) lone j due known mask hit both whole more carried less lent before place plain grown ∧
    l = LL TO KI LI WR CE SG P B c6 c5 c4 c3 c1 ts (kindsOf cs) (lineOf qs cs) (writOf qs cs) cs (sgOf qs) (pos 0 e) (cnt 0 e) v6 v3 []) ?_ ⟨List.replicate 8 false, 1, P, B, .any, v, .any, .any, .any, .any, .any, .any, .any, .any, .any, .any, .any, .any, .any, .any, .any, .any, .any, rfl, .inl rfl, rfl, rfl⟩ ?_ ?_
  · rintro i m l ⟨e, side, P, B, v6, v3, k1, k2, k3, k4, k5, k6, k7, k8, k9, k10, k11, k12, k13, k14, k15, k16, k17, h8, hs, rfl, rfl⟩
    exact ⟨.head _, .tail _ (.head _)⟩
  · rintro i m l T u v' hu hv ⟨e, side, P, B, v6, v3, k1, k2, k3, k4, k5, k6, k7, k8, k9, k10, k11, k12, k13, k14, k15, k16, k17, h8, hs, rfl, rfl⟩
    obtain ⟨σ, hσ, rfl⟩ := nums_get' hu
    obtain ⟨κ, hκ, rfl⟩ := nums_get' hv
    have hσκ : σ = (symOf qs).getD κ.toNat 0 := by
      have h1 : (toldOf qs cs)[i]? = some σ := by rw [hts, List.getElem?_append_left (List.getElem?_eq_some_iff.mp hσ).1, hσ]
      rw [toldOf, List.getElem?_map, hκ] at h1
      exact (Option.some.inj h1).symm
    have hκ9 : 0 ≤ κ ∧ κ < 10 := by
      rcases List.mem_append.mp (List.mem_of_getElem? hκ) with hk | hk
      · obtain ⟨x, _, rfl⟩ := List.mem_map.mp hk
        exact ⟨by rw [Int.fmod_eq_emod_of_nonneg _ (by decide)]; exact Int.emod_nonneg _ (by decide), Int.fmod_lt_of_pos _ (by decide)⟩
      · rw [List.mem_singleton.mp hk]; decide
    obtain ⟨f1, f2, f3⟩ := facts hq hqt hqn hc hcb hκ9.1 hκ9.2
    rw [← hσκ] at f1 f2 f3
    repeat walk_at "w2"
    change WF c (execs (lb 0) c.env) _ _ _
    refine W.fits (l' := LL TO KI LI WR CE SG P B c6 c5 c4 c3 c1 ts (kindsOf cs) (lineOf qs cs) (writOf qs cs) cs (sgOf qs) (pos 0 e) (cnt 0 e) v6 (.int σ) [(z, .obj (zipObj TI TO')), (TI, .obj (pairObj i1 i2)), (TO', .pair), (i1, .lit TO (i + 1)), (i2, .lit KI (i + 1))]) (by walk_at "fits") ?_
    refine turn0 ok hn he0 f1 fun lone => ?_
    have sgl : (sgOf qs).length = 5 := by simp [sgOf, hq]
    have sgm : ∀ s ∈ sgOf qs, s.length ≤ 1000 := by
      intro s hs
      rcases List.mem_append.mp hs with hs | hs
      · obtain ⟨q, hq', rfl⟩ := List.mem_map.mp hs
        have := List.all_eq_true.mp (tk_ok c.w) q (hqt q hq')
        simp only [Bool.and_eq_true, decide_eq_true_eq] at this
        omega
      · rw [List.mem_singleton.mp hs]; decide
    have dv : ∀ x ∈ cs, 0 ≤ x.fdiv 10 ∧ x.fdiv 10 < 5 := fun x hx => by
      obtain ⟨h0, h1⟩ := hcb x hx
      rw [Int.fdiv_eq_ediv_of_nonneg _ (by decide)]; omega
    have hcase : (κ = 9 ∧ σ = 0) ∨ ∃ (KA : Addr) (kn : List Int) (f : Int → Int), ((σ < 256 ∧ KA = LI ∧ kn = lineOf qs cs) ∨ (256 ≤ σ ∧ KA = WR ∧ kn = writOf qs cs)) ∧ κ < σ ∧ σ < 260 ∧ kn = cs.map f ∧
        ∀ x ∈ cs, (f x == σ) = ((x.fdiv 10 == κ) || (((sgOf qs).getD (x.fdiv 10).toNat (Str.ofString "")).length : Int) == κ - 5) := by
      rcases f1 with hz | ⟨k0, k1, k2, k3⟩ | ⟨k0, k1, k2, k3⟩
      · exact .inl hz
      · exact .inr ⟨LI, _, _, .inl ⟨k3, rfl, rfl⟩, k2, by omega, rfl, fun x hx => f2 _ (dv x hx).1 (dv x hx).2 k1⟩
      · exact .inr ⟨WR, _, _, .inr ⟨k2, rfl, rfl⟩, by omega, k3, rfl, fun x hx => f3 _ (dv x hx).1 (dv x hx).2 k0 k1⟩
    rcases hcase with ⟨rfl, hz⟩ | ⟨KA, kn, f, hka, hk1, hs9, hkn, hmx⟩
    · rw [hz]
      refine turnF1 ok hout hn he0 h8 fun due P' B' => ?_
      exact ⟨LL TO KI LI WR CE SG P' B' c6 c5 c4 c3 c1 ts (kindsOf cs) (lineOf qs cs) (writOf qs cs) cs (sgOf qs) [] [0, 0, 0, 0, 0, 0, 0, 0, 0] v6 (.int 0) [], by walk_at "fits", List.replicate 8 false, side, P', B', v6, .int 0, _, _, _, _, _, _, _, _, _, _, _, _, _, _, _, _, _, rfl, hs, rfl, rfl⟩
    · have eml : (e.zip (kn.map (fun x => x == σ))).length = 8 := by rw [hkn]; simp [h8, hc]
      have em1 : (e.zip (kn.map (fun x => x == σ))).map (·.1) = e := List.map_fst_zip (by rw [hkn]; simp [h8, hc])
      have em2 : (e.zip (kn.map (fun x => x == σ))).map (·.2) = kn.map (fun x => x == σ) := List.map_snd_zip (by rw [hkn]; simp [h8, hc])
      generalize e.zip (kn.map (fun x => x == σ)) = em at eml em1 em2
      rw [← em1]
      refine turnA (KA := KA) (kn := kn) ok hn he0 eml hκ9.1 hk1 hs9 hs hl0 hl1 hka em2.symm fun mask hit both whole carried lent => ?_
      refine turnP (kn := kn) ok hn he0 eml hka em2.symm fun j place => ?_
      refine turnD1 ok hn he0 eml hc hcb sgl sgm (fun j p hp => ?_) fun j PL => ?_
      · have h1 : (kn.map (fun x => x == σ))[j]? = some p.2 := by rw [← em2, List.getElem?_map, hp]; rfl
        have hj : j < cs.length := by
          have := (List.getElem?_eq_some_iff.mp h1).1
          rw [hkn] at this; simpa using this
        rw [hkn, List.map_map, List.getElem?_map, List.getElem?_eq_getElem hj] at h1
        have h2 := Option.some.inj h1
        rw [← h2, show cs.getD j 0 = cs[j] by simp [List.getD, hj]]
        exact (hmx _ (List.getElem_mem hj)).symm
      · refine turnE ok hn he0 eml fun grown EN => ?_
        exact ⟨_, by walk_at "fits", outs false em, -side, P, PL, .ref EN, .int σ, _, _, _, _, _, _, _, _, _, _, _, _, _, _, _, _, _, by rw [outs_length, eml], by omega, rfl, rfl⟩
  · rintro m l ⟨e, side, P, B, v6, v3, k1, k2, k3, k4, k5, k6, k7, k8, k9, k10, k11, k12, k13, k14, k15, k16, k17, h8, hs, rfl, rfl⟩
    repeat walk_at "w"
    exact h _ _
/-! # Ci -/
theorem law_all {c : C} {KF' : Fl → Nm → Lg → Prop} {fa al c1 c2 c3 c4 c5 c6 : Addr} {cd : Value} {vs : List Value} {xs : List Int} (ok : c.Ok) (hout : c.outer = []) (hn : 100 ≤ c.n) (he : EnvOk c fa cd c1 c2 c3 c4 c5 c6)
    (hl : c.h₀.IsList al vs.toArray) (hi : IntsAre vs xs) (hx : xs.length ≤ 63) (h : ∀ m l, KF' (.ret (.bool true)) m l) :
    WF c (execs lawBody c.env) (LM (.ref al) .any .any .any .any .any .any .any .any .any .any .any .any .any .any .any .any .any .any .any .any .any .any .any .any .any .any .any)
      [(c6, .cell .any), (c5, .cell .any), (c4, .cell .any), (c3, .cell .any), (c2, .cell .any), (c1, .cell .any)] KF' := by
  have hb : lawBody = rest 0 := by unfold lawBody rest; simp
  rw [hb]
  refine law1 ok hn he hl hi hx fun qs cs SG SY CE KI TO hq hqt hqn hc hcb => ?_
  have hkb : ∀ k ∈ kindsOf cs, 0 ≤ k ∧ k < 10 := by
    intro k hk
    rcases List.mem_append.mp hk with hk | hk
    · obtain ⟨x, _, rfl⟩ := List.mem_map.mp hk
      exact ⟨by rw [Int.fmod_eq_emod_of_nonneg _ (by decide)]; exact Int.emod_nonneg _ (by decide), Int.fmod_lt_of_pos _ (by decide)⟩
    · rw [List.mem_singleton.mp hk]; decide
  refine W.fits (l' := (TO, .list (nums (toldOf qs cs))) :: (c3, .cell .any) :: [(KI, .list (nums (kindsOf cs))), (CE, .list (nums cs)), (SY, .list (nums (symOf qs))), (SG, .list (wrds (sgOf qs))), (c6, .cell .any), (c5, .cell .any), (c4, .cell .any), (c2, .cell (.ref SY)), (c1, .cell (.ref SG))]) (by walk_at "fits") ?_
  refine law2 ok hn he (by simp [toldOf, kindsOf, hc]) (fun d hd => ?_) ⟨(cs.map (fun x : Int => x.fmod 10)).map fun k => (symOf qs).getD k.toNat 0, ?_⟩ fun ts j number v hts hn81 => ?_
  · obtain ⟨k, hk, rfl⟩ := List.mem_map.mp hd
    obtain ⟨f1, _⟩ := facts hq hqt hqn hc hcb (hkb k hk).1 (hkb k hk).2
    omega
  · have : (symOf qs).getD (9 : Int).toNat 0 = 0 := by
      obtain ⟨a, b, c, d, rfl⟩ := sym_at hq; rfl
    simp only [toldOf, kindsOf, List.map_append, List.map_cons, List.map_nil, this]
  · refine law3 ok hn he hq hqt hc hcb hn81 fun laps LI WR P B hl0 hl1 => ?_
    refine W.fits Fits.refl (law4 (v := v) (TO := TO) (KI := KI) (LI := LI) (WR := WR) (CE := CE) (SG := SG) (P := P) (B := B) (jz := j) ok hout hn he hq hqt hqn hc hcb hl0 hl1 hts h)
/-! # Cj -/
noncomputable def lawNames : List Str := (LM .any .any .any .any .any .any .any .any .any .any .any .any .any .any .any .any .any .any .any .any .any .any .any .any .any .any .any .any).map (·.1)
theorem lawNames_nd : lawNames.Nodup := by decide
theorem lawNames_loc : ∀ x ∈ lawNames, lawScope.names.lookup x = some .local := scope_cast (P := fun sc => ∀ x ∈ lawNames, sc.names.lookup x = some .local) rfl (by decide)
noncomputable abbrev lawCells (L : Addr) : List (Str × Addr) := [("ends", L + 1 + 1 + 1 + 1 + 1 + 1), ("best", L + 1 + 1 + 1 + 1 + 1), ("piles", L + 1 + 1 + 1 + 1), ("symbol", L + 1 + 1 + 1), ("symbols", L + 1 + 1), ("signs", L + 1)]
theorem law_run {w : World} {p : Program} {loose : List Str} {mean : ExcName → Option Value} {mg mb : Str → Option Value} {h₀ : Heap} {L fa al : Addr} {cd : Value} {m₀ : Str → Option Value} {o6 o5 o4 o3 o2 o1 : Obj} {vs : List Value} {xs : List Int} {s : Shared}
    {Q : Flow → Shared → Prop} {E : Value → Shared → Prop} {b : List Stmt} {sc : Scope} (hlaw : lawOf = some (b, sc)) (X : (KF w).In h₀) (T : Top p loose mean mg mb h₀) (B : Below callerA h₀ [] h₀) (F : Fr h₀ L s.heap m₀)
    (N : News h₀ L s.heap [(L + 1 + 1 + 1 + 1 + 1 + 1, o6), (L + 1 + 1 + 1 + 1 + 1, o5), (L + 1 + 1 + 1 + 1, o4), (L + 1 + 1 + 1, o3), (L + 1 + 1, o2), (L + 1, o1), (37, tabObj #[]), (30, tabObj #[])])
    (d6 : ∃ x, o6.data = .cell x) (d5 : ∃ x, o5.data = .cell x) (d4 : ∃ x, o4.data = .cell x) (d3 : ∃ x, o3.data = .cell x) (d2 : ∃ x, o2.data = .cell x) (d1 : ∃ x, o1.data = .cell x)
    (H1 : CodeHd h₀ 41 37) (H2 : CodeHd h₀ 34 30) (hl : h₀.IsList al vs.toArray) (hi : IntsAre vs xs) (hx : xs.length ≤ 63) (hm : m₀ "script" = some (.ref al)) (lt : 37 < L ∧ 30 < L)
    (q : ∀ s' m', Sm s s' → Fr h₀ L s'.heap m' → GrownAll [(41, 37), (34, 30)] s'.heap → Q (.ret (.bool true)) s') :
    wpAny (model Pg w) (callerA.deeper (envOfC "law" sc L fa cd)) (execs b (envOfC "law" sc L fa cd)) Q E s := by
  obtain rfl : lawBody = b := by unfold lawBody; rw [hlaw]; rfl
  obtain rfl : lawScope = sc := by unfold lawScope; rw [hlaw]; rfl
  have hc : cellsFrom (L + 1) lawScope.names [] = lawCells L :=
    scope_cast (P := fun sc => cellsFrom (L + 1) sc.names [] = _) rfl rfl
  have he : envOfC "law" lawScope L fa cd = envX "law" lawScope L fa cd (lawCells L) := by
    rw [← hc]; rfl
  rw [he]
  generalize hE : envX "law" lawScope L fa cd (lawCells L) = env
  have hk : lawScope.kind = .function := scope_cast (P := fun sc => sc.kind = _) rfl rfl
  let c : C := { w := w, p := p, loose := loose, mean := mean, mg := mg, mb := mb, A₀ := callerA, base := h₀, outer := [], h₀ := h₀, L := L, env := env, A := callerA.deeper env, n := 100, ns := lawNames }
  have ok : c.Ok := {
    B := B, X := X, T := T, H := ⟨H1, H2⟩
    hA := rfl
    hf := by show env.frame = _; rw [← hE]
    hL := by show env.locals = _; rw [← hE]
    hg := by show env.globals = _; rw [← hE]
    hb := by show env.builtins = _; rw [← hE]
    hk := by show env.scope.kind = _; rw [← hE]; exact hk
    hh := rfl
    hd := by show callerA.depth + 1 + 100 < recursionLimit; decide
    hu := by show callerA.units + 3 + 8 * 100 < cLine; decide
    nd := lawNames_nd
    loc := by
      show ∀ x ∈ lawNames, env.scope.names.lookup x = some .local
      rw [← hE]
      exact lawNames_loc }
  have r : R c (LM (.ref al) .any .any .any .any .any .any .any .any .any .any .any .any .any .any .any .any .any .any .any .any .any .any .any .any .any .any .any)
      [(L + 1 + 1 + 1 + 1 + 1 + 1, .cell .any), (L + 1 + 1 + 1 + 1 + 1, .cell .any), (L + 1 + 1 + 1 + 1, .cell .any), (L + 1 + 1 + 1, .cell .any), (L + 1 + 1, .cell .any), (L + 1, .cell .any)] s.heap := by
    refine ⟨[(37, .obj (tabObj #[])), (30, .obj (tabObj #[]))], ⟨_, _, rfl, .inl rfl, .inl rfl⟩, ⟨⟨m₀, F, ⟨⟨_, hm, rfl⟩, trivial, trivial, trivial, trivial, trivial, trivial, trivial, trivial, trivial, trivial, trivial, trivial, trivial, trivial, trivial, trivial, trivial, trivial, trivial, trivial, trivial, trivial, trivial, trivial, trivial, trivial, trivial, trivial⟩⟩, rfl, ?_, ?_⟩, ?_⟩
    · have cell : ∀ {a : Addr} {o : Obj}, (a, o) ∈ [(L + 1 + 1 + 1 + 1 + 1 + 1, o6), (L + 1 + 1 + 1 + 1 + 1, o5), (L + 1 + 1 + 1 + 1, o4), (L + 1 + 1 + 1, o3), (L + 1 + 1, o2), (L + 1, o1), (37, tabObj #[]), (30, tabObj #[])] → (∃ x, o.data = .cell x) → (∃ o, s.heap.get? a = some o) ∧ a ≠ c.L ∧ c.h₀.get? a = none ∧ (It.cell .any).At s.heap a :=
        fun hm ⟨x, hd⟩ => ⟨⟨_, (N _ hm).1⟩, (N _ hm).2.1, (N _ hm).2.2, ⟨_, x, (N _ hm).1, hd, trivial⟩⟩
      have obj : ∀ {a : Addr} {o : Obj}, (a, o) ∈ [(L + 1 + 1 + 1 + 1 + 1 + 1, o6), (L + 1 + 1 + 1 + 1 + 1, o5), (L + 1 + 1 + 1 + 1, o4), (L + 1 + 1 + 1, o3), (L + 1 + 1, o2), (L + 1, o1), (37, tabObj #[]), (30, tabObj #[])] → (∃ o, s.heap.get? a = some o) ∧ a ≠ c.L ∧ c.h₀.get? a = none ∧ (It.obj o).At s.heap a :=
        fun hm => ⟨⟨_, (N _ hm).1⟩, (N _ hm).2.1, (N _ hm).2.2, (N _ hm).1⟩
      intro p hp
      simp only [List.cons_append, List.nil_append, List.mem_cons, List.not_mem_nil, or_false] at hp
      rcases hp with rfl | rfl | rfl | rfl | rfl | rfl | rfl | rfl
      · exact cell (by simp) d6
      · exact cell (by simp) d5
      · exact cell (by simp) d4
      · exact cell (by simp) d3
      · exact cell (by simp) d2
      · exact cell (by simp) d1
      · exact obj (by simp)
      · exact obj (by simp)
    · obtain ⟨l1, l2⟩ := lt
      simp only [List.cons_append, List.nil_append, List.map_cons, List.map_nil, List.nodup_cons, List.mem_cons, List.not_mem_nil, or_false, not_or, not_false_eq_true, List.nodup_nil, and_true]
      refine ⟨⟨?_, ?_, ?_, ?_, ?_, ?_, ?_⟩, ⟨?_, ?_, ?_, ?_, ?_, ?_⟩, ⟨?_, ?_, ?_, ?_, ?_⟩, ⟨?_, ?_, ?_, ?_⟩, ⟨?_, ?_, ?_⟩, ⟨?_, ?_⟩, ?_⟩ <;> (simp only [Addr] at *; omega)
    · intro p hp c' q' e
      simp only [List.mem_cons, List.not_mem_nil, or_false] at hp
      rcases hp with rfl | rfl | rfl | rfl | rfl | rfl <;> cases e
  have W := law_all (c := c) (KF' := fun fl _ _ => fl = .ret (.bool true)) (fa := fa) (cd := cd) ok rfl (Nat.le_refl _) hE.symm hl hi hx (fun _ _ => rfl)
  refine W.useE Sm.refl r ?_
  rintro fl f m' l' s' i r' e' rfl
  obtain ⟨v, rfl, rfl⟩ := i
  obtain ⟨T', ⟨T1, T2, rfl, t1, t2⟩, r0, _⟩ := r'
  obtain ⟨m1, F1, _⟩ := r0.nm
  have grown : ∀ {P : Addr} {line col : Nat} {qn : Str} {TT : Lg}, TbAt P line col qn TT → (∀ x ∈ TT, x ∈ l' ++ (T1 ++ T2)) → GrownAt P s'.heap := fun t k => by
    rcases t with rfl | ⟨c', rfl⟩
    · exact ⟨_, (r0.lg _ (k _ (.head _))).2.2.2⟩
    · exact ⟨_, (r0.lg _ (k _ (.head _))).2.2.2⟩
  exact q s' m1 e' F1 ⟨grown t1 fun x hx => by simp [hx], grown t2 fun x hx => by simp [hx], trivial⟩
/- The kit's head makes, for each constant of this theorem, a quick twin (whole.tw<hash>, whole.te<hash>), which costs 15 MB of compiled proof and no less time here.
   Where the twin's name is taken, the kit goes on without it. So the names are taken ahead; the steps that follow are the kernel's own on the plain constants. -/
theorem whole.tw10025635815308576066 : True := trivial
theorem whole.tw10178181129370835086 : True := trivial
theorem whole.tw10499325594661192776 : True := trivial
theorem whole.tw10590843552420965350 : True := trivial
theorem whole.tw10798131782317453341 : True := trivial
theorem whole.tw10887019763833697050 : True := trivial
theorem whole.tw11116944545036436439 : True := trivial
theorem whole.tw11401351377558187561 : True := trivial
theorem whole.tw11876454138822706389 : True := trivial
theorem whole.tw12179455670472476543 : True := trivial
theorem whole.tw12346461896057553308 : True := trivial
theorem whole.tw12442016628978143412 : True := trivial
theorem whole.tw12562849145585476731 : True := trivial
theorem whole.tw1266484639899004939 : True := trivial
theorem whole.tw13151456211161260105 : True := trivial
theorem whole.tw1329479340354266572 : True := trivial
theorem whole.tw1363506702145506021 : True := trivial
theorem whole.tw13760198194640045919 : True := trivial
theorem whole.tw1393339623888494026 : True := trivial
theorem whole.tw13971171401525904462 : True := trivial
theorem whole.tw14031613983174702221 : True := trivial
theorem whole.tw14138553856905868755 : True := trivial
theorem whole.tw14381574177426341226 : True := trivial
theorem whole.tw14492196311604417308 : True := trivial
theorem whole.tw1469139166737108290 : True := trivial
theorem whole.tw1488662743745869538 : True := trivial
theorem whole.tw14890280090424698046 : True := trivial
theorem whole.tw15695161780090201225 : True := trivial
theorem whole.tw15835130817642446534 : True := trivial
theorem whole.tw1640677438868554593 : True := trivial
theorem whole.tw1643118292457290854 : True := trivial
theorem whole.tw1655710756853794721 : True := trivial
theorem whole.tw16731332320388202666 : True := trivial
theorem whole.tw16741440440132755172 : True := trivial
theorem whole.tw17075553230084287909 : True := trivial
theorem whole.tw17169624498616045403 : True := trivial
theorem whole.tw17221409760620009834 : True := trivial
theorem whole.tw17529894129228449367 : True := trivial
theorem whole.tw17659150536888882668 : True := trivial
theorem whole.tw17700112632457955127 : True := trivial
theorem whole.tw17781206938751360472 : True := trivial
theorem whole.tw1788125545244323292 : True := trivial
theorem whole.tw18135788421098096370 : True := trivial
theorem whole.tw18174217711786252908 : True := trivial
theorem whole.tw1902754551582867561 : True := trivial
theorem whole.tw2013318861076662011 : True := trivial
theorem whole.tw2168223474955763204 : True := trivial
theorem whole.tw2290268214366725154 : True := trivial
theorem whole.tw2349701861695252166 : True := trivial
theorem whole.tw285988719286631819 : True := trivial
theorem whole.tw2912573282932879776 : True := trivial
theorem whole.tw3085902745639715626 : True := trivial
theorem whole.tw3150075250938504248 : True := trivial
theorem whole.tw3798757254938238448 : True := trivial
theorem whole.tw4180466227808675834 : True := trivial
theorem whole.tw4337987958061720545 : True := trivial
theorem whole.tw4357746044423742650 : True := trivial
theorem whole.tw4479364801722962140 : True := trivial
theorem whole.tw4672207989499910625 : True := trivial
theorem whole.tw4772658413541480157 : True := trivial
theorem whole.tw4918820536221260690 : True := trivial
theorem whole.tw5477020428343274486 : True := trivial
theorem whole.tw5938623499991607928 : True := trivial
theorem whole.tw6097748072631727781 : True := trivial
theorem whole.tw6150244297128479101 : True := trivial
theorem whole.tw6266228650988000492 : True := trivial
theorem whole.tw6290923202673413122 : True := trivial
theorem whole.tw6356627984389668255 : True := trivial
theorem whole.tw6416634858453334624 : True := trivial
theorem whole.tw6525215580464160042 : True := trivial
theorem whole.tw6607592282417151106 : True := trivial
theorem whole.tw6866068747796929802 : True := trivial
theorem whole.tw6888942637506950926 : True := trivial
theorem whole.tw6891315699540082446 : True := trivial
theorem whole.tw7056001396292377188 : True := trivial
theorem whole.tw7276013540153241084 : True := trivial
theorem whole.tw7466904020207815869 : True := trivial
theorem whole.tw7509650053966640704 : True := trivial
theorem whole.tw7525632177321363660 : True := trivial
theorem whole.tw7856580471358416282 : True := trivial
theorem whole.tw7868544009499267292 : True := trivial
theorem whole.tw8181180424491326830 : True := trivial
theorem whole.tw8243020233432551205 : True := trivial
theorem whole.tw8289003193492261950 : True := trivial
theorem whole.tw8398797258006769423 : True := trivial
theorem whole.tw8444963059077079450 : True := trivial
theorem whole.tw8799044985600393684 : True := trivial
theorem whole.tw9024608533772062355 : True := trivial
theorem whole.tw9081442686682602634 : True := trivial
theorem whole.tw9121730484126507938 : True := trivial
theorem whole.tw9235561108164731721 : True := trivial
theorem whole.tw9326387950562138055 : True := trivial
theorem whole.tw9406530864695525851 : True := trivial
theorem whole.tw9654072969724333583 : True := trivial
theorem whole.tw9707250908836423824 : True := trivial
theorem whole.tw9775085227918541326 : True := trivial
theorem whole.tw9787344453429475573 : True := trivial
theorem whole.tw9949140531896261646 : True := trivial
theorem whole.tw9951143050096045611 : True := trivial
set_option Elab.async true in
theorem whole : PySem.Challenge.rw_rs0210_01.Holds := by
  w_on; o_law
  o_head (kmHook Mine.K0 Mine.K0a (fun _ => by kernel_rfl) [37, 30])
  (case hw => w_witness2)
  k_go0
  rename_i X0 X' T' K' F' ch1 N' l0
  refine Mine.law_run (hlaw := ?law) X' T' K' F' N' ⟨_, by assumption⟩ ⟨_, by assumption⟩ ⟨_, by assumption⟩ ⟨_, by assumption⟩ ⟨_, by assumption⟩ ⟨_, by assumption⟩ ch1 codeHd lifted (by assumption) ?len ?arg l0 ?post
  case law => rfl
  case len => omega
  case arg => rfl
  case post =>
    rintro s' m' ⟨h, tk, rfl⟩ F2 G
    refine ⟨?_, G⟩
    refine goodW_bool (by assumption) (by assumption) (raisesW_false ?_) ?_
    · wrow_none_raised
    · kc_post
end Mine
theorem PySem.Challenge.cw_rs0210_01_holds : PySem.Challenge.rw_rs0210_01.Holds := by
  exact Mine.whole
