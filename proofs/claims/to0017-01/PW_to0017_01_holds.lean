import PyProof.Rows.All
import Wide.All
import OpenK.AllK
import Wide.FinOn
import Lean
import PySem.Challenge.RW_to0017_01
open PySem PySem.W PyProof.Rows PySem.Spec PySem.Calls
set_option Elab.async false
set_option maxRecDepth 100000
set_option maxHeartbeats 4000000
namespace Mine
abbrev Row : OpenRow := PySem.Challenge.rw_to0017_01.row
abbrev Prg : Program := PySem.Challenge.rw_to0017_01.row.prog
def dOf (k : Nat) : Arguments × List Stmt × Scope := match Prg.main.body[k]? with
  | some (.FunctionDef _ a b _ _ _ sc _ _ _) => (a, b, sc)
  | _ => (⟨[], [], none, [], [], none, []⟩, [], { kind := .function, names := [], isGenerator := false, isCoroutine := false })
def fnO (nm : String) (k : Nat) (pm : String) (pt : Tok) (cd : Addr) : Obj :=
  { cls := .type "function", data := .func { name := Str.ofString nm, qualname := Str.ofString nm, params := (dOf k).1, body := .stmts (dOf k).2.1, scope := (dOf k).2.2, globals := 3, closure := [], defaults := .none, kwdefaults := .none, pyModule := .str (Str.ofString pm) pt, code := .ref cd } }
def vw : Program := view Prg [1, 3, 4, 5, 6, 7, 8, 9, 10, 11, 12, 14, 15, 16, 17, 18, 19, 20, 21, 22, 23, 24, 25, 26, 27, 28, 29, 30, 31, 32, 33, 34, 35, 36, 37, 38, 39, 40, 41, 42, 43, 44, 45, 46, 47, 48, 49, 50, 51, 52, 53, 54, 55, 56, 57, 58, 59, 60, 61, 62, 63, 64, 65, 66, 68, 69, 70, 71, 72, 73, 74, 75, 76, 77, 78, 79]
def KK : Params → Frag := fun P =>
  (nat_lit 2, { cls := Value.none, data := Data.dict #[] }) ::
  (nat_lit 3, { cls := Value.type "dict", data := Data.dict (List.toArray ({ hash := PyData.keyHash P (Str.ofString "__name__"), key := Value.str (Str.ofString "__name__") 165, val := Value.str (Str.ofString "law_to0017_01") 496 } :: { hash := PyData.keyHash P (Str.ofString "__doc__"), key := Value.str (Str.ofString "__doc__") 166, val := Value.none } :: { hash := PyData.keyHash P (Str.ofString "__package__"), key := Value.str (Str.ofString "__package__") 167, val := Value.none } :: { hash := PyData.keyHash P (Str.ofString "__loader__"), key := Value.str (Str.ofString "__loader__") 168, val := Value.builtin "__main__.__loader__#opaque" } :: { hash := PyData.keyHash P (Str.ofString "__spec__"), key := Value.str (Str.ofString "__spec__") 169, val := Value.none } :: { hash := PyData.keyHash P (Str.ofString "__annotations__"), key := Value.str (Str.ofString "__annotations__") 170, val := Value.ref 6 } :: { hash := PyData.keyHash P (Str.ofString "__builtins__"), key := Value.str (Str.ofString "__builtins__") 171, val := Value.ref 4 } :: { hash := PyData.keyHash P (Str.ofString "__file__"), key := Value.str (Str.ofString "__file__") 173, val := Value.str (Str.ofString "/claim/cut.py") 172 } :: { hash := PyData.keyHash P (Str.ofString "__cached__"), key := Value.str (Str.ofString "__cached__") 174, val := Value.none } :: { hash := PyData.keyHash P (Str.ofString "yiq_to_rgb"), key := Value.str (Str.ofString "yiq_to_rgb") 200, val := Value.ref 21 } :: { hash := PyData.keyHash P (Str.ofString "le"), key := Value.str (Str.ofString "le") 210, val := Value.ref 28 } :: { hash := PyData.keyHash P (Str.ofString "truth"), key := Value.str (Str.ofString "truth") 217, val := Value.ref 35 } :: { hash := PyData.keyHash P (Str.ofString "add"), key := Value.str (Str.ofString "add") 225, val := Value.ref 42 } :: { hash := PyData.keyHash P (Str.ofString "and_"), key := Value.str (Str.ofString "and_") 233, val := Value.ref 49 } :: { hash := PyData.keyHash P (Str.ofString "inv"), key := Value.str (Str.ofString "inv") 240, val := Value.ref 56 } :: { hash := PyData.keyHash P (Str.ofString "lshift"), key := Value.str (Str.ofString "lshift") 248, val := Value.ref 63 } :: { hash := PyData.keyHash P (Str.ofString "or_"), key := Value.str (Str.ofString "or_") 256, val := Value.ref 70 } :: { hash := PyData.keyHash P (Str.ofString "contains"), key := Value.str (Str.ofString "contains") 264, val := Value.ref 77 } :: { hash := PyData.keyHash P (Str.ofString "getitem"), key := Value.str (Str.ofString "getitem") 272, val := Value.ref 84 } :: { hash := PyData.keyHash P (Str.ofString "indexOf"), key := Value.str (Str.ofString "indexOf") 282, val := Value.ref 91 } :: { hash := PyData.keyHash P (Str.ofString "ENDMARKER"), key := Value.str (Str.ofString "ENDMARKER") 286, val := Value.int 0 285 } :: { hash := PyData.keyHash P (Str.ofString "LPAR"), key := Value.str (Str.ofString "LPAR") 288, val := Value.int 7 287 } :: { hash := PyData.keyHash P (Str.ofString "RPAR"), key := Value.str (Str.ofString "RPAR") 290, val := Value.int 8 289 } :: { hash := PyData.keyHash P (Str.ofString "LSQB"), key := Value.str (Str.ofString "LSQB") 292, val := Value.int 9 291 } :: { hash := PyData.keyHash P (Str.ofString "RSQB"), key := Value.str (Str.ofString "RSQB") 294, val := Value.int 10 293 } :: { hash := PyData.keyHash P (Str.ofString "COLON"), key := Value.str (Str.ofString "COLON") 296, val := Value.int 11 295 } :: { hash := PyData.keyHash P (Str.ofString "COMMA"), key := Value.str (Str.ofString "COMMA") 298, val := Value.int 12 297 } :: { hash := PyData.keyHash P (Str.ofString "SEMI"), key := Value.str (Str.ofString "SEMI") 300, val := Value.int 13 299 } :: { hash := PyData.keyHash P (Str.ofString "PLUS"), key := Value.str (Str.ofString "PLUS") 302, val := Value.int 14 301 } :: { hash := PyData.keyHash P (Str.ofString "MINUS"), key := Value.str (Str.ofString "MINUS") 304, val := Value.int 15 303 } :: { hash := PyData.keyHash P (Str.ofString "STAR"), key := Value.str (Str.ofString "STAR") 306, val := Value.int 16 305 } :: { hash := PyData.keyHash P (Str.ofString "SLASH"), key := Value.str (Str.ofString "SLASH") 308, val := Value.int 17 307 } :: { hash := PyData.keyHash P (Str.ofString "VBAR"), key := Value.str (Str.ofString "VBAR") 310, val := Value.int 18 309 } :: { hash := PyData.keyHash P (Str.ofString "AMPER"), key := Value.str (Str.ofString "AMPER") 312, val := Value.int 19 311 } :: { hash := PyData.keyHash P (Str.ofString "LESS"), key := Value.str (Str.ofString "LESS") 314, val := Value.int 20 313 } :: { hash := PyData.keyHash P (Str.ofString "GREATER"), key := Value.str (Str.ofString "GREATER") 316, val := Value.int 21 315 } :: { hash := PyData.keyHash P (Str.ofString "EQUAL"), key := Value.str (Str.ofString "EQUAL") 318, val := Value.int 22 317 } :: { hash := PyData.keyHash P (Str.ofString "DOT"), key := Value.str (Str.ofString "DOT") 320, val := Value.int 23 319 } :: { hash := PyData.keyHash P (Str.ofString "PERCENT"), key := Value.str (Str.ofString "PERCENT") 322, val := Value.int 24 321 } :: { hash := PyData.keyHash P (Str.ofString "LBRACE"), key := Value.str (Str.ofString "LBRACE") 324, val := Value.int 25 323 } :: { hash := PyData.keyHash P (Str.ofString "RBRACE"), key := Value.str (Str.ofString "RBRACE") 326, val := Value.int 26 325 } :: { hash := PyData.keyHash P (Str.ofString "EQEQUAL"), key := Value.str (Str.ofString "EQEQUAL") 328, val := Value.int 27 327 } :: { hash := PyData.keyHash P (Str.ofString "NOTEQUAL"), key := Value.str (Str.ofString "NOTEQUAL") 330, val := Value.int 28 329 } :: { hash := PyData.keyHash P (Str.ofString "LESSEQUAL"), key := Value.str (Str.ofString "LESSEQUAL") 332, val := Value.int 29 331 } :: { hash := PyData.keyHash P (Str.ofString "GREATEREQUAL"), key := Value.str (Str.ofString "GREATEREQUAL") 334, val := Value.int 30 333 } :: { hash := PyData.keyHash P (Str.ofString "TILDE"), key := Value.str (Str.ofString "TILDE") 336, val := Value.int 31 335 } :: { hash := PyData.keyHash P (Str.ofString "CIRCUMFLEX"), key := Value.str (Str.ofString "CIRCUMFLEX") 338, val := Value.int 32 337 } :: { hash := PyData.keyHash P (Str.ofString "LEFTSHIFT"), key := Value.str (Str.ofString "LEFTSHIFT") 340, val := Value.int 33 339 } :: { hash := PyData.keyHash P (Str.ofString "RIGHTSHIFT"), key := Value.str (Str.ofString "RIGHTSHIFT") 342, val := Value.int 34 341 } :: { hash := PyData.keyHash P (Str.ofString "DOUBLESTAR"), key := Value.str (Str.ofString "DOUBLESTAR") 344, val := Value.int 35 343 } :: { hash := PyData.keyHash P (Str.ofString "PLUSEQUAL"), key := Value.str (Str.ofString "PLUSEQUAL") 346, val := Value.int 36 345 } :: { hash := PyData.keyHash P (Str.ofString "MINEQUAL"), key := Value.str (Str.ofString "MINEQUAL") 348, val := Value.int 37 347 } :: { hash := PyData.keyHash P (Str.ofString "STAREQUAL"), key := Value.str (Str.ofString "STAREQUAL") 350, val := Value.int 38 349 } :: { hash := PyData.keyHash P (Str.ofString "SLASHEQUAL"), key := Value.str (Str.ofString "SLASHEQUAL") 352, val := Value.int 39 351 } :: { hash := PyData.keyHash P (Str.ofString "PERCENTEQUAL"), key := Value.str (Str.ofString "PERCENTEQUAL") 354, val := Value.int 40 353 } :: { hash := PyData.keyHash P (Str.ofString "AMPEREQUAL"), key := Value.str (Str.ofString "AMPEREQUAL") 356, val := Value.int 41 355 } :: { hash := PyData.keyHash P (Str.ofString "VBAREQUAL"), key := Value.str (Str.ofString "VBAREQUAL") 358, val := Value.int 42 357 } :: { hash := PyData.keyHash P (Str.ofString "CIRCUMFLEXEQUAL"), key := Value.str (Str.ofString "CIRCUMFLEXEQUAL") 360, val := Value.int 43 359 } :: { hash := PyData.keyHash P (Str.ofString "LEFTSHIFTEQUAL"), key := Value.str (Str.ofString "LEFTSHIFTEQUAL") 362, val := Value.int 44 361 } :: { hash := PyData.keyHash P (Str.ofString "RIGHTSHIFTEQUAL"), key := Value.str (Str.ofString "RIGHTSHIFTEQUAL") 364, val := Value.int 45 363 } :: { hash := PyData.keyHash P (Str.ofString "DOUBLESTAREQUAL"), key := Value.str (Str.ofString "DOUBLESTAREQUAL") 366, val := Value.int 46 365 } :: { hash := PyData.keyHash P (Str.ofString "DOUBLESLASH"), key := Value.str (Str.ofString "DOUBLESLASH") 368, val := Value.int 47 367 } :: { hash := PyData.keyHash P (Str.ofString "DOUBLESLASHEQUAL"), key := Value.str (Str.ofString "DOUBLESLASHEQUAL") 370, val := Value.int 48 369 } :: { hash := PyData.keyHash P (Str.ofString "AT"), key := Value.str (Str.ofString "AT") 372, val := Value.int 49 371 } :: { hash := PyData.keyHash P (Str.ofString "ATEQUAL"), key := Value.str (Str.ofString "ATEQUAL") 374, val := Value.int 50 373 } :: { hash := PyData.keyHash P (Str.ofString "RARROW"), key := Value.str (Str.ofString "RARROW") 376, val := Value.int 51 375 } :: { hash := PyData.keyHash P (Str.ofString "ELLIPSIS"), key := Value.str (Str.ofString "ELLIPSIS") 378, val := Value.int 52 377 } :: { hash := PyData.keyHash P (Str.ofString "COLONEQUAL"), key := Value.str (Str.ofString "COLONEQUAL") 380, val := Value.int 53 379 } :: { hash := PyData.keyHash P (Str.ofString "EXCLAMATION"), key := Value.str (Str.ofString "EXCLAMATION") 382, val := Value.int 54 381 } :: { hash := PyData.keyHash P (Str.ofString "NT_OFFSET"), key := Value.str (Str.ofString "NT_OFFSET") 384, val := Value.int 256 383 } :: { hash := PyData.keyHash P (Str.ofString "EXACT_TOKEN_TYPES"), key := Value.str (Str.ofString "EXACT_TOKEN_TYPES") 481, val := Value.ref 92 } :: { hash := PyData.keyHash P (Str.ofString "ISNONTERMINAL"), key := Value.str (Str.ofString "ISNONTERMINAL") 488, val := Value.ref 101 } :: { hash := PyData.keyHash P (Str.ofString "ISEOF"), key := Value.str (Str.ofString "ISEOF") 495, val := Value.ref 108 } :: { hash := PyData.keyHash P (Str.ofString "_law_numbers"), key := Value.str (Str.ofString "_law_numbers") 503, val := Value.ref 113 } :: { hash := PyData.keyHash P (Str.ofString "_law_symbols"), key := Value.str (Str.ofString "_law_symbols") 514, val := Value.ref 120 } :: { hash := PyData.keyHash P (Str.ofString "_law_formula"), key := Value.str (Str.ofString "_law_formula") 520, val := Value.ref 125 } :: { hash := PyData.keyHash P (Str.ofString "_law_seen"), key := Value.str (Str.ofString "_law_seen") 536, val := Value.ref 132 } :: { hash := PyData.keyHash P (Str.ofString "_law_tables"), key := Value.str (Str.ofString "_law_tables") 546, val := Value.ref 139 } :: { hash := PyData.keyHash P (Str.ofString "_law_game"), key := Value.str (Str.ofString "_law_game") 560, val := Value.ref 146 } :: { hash := PyData.keyHash P (Str.ofString "_law_made"), key := Value.str (Str.ofString "_law_made") 570, val := Value.ref 153 } :: { hash := PyData.keyHash P (Str.ofString "_law_least"), key := Value.str (Str.ofString "_law_least") 578, val := Value.ref 160 } :: { hash := PyData.keyHash P (Str.ofString "_law_read"), key := Value.str (Str.ofString "_law_read") 593, val := Value.ref 167 } :: { hash := PyData.keyHash P (Str.ofString "_law_spread"), key := Value.str (Str.ofString "_law_spread") 606, val := Value.ref 174 } :: { hash := PyData.keyHash P (Str.ofString "_law_fits"), key := Value.str (Str.ofString "_law_fits") 617, val := Value.ref 181 } :: { hash := PyData.keyHash P (Str.ofString "law"), key := Value.str (Str.ofString "law") 623, val := Value.ref 186 } :: [])) 85 }) ::
  (nat_lit 20, { cls := Value.type "code", data := Data.fields #[Value.str (Str.ofString "yiq_to_rgb") 189, Value.str (Str.ofString "yiq_to_rgb") 190, Value.str (Str.ofString "/claim/cut.py") 191, Value.int 2 0, Value.int 3 0, Value.int 0 0, Value.int 0 0, Value.int 3 0, Value.ref 15, Value.bool true, Value.int 181 0, Value.ref 16, Value.none, Value.ref 17, Value.ref 18, Value.ref 19, Value.int 198 0, Value.int 2 0, Value.str (Str.ofString "/claim/cut.py") 199] }) ::
  (nat_lit 21, fnO "yiq_to_rgb" 1 "cpy313.colorsys" 187 20) ::
  (nat_lit 27, { cls := Value.type "code", data := Data.fields #[Value.str (Str.ofString "le") 203, Value.str (Str.ofString "le") 204, Value.str (Str.ofString "/claim/cut.py") 205, Value.int 20 0, Value.int 2 0, Value.int 0 0, Value.int 0 0, Value.int 3 0, Value.ref 22, Value.bool true, Value.int 181 0, Value.ref 23, Value.none, Value.ref 24, Value.ref 25, Value.ref 26, Value.int 208 0, Value.int 20 0, Value.str (Str.ofString "/claim/cut.py") 209] }) ::
  (nat_lit 28, fnO "le" 3 "cpy313.operator" 201 27) ::
  (nat_lit 34, { cls := Value.type "code", data := Data.fields #[Value.str (Str.ofString "truth") 211, Value.str (Str.ofString "truth") 212, Value.str (Str.ofString "/claim/cut.py") 213, Value.int 22 0, Value.int 1 0, Value.int 0 0, Value.int 0 0, Value.int 3 0, Value.ref 29, Value.bool true, Value.int 181 0, Value.ref 30, Value.none, Value.ref 31, Value.ref 32, Value.ref 33, Value.int 215 0, Value.int 22 0, Value.str (Str.ofString "/claim/cut.py") 216] }) ::
  (nat_lit 35, fnO "truth" 4 "cpy313.operator" 201 34) ::
  (nat_lit 41, { cls := Value.type "code", data := Data.fields #[Value.str (Str.ofString "add") 218, Value.str (Str.ofString "add") 219, Value.str (Str.ofString "/claim/cut.py") 220, Value.int 24 0, Value.int 2 0, Value.int 0 0, Value.int 0 0, Value.int 3 0, Value.ref 36, Value.bool true, Value.int 181 0, Value.ref 37, Value.none, Value.ref 38, Value.ref 39, Value.ref 40, Value.int 223 0, Value.int 24 0, Value.str (Str.ofString "/claim/cut.py") 224] }) ::
  (nat_lit 42, fnO "add" 5 "cpy313.operator" 201 41) ::
  (nat_lit 48, { cls := Value.type "code", data := Data.fields #[Value.str (Str.ofString "and_") 226, Value.str (Str.ofString "and_") 227, Value.str (Str.ofString "/claim/cut.py") 228, Value.int 26 0, Value.int 2 0, Value.int 0 0, Value.int 0 0, Value.int 3 0, Value.ref 43, Value.bool true, Value.int 181 0, Value.ref 44, Value.none, Value.ref 45, Value.ref 46, Value.ref 47, Value.int 231 0, Value.int 26 0, Value.str (Str.ofString "/claim/cut.py") 232] }) ::
  (nat_lit 49, fnO "and_" 6 "cpy313.operator" 201 48) ::
  (nat_lit 55, { cls := Value.type "code", data := Data.fields #[Value.str (Str.ofString "inv") 234, Value.str (Str.ofString "inv") 235, Value.str (Str.ofString "/claim/cut.py") 236, Value.int 28 0, Value.int 1 0, Value.int 0 0, Value.int 0 0, Value.int 3 0, Value.ref 50, Value.bool true, Value.int 181 0, Value.ref 51, Value.none, Value.ref 52, Value.ref 53, Value.ref 54, Value.int 238 0, Value.int 28 0, Value.str (Str.ofString "/claim/cut.py") 239] }) ::
  (nat_lit 56, fnO "inv" 7 "cpy313.operator" 201 55) ::
  (nat_lit 62, { cls := Value.type "code", data := Data.fields #[Value.str (Str.ofString "lshift") 241, Value.str (Str.ofString "lshift") 242, Value.str (Str.ofString "/claim/cut.py") 243, Value.int 30 0, Value.int 2 0, Value.int 0 0, Value.int 0 0, Value.int 3 0, Value.ref 57, Value.bool true, Value.int 181 0, Value.ref 58, Value.none, Value.ref 59, Value.ref 60, Value.ref 61, Value.int 246 0, Value.int 30 0, Value.str (Str.ofString "/claim/cut.py") 247] }) ::
  (nat_lit 63, fnO "lshift" 8 "cpy313.operator" 201 62) ::
  (nat_lit 69, { cls := Value.type "code", data := Data.fields #[Value.str (Str.ofString "or_") 249, Value.str (Str.ofString "or_") 250, Value.str (Str.ofString "/claim/cut.py") 251, Value.int 32 0, Value.int 2 0, Value.int 0 0, Value.int 0 0, Value.int 3 0, Value.ref 64, Value.bool true, Value.int 181 0, Value.ref 65, Value.none, Value.ref 66, Value.ref 67, Value.ref 68, Value.int 254 0, Value.int 32 0, Value.str (Str.ofString "/claim/cut.py") 255] }) ::
  (nat_lit 70, fnO "or_" 9 "cpy313.operator" 201 69) ::
  (nat_lit 76, { cls := Value.type "code", data := Data.fields #[Value.str (Str.ofString "contains") 257, Value.str (Str.ofString "contains") 258, Value.str (Str.ofString "/claim/cut.py") 259, Value.int 34 0, Value.int 2 0, Value.int 0 0, Value.int 0 0, Value.int 3 0, Value.ref 71, Value.bool true, Value.int 181 0, Value.ref 72, Value.none, Value.ref 73, Value.ref 74, Value.ref 75, Value.int 262 0, Value.int 34 0, Value.str (Str.ofString "/claim/cut.py") 263] }) ::
  (nat_lit 77, fnO "contains" 10 "cpy313.operator" 201 76) ::
  (nat_lit 83, { cls := Value.type "code", data := Data.fields #[Value.str (Str.ofString "getitem") 265, Value.str (Str.ofString "getitem") 266, Value.str (Str.ofString "/claim/cut.py") 267, Value.int 36 0, Value.int 2 0, Value.int 0 0, Value.int 0 0, Value.int 3 0, Value.ref 78, Value.bool true, Value.int 181 0, Value.ref 79, Value.none, Value.ref 80, Value.ref 81, Value.ref 82, Value.int 270 0, Value.int 36 0, Value.str (Str.ofString "/claim/cut.py") 271] }) ::
  (nat_lit 84, fnO "getitem" 11 "cpy313.operator" 201 83) ::
  (nat_lit 90, { cls := Value.type "code", data := Data.fields #[Value.str (Str.ofString "indexOf") 273, Value.str (Str.ofString "indexOf") 274, Value.str (Str.ofString "/claim/cut.py") 275, Value.int 38 0, Value.int 2 0, Value.int 0 0, Value.int 0 0, Value.int 3 0, Value.ref 85, Value.bool true, Value.int 181 0, Value.ref 86, Value.none, Value.ref 87, Value.ref 88, Value.ref 89, Value.int 280 0, Value.int 38 0, Value.str (Str.ofString "/claim/cut.py") 281] }) ::
  (nat_lit 91, fnO "indexOf" 12 "cpy313.operator" 201 90) ::
  (nat_lit 92, { cls := Value.type "dict", data := Data.dict (List.toArray ({ hash := PyData.keyHash P (Str.ofString "!"), key := Value.str (Str.ofString "!") 385, val := Value.int 54 381 } :: { hash := PyData.keyHash P (Str.ofString "!="), key := Value.str (Str.ofString "!=") 387, val := Value.int 28 329 } :: { hash := PyData.keyHash P (Str.ofString "%"), key := Value.str (Str.ofString "%") 389, val := Value.int 24 321 } :: { hash := PyData.keyHash P (Str.ofString "%="), key := Value.str (Str.ofString "%=") 391, val := Value.int 40 353 } :: { hash := PyData.keyHash P (Str.ofString "&"), key := Value.str (Str.ofString "&") 393, val := Value.int 19 311 } :: { hash := PyData.keyHash P (Str.ofString "&="), key := Value.str (Str.ofString "&=") 395, val := Value.int 41 355 } :: { hash := PyData.keyHash P (Str.ofString "("), key := Value.str (Str.ofString "(") 397, val := Value.int 7 287 } :: { hash := PyData.keyHash P (Str.ofString ")"), key := Value.str (Str.ofString ")") 399, val := Value.int 8 289 } :: { hash := PyData.keyHash P (Str.ofString "*"), key := Value.str (Str.ofString "*") 401, val := Value.int 16 305 } :: { hash := PyData.keyHash P (Str.ofString "**"), key := Value.str (Str.ofString "**") 403, val := Value.int 35 343 } :: { hash := PyData.keyHash P (Str.ofString "**="), key := Value.str (Str.ofString "**=") 405, val := Value.int 46 365 } :: { hash := PyData.keyHash P (Str.ofString "*="), key := Value.str (Str.ofString "*=") 407, val := Value.int 38 349 } :: { hash := PyData.keyHash P (Str.ofString "+"), key := Value.str (Str.ofString "+") 409, val := Value.int 14 301 } :: { hash := PyData.keyHash P (Str.ofString "+="), key := Value.str (Str.ofString "+=") 411, val := Value.int 36 345 } :: { hash := PyData.keyHash P (Str.ofString ","), key := Value.str (Str.ofString ",") 413, val := Value.int 12 297 } :: { hash := PyData.keyHash P (Str.ofString "-"), key := Value.str (Str.ofString "-") 415, val := Value.int 15 303 } :: { hash := PyData.keyHash P (Str.ofString "-="), key := Value.str (Str.ofString "-=") 417, val := Value.int 37 347 } :: { hash := PyData.keyHash P (Str.ofString "->"), key := Value.str (Str.ofString "->") 419, val := Value.int 51 375 } :: { hash := PyData.keyHash P (Str.ofString "."), key := Value.str (Str.ofString ".") 421, val := Value.int 23 319 } :: { hash := PyData.keyHash P (Str.ofString "..."), key := Value.str (Str.ofString "...") 423, val := Value.int 52 377 } :: { hash := PyData.keyHash P (Str.ofString "/"), key := Value.str (Str.ofString "/") 425, val := Value.int 17 307 } :: { hash := PyData.keyHash P (Str.ofString "//"), key := Value.str (Str.ofString "//") 427, val := Value.int 47 367 } :: { hash := PyData.keyHash P (Str.ofString "//="), key := Value.str (Str.ofString "//=") 429, val := Value.int 48 369 } :: { hash := PyData.keyHash P (Str.ofString "/="), key := Value.str (Str.ofString "/=") 431, val := Value.int 39 351 } :: { hash := PyData.keyHash P (Str.ofString ":"), key := Value.str (Str.ofString ":") 433, val := Value.int 11 295 } :: { hash := PyData.keyHash P (Str.ofString ":="), key := Value.str (Str.ofString ":=") 435, val := Value.int 53 379 } :: { hash := PyData.keyHash P (Str.ofString ";"), key := Value.str (Str.ofString ";") 437, val := Value.int 13 299 } :: { hash := PyData.keyHash P (Str.ofString "<"), key := Value.str (Str.ofString "<") 439, val := Value.int 20 313 } :: { hash := PyData.keyHash P (Str.ofString "<<"), key := Value.str (Str.ofString "<<") 441, val := Value.int 33 339 } :: { hash := PyData.keyHash P (Str.ofString "<<="), key := Value.str (Str.ofString "<<=") 443, val := Value.int 44 361 } :: { hash := PyData.keyHash P (Str.ofString "<="), key := Value.str (Str.ofString "<=") 445, val := Value.int 29 331 } :: { hash := PyData.keyHash P (Str.ofString "="), key := Value.str (Str.ofString "=") 447, val := Value.int 22 317 } :: { hash := PyData.keyHash P (Str.ofString "=="), key := Value.str (Str.ofString "==") 449, val := Value.int 27 327 } :: { hash := PyData.keyHash P (Str.ofString ">"), key := Value.str (Str.ofString ">") 451, val := Value.int 21 315 } :: { hash := PyData.keyHash P (Str.ofString ">="), key := Value.str (Str.ofString ">=") 453, val := Value.int 30 333 } :: { hash := PyData.keyHash P (Str.ofString ">>"), key := Value.str (Str.ofString ">>") 454, val := Value.int 34 341 } :: { hash := PyData.keyHash P (Str.ofString ">>="), key := Value.str (Str.ofString ">>=") 455, val := Value.int 45 363 } :: { hash := PyData.keyHash P (Str.ofString "@"), key := Value.str (Str.ofString "@") 456, val := Value.int 49 371 } :: { hash := PyData.keyHash P (Str.ofString "@="), key := Value.str (Str.ofString "@=") 457, val := Value.int 50 373 } :: { hash := PyData.keyHash P (Str.ofString "["), key := Value.str (Str.ofString "[") 458, val := Value.int 9 291 } :: { hash := PyData.keyHash P (Str.ofString "]"), key := Value.str (Str.ofString "]") 459, val := Value.int 10 293 } :: { hash := PyData.keyHash P (Str.ofString "^"), key := Value.str (Str.ofString "^") 460, val := Value.int 32 337 } :: { hash := PyData.keyHash P (Str.ofString "^="), key := Value.str (Str.ofString "^=") 461, val := Value.int 43 359 } :: { hash := PyData.keyHash P (Str.ofString "{"), key := Value.str (Str.ofString "{") 462, val := Value.int 25 323 } :: { hash := PyData.keyHash P (Str.ofString "|"), key := Value.str (Str.ofString "|") 463, val := Value.int 18 309 } :: { hash := PyData.keyHash P (Str.ofString "|="), key := Value.str (Str.ofString "|=") 464, val := Value.int 42 357 } :: { hash := PyData.keyHash P (Str.ofString "}"), key := Value.str (Str.ofString "}") 465, val := Value.int 26 325 } :: { hash := PyData.keyHash P (Str.ofString "~"), key := Value.str (Str.ofString "~") 466, val := Value.int 31 335 } :: [])) 48 }) ::
  (nat_lit 100, { cls := Value.type "code", data := Data.fields #[Value.str (Str.ofString "ISNONTERMINAL") 482, Value.str (Str.ofString "ISNONTERMINAL") 483, Value.str (Str.ofString "/claim/cut.py") 484, Value.int 96 0, Value.int 1 0, Value.int 0 0, Value.int 0 0, Value.int 3 0, Value.ref 95, Value.bool true, Value.int 181 0, Value.ref 96, Value.none, Value.ref 97, Value.ref 98, Value.ref 99, Value.int 486 0, Value.int 96 0, Value.str (Str.ofString "/claim/cut.py") 487] }) ::
  (nat_lit 101, fnO "ISNONTERMINAL" 65 "cpy313.token" 283 100) ::
  (nat_lit 107, { cls := Value.type "code", data := Data.fields #[Value.str (Str.ofString "ISEOF") 489, Value.str (Str.ofString "ISEOF") 490, Value.str (Str.ofString "/claim/cut.py") 491, Value.int 98 0, Value.int 1 0, Value.int 0 0, Value.int 0 0, Value.int 3 0, Value.ref 102, Value.bool true, Value.int 181 0, Value.ref 103, Value.none, Value.ref 104, Value.ref 105, Value.ref 106, Value.int 493 0, Value.int 98 0, Value.str (Str.ofString "/claim/cut.py") 494] }) ::
  (nat_lit 108, fnO "ISEOF" 66 "cpy313.token" 283 107) ::
  (nat_lit 112, { cls := Value.type "code", data := Data.fields #[Value.str (Str.ofString "_law_numbers") 498, Value.str (Str.ofString "_law_numbers") 499, Value.str (Str.ofString "/claim/cut.py") 500, Value.int 101 0, Value.int 2 0, Value.int 0 0, Value.int 0 0, Value.int 3 0, Value.ref 109, Value.bool true, Value.int 181 0, Value.ref 110, Value.none, Value.none, Value.none, Value.ref 111, Value.int 501 0, Value.int 101 0, Value.str (Str.ofString "/claim/cut.py") 502] }) ::
  (nat_lit 113, fnO "_law_numbers" 68 "law_to0017_01" 496 112) ::
  (nat_lit 119, { cls := Value.type "code", data := Data.fields #[Value.str (Str.ofString "_law_symbols") 504, Value.str (Str.ofString "_law_symbols") 505, Value.str (Str.ofString "/claim/cut.py") 506, Value.int 104 0, Value.int 2 0, Value.int 0 0, Value.int 0 0, Value.int 3 0, Value.ref 114, Value.bool true, Value.int 181 0, Value.ref 115, Value.none, Value.ref 116, Value.ref 117, Value.ref 118, Value.int 512 0, Value.int 104 0, Value.str (Str.ofString "/claim/cut.py") 513] }) ::
  (nat_lit 120, fnO "_law_symbols" 69 "law_to0017_01" 496 119) ::
  (nat_lit 124, { cls := Value.type "code", data := Data.fields #[Value.str (Str.ofString "_law_formula") 515, Value.str (Str.ofString "_law_formula") 516, Value.str (Str.ofString "/claim/cut.py") 517, Value.int 118 0, Value.int 1 0, Value.int 0 0, Value.int 0 0, Value.int 3 0, Value.ref 121, Value.bool true, Value.int 181 0, Value.ref 122, Value.none, Value.none, Value.none, Value.ref 123, Value.int 518 0, Value.int 118 0, Value.str (Str.ofString "/claim/cut.py") 519] }) ::
  (nat_lit 125, fnO "_law_formula" 70 "law_to0017_01" 496 124) ::
  (nat_lit 131, { cls := Value.type "code", data := Data.fields #[Value.str (Str.ofString "_law_seen") 521, Value.str (Str.ofString "_law_seen") 522, Value.str (Str.ofString "/claim/cut.py") 523, Value.int 131 0, Value.int 2 0, Value.int 0 0, Value.int 0 0, Value.int 3 0, Value.ref 126, Value.bool true, Value.int 181 0, Value.ref 127, Value.none, Value.ref 128, Value.ref 129, Value.ref 130, Value.int 534 0, Value.int 131 0, Value.str (Str.ofString "/claim/cut.py") 535] }) ::
  (nat_lit 132, fnO "_law_seen" 71 "law_to0017_01" 496 131) ::
  (nat_lit 138, { cls := Value.type "code", data := Data.fields #[Value.str (Str.ofString "_law_tables") 537, Value.str (Str.ofString "_law_tables") 538, Value.str (Str.ofString "/claim/cut.py") 539, Value.int 143 0, Value.int 0 0, Value.int 0 0, Value.int 0 0, Value.int 3 0, Value.ref 133, Value.bool true, Value.int 181 0, Value.ref 134, Value.none, Value.ref 135, Value.ref 136, Value.ref 137, Value.int 544 0, Value.int 143 0, Value.str (Str.ofString "/claim/cut.py") 545] }) ::
  (nat_lit 139, fnO "_law_tables" 72 "law_to0017_01" 496 138) ::
  (nat_lit 145, { cls := Value.type "code", data := Data.fields #[Value.str (Str.ofString "_law_game") 547, Value.str (Str.ofString "_law_game") 548, Value.str (Str.ofString "/claim/cut.py") 549, Value.int 152 0, Value.int 3 0, Value.int 0 0, Value.int 0 0, Value.int 3 0, Value.ref 140, Value.bool true, Value.int 181 0, Value.ref 141, Value.none, Value.ref 142, Value.ref 143, Value.ref 144, Value.int 558 0, Value.int 152 0, Value.str (Str.ofString "/claim/cut.py") 559] }) ::
  (nat_lit 146, fnO "_law_game" 73 "law_to0017_01" 496 145) ::
  (nat_lit 152, { cls := Value.type "code", data := Data.fields #[Value.str (Str.ofString "_law_made") 561, Value.str (Str.ofString "_law_made") 562, Value.str (Str.ofString "/claim/cut.py") 563, Value.int 162 0, Value.int 4 0, Value.int 0 0, Value.int 0 0, Value.int 3 0, Value.ref 147, Value.bool true, Value.int 181 0, Value.ref 148, Value.none, Value.ref 149, Value.ref 150, Value.ref 151, Value.int 568 0, Value.int 162 0, Value.str (Str.ofString "/claim/cut.py") 569] }) ::
  (nat_lit 153, fnO "_law_made" 74 "law_to0017_01" 496 152) ::
  (nat_lit 159, { cls := Value.type "code", data := Data.fields #[Value.str (Str.ofString "_law_least") 571, Value.str (Str.ofString "_law_least") 572, Value.str (Str.ofString "/claim/cut.py") 573, Value.int 166 0, Value.int 2 0, Value.int 0 0, Value.int 0 0, Value.int 3 0, Value.ref 154, Value.bool true, Value.int 181 0, Value.ref 155, Value.none, Value.ref 156, Value.ref 157, Value.ref 158, Value.int 576 0, Value.int 166 0, Value.str (Str.ofString "/claim/cut.py") 577] }) ::
  (nat_lit 160, fnO "_law_least" 75 "law_to0017_01" 496 159) ::
  (nat_lit 166, { cls := Value.type "code", data := Data.fields #[Value.str (Str.ofString "_law_read") 579, Value.str (Str.ofString "_law_read") 580, Value.str (Str.ofString "/claim/cut.py") 581, Value.int 168 0, Value.int 3 0, Value.int 0 0, Value.int 0 0, Value.int 3 0, Value.ref 161, Value.bool true, Value.int 181 0, Value.ref 162, Value.none, Value.ref 163, Value.ref 164, Value.ref 165, Value.int 591 0, Value.int 168 0, Value.str (Str.ofString "/claim/cut.py") 592] }) ::
  (nat_lit 167, fnO "_law_read" 76 "law_to0017_01" 496 166) ::
  (nat_lit 173, { cls := Value.type "code", data := Data.fields #[Value.str (Str.ofString "_law_spread") 594, Value.str (Str.ofString "_law_spread") 595, Value.str (Str.ofString "/claim/cut.py") 596, Value.int 185 0, Value.int 3 0, Value.int 0 0, Value.int 0 0, Value.int 3 0, Value.ref 168, Value.bool true, Value.int 181 0, Value.ref 169, Value.none, Value.ref 170, Value.ref 171, Value.ref 172, Value.int 604 0, Value.int 185 0, Value.str (Str.ofString "/claim/cut.py") 605] }) ::
  (nat_lit 174, fnO "_law_spread" 77 "law_to0017_01" 496 173) ::
  (nat_lit 180, { cls := Value.type "code", data := Data.fields #[Value.str (Str.ofString "_law_fits") 607, Value.str (Str.ofString "_law_fits") 608, Value.str (Str.ofString "/claim/cut.py") 609, Value.int 195 0, Value.int 5 0, Value.int 0 0, Value.int 0 0, Value.int 3 0, Value.ref 175, Value.bool true, Value.int 181 0, Value.ref 176, Value.none, Value.ref 177, Value.ref 178, Value.ref 179, Value.int 615 0, Value.int 195 0, Value.str (Str.ofString "/claim/cut.py") 616] }) ::
  (nat_lit 181, fnO "_law_fits" 78 "law_to0017_01" 496 180) ::
  (nat_lit 185, { cls := Value.type "code", data := Data.fields #[Value.str (Str.ofString "law") 618, Value.str (Str.ofString "law") 619, Value.str (Str.ofString "/claim/cut.py") 620, Value.int 205 0, Value.int 1 0, Value.int 0 0, Value.int 0 0, Value.int 3 0, Value.ref 182, Value.bool true, Value.int 181 0, Value.ref 183, Value.none, Value.none, Value.none, Value.ref 184, Value.int 621 0, Value.int 205 0, Value.str (Str.ofString "/claim/cut.py") 622] }) ::
  (nat_lit 186, fnO "law" 79 "law_to0017_01" 496 185) :: []
def asL : List Addr := [2, 3, 20, 21, 27, 28, 34, 35, 41, 42, 48, 49, 55, 56, 62, 63, 69, 70, 76, 77, 83, 84, 90, 91, 92, 100, 101, 107, 108, 112, 113, 119, 120, 124, 125, 131, 132, 138, 139, 145, 146, 152, 153, 159, 160, 166, 167, 173, 174, 180, 181, 185, 186]
theorem asOk : ∀ P, asL = (KK P).map (·.1) := fun P => by kernel_rfl
abbrev loo : List Str := [Str.ofString "EXACT_TOKEN_TYPES"]
def kAt (P : Params) (i : Nat) : Obj := match (KK P)[i]? with
  | some p => p.2
  | none => { cls := .none, data := .dict #[] }
def fnN (nm : String) (k : Nat) : Obj :=
  { cls := .none, data := .func { name := Str.ofString nm, qualname := Str.ofString nm, params := (dOf k).1, body := .stmts (dOf k).2.1, scope := (dOf k).2.2, globals := 0, closure := [], defaults := .none, kwdefaults := .none } }
/-- the objects behind the text -/
noncomputable def S1o (P : Params) : List Obj :=
  (PySem.W.boot_o_0 P) ::
  (PySem.W.boot_o_1 P) ::
  (kAt P 0) ::
  (kAt P 1) ::
  (PySem.W.boot_o_4 P) ::
  (PySem.W.boot_o_5 P) ::
  (PySem.W.boot_o_6 P) ::
  (PySem.W.boot_o_7 P) ::
  (PySem.W.boot_o_8 P) ::
  (PySem.W.boot_o_9 P) ::
  (PySem.W.boot_o_10 P) ::
  { cls := Value.type "tuple", data := Data.seq #[] } ::
  { cls := Value.none, data := Data.fields (List.toArray (Value.int 2 0 :: Value.int 0 0 :: Value.ref 20 :: Value.int 20 0 :: Value.int 0 0 :: Value.ref 27 :: Value.int 22 0 :: Value.int 0 0 :: Value.ref 34 :: Value.int 24 0 :: Value.int 0 0 :: Value.ref 41 :: Value.int 26 0 :: Value.int 0 0 :: Value.ref 48 :: Value.int 28 0 :: Value.int 0 0 :: Value.ref 55 :: Value.int 30 0 :: Value.int 0 0 :: Value.ref 62 :: Value.int 32 0 :: Value.int 0 0 :: Value.ref 69 :: Value.int 34 0 :: Value.int 0 0 :: Value.ref 76 :: Value.int 36 0 :: Value.int 0 0 :: Value.ref 83 :: Value.int 38 0 :: Value.int 0 0 :: Value.ref 90 :: Value.int 96 0 :: Value.int 0 0 :: Value.ref 100 :: Value.int 98 0 :: Value.int 0 0 :: Value.ref 107 :: Value.int 101 0 :: Value.int 0 0 :: Value.ref 112 :: Value.int 104 0 :: Value.int 0 0 :: Value.ref 119 :: Value.int 118 0 :: Value.int 0 0 :: Value.ref 124 :: Value.int 131 0 :: Value.int 0 0 :: Value.ref 131 :: Value.int 143 0 :: Value.int 0 0 :: Value.ref 138 :: Value.int 152 0 :: Value.int 0 0 :: Value.ref 145 :: Value.int 162 0 :: Value.int 0 0 :: Value.ref 152 :: Value.int 166 0 :: Value.int 0 0 :: Value.ref 159 :: Value.int 168 0 :: Value.int 0 0 :: Value.ref 166 :: Value.int 185 0 :: Value.int 0 0 :: Value.ref 173 :: Value.int 195 0 :: Value.int 0 0 :: Value.ref 180 :: Value.int 205 0 :: Value.int 0 0 :: Value.ref 185 :: [])) } ::
  { cls := Value.type "code", data := Data.fields #[Value.str (Str.ofString "<module>") 182, Value.str (Str.ofString "<module>") 183, Value.str (Str.ofString "/claim/cut.py") 184, Value.int 1 0, Value.int 0 0, Value.int 0 0, Value.int 0 0, Value.int 0 0, Value.ref 11, Value.bool false, Value.int 181 0, Value.ref 12, Value.none, Value.none, Value.none, Value.none, Value.int 185 0, Value.int 1 0, Value.str (Str.ofString "/claim/cut.py") 186] } ::
  { cls := Value.type "frame", slots := #[some (Value.ref 13), some (Value.ref 3), some (Value.ref 3), none, some (Value.str (Str.ofString "__main__") 164), none, some (Value.ref 0)] } ::
  { cls := Value.type "tuple", data := Data.seq #[] } ::
  { cls := Value.none, data := Data.fields #[] } ::
  { cls := Value.type "tuple", data := Data.seq #[Value.str (Str.ofString "y") 192, Value.str (Str.ofString "i") 193, Value.str (Str.ofString "q") 194, Value.str (Str.ofString "r") 195, Value.str (Str.ofString "g") 196, Value.str (Str.ofString "b") 197] } ::
  { cls := Value.type "tuple", data := Data.seq #[] } ::
  (fnN "yiq_to_rgb" 1) ::
  (kAt P 2) ::
  (kAt P 3) ::
  { cls := Value.type "tuple", data := Data.seq #[] } ::
  { cls := Value.none, data := Data.fields #[] } ::
  { cls := Value.type "tuple", data := Data.seq #[Value.str (Str.ofString "a") 206, Value.str (Str.ofString "b") 207] } ::
  { cls := Value.type "tuple", data := Data.seq #[] } ::
  (fnN "le" 3) ::
  (kAt P 4) ::
  (kAt P 5) ::
  { cls := Value.type "tuple", data := Data.seq #[] } ::
  { cls := Value.none, data := Data.fields #[] } ::
  { cls := Value.type "tuple", data := Data.seq #[Value.str (Str.ofString "a") 214] } ::
  { cls := Value.type "tuple", data := Data.seq #[] } ::
  (fnN "truth" 4) ::
  (kAt P 6) ::
  (kAt P 7) ::
  { cls := Value.type "tuple", data := Data.seq #[] } ::
  { cls := Value.none, data := Data.fields #[] } ::
  { cls := Value.type "tuple", data := Data.seq #[Value.str (Str.ofString "a") 221, Value.str (Str.ofString "b") 222] } ::
  { cls := Value.type "tuple", data := Data.seq #[] } ::
  (fnN "add" 5) ::
  (kAt P 8) ::
  (kAt P 9) ::
  { cls := Value.type "tuple", data := Data.seq #[] } ::
  { cls := Value.none, data := Data.fields #[] } ::
  { cls := Value.type "tuple", data := Data.seq #[Value.str (Str.ofString "a") 229, Value.str (Str.ofString "b") 230] } ::
  { cls := Value.type "tuple", data := Data.seq #[] } ::
  (fnN "and_" 6) ::
  (kAt P 10) ::
  (kAt P 11) ::
  { cls := Value.type "tuple", data := Data.seq #[] } ::
  { cls := Value.none, data := Data.fields #[] } ::
  { cls := Value.type "tuple", data := Data.seq #[Value.str (Str.ofString "a") 237] } ::
  { cls := Value.type "tuple", data := Data.seq #[] } ::
  (fnN "inv" 7) ::
  (kAt P 12) ::
  (kAt P 13) ::
  { cls := Value.type "tuple", data := Data.seq #[] } ::
  { cls := Value.none, data := Data.fields #[] } ::
  { cls := Value.type "tuple", data := Data.seq #[Value.str (Str.ofString "a") 244, Value.str (Str.ofString "b") 245] } ::
  { cls := Value.type "tuple", data := Data.seq #[] } ::
  (fnN "lshift" 8) ::
  (kAt P 14) ::
  (kAt P 15) ::
  { cls := Value.type "tuple", data := Data.seq #[] } ::
  { cls := Value.none, data := Data.fields #[] } ::
  { cls := Value.type "tuple", data := Data.seq #[Value.str (Str.ofString "a") 252, Value.str (Str.ofString "b") 253] } ::
  { cls := Value.type "tuple", data := Data.seq #[] } ::
  (fnN "or_" 9) ::
  (kAt P 16) ::
  (kAt P 17) ::
  { cls := Value.type "tuple", data := Data.seq #[] } ::
  { cls := Value.none, data := Data.fields #[] } ::
  { cls := Value.type "tuple", data := Data.seq #[Value.str (Str.ofString "a") 260, Value.str (Str.ofString "b") 261] } ::
  { cls := Value.type "tuple", data := Data.seq #[] } ::
  (fnN "contains" 10) ::
  (kAt P 18) ::
  (kAt P 19) ::
  { cls := Value.type "tuple", data := Data.seq #[] } ::
  { cls := Value.none, data := Data.fields #[] } ::
  { cls := Value.type "tuple", data := Data.seq #[Value.str (Str.ofString "a") 268, Value.str (Str.ofString "b") 269] } ::
  { cls := Value.type "tuple", data := Data.seq #[] } ::
  (fnN "getitem" 11) ::
  (kAt P 20) ::
  (kAt P 21) ::
  { cls := Value.type "tuple", data := Data.seq #[] } ::
  { cls := Value.none, data := Data.fields #[] } ::
  { cls := Value.type "tuple", data := Data.seq #[Value.str (Str.ofString "a") 276, Value.str (Str.ofString "b") 277, Value.str (Str.ofString "i") 278, Value.str (Str.ofString "j") 279] } ::
  { cls := Value.type "tuple", data := Data.seq #[] } ::
  (fnN "indexOf" 12) ::
  (kAt P 22) ::
  (kAt P 23) ::
  (kAt P 24) ::
  { cls := Value.type "dict", data := Data.dict #[{ hash := PyData.keyHash P (Str.ofString "->"), key := Value.str (Str.ofString "->") 419, val := Value.int 51 375 }, { hash := PyData.keyHash P (Str.ofString "."), key := Value.str (Str.ofString ".") 421, val := Value.int 23 319 }, { hash := PyData.keyHash P (Str.ofString "..."), key := Value.str (Str.ofString "...") 423, val := Value.int 52 377 }, { hash := PyData.keyHash P (Str.ofString "/"), key := Value.str (Str.ofString "/") 425, val := Value.int 17 307 }, { hash := PyData.keyHash P (Str.ofString "//"), key := Value.str (Str.ofString "//") 427, val := Value.int 47 367 }, { hash := PyData.keyHash P (Str.ofString "//="), key := Value.str (Str.ofString "//=") 429, val := Value.int 48 369 }, { hash := PyData.keyHash P (Str.ofString "/="), key := Value.str (Str.ofString "/=") 431, val := Value.int 39 351 }, { hash := PyData.keyHash P (Str.ofString ":"), key := Value.str (Str.ofString ":") 433, val := Value.int 11 295 }, { hash := PyData.keyHash P (Str.ofString ":="), key := Value.str (Str.ofString ":=") 435, val := Value.int 53 379 }, { hash := PyData.keyHash P (Str.ofString ";"), key := Value.str (Str.ofString ";") 437, val := Value.int 13 299 }, { hash := PyData.keyHash P (Str.ofString "<"), key := Value.str (Str.ofString "<") 439, val := Value.int 20 313 }, { hash := PyData.keyHash P (Str.ofString "<<"), key := Value.str (Str.ofString "<<") 441, val := Value.int 33 339 }, { hash := PyData.keyHash P (Str.ofString "<<="), key := Value.str (Str.ofString "<<=") 443, val := Value.int 44 361 }, { hash := PyData.keyHash P (Str.ofString "<="), key := Value.str (Str.ofString "<=") 445, val := Value.int 29 331 }, { hash := PyData.keyHash P (Str.ofString "="), key := Value.str (Str.ofString "=") 447, val := Value.int 22 317 }, { hash := PyData.keyHash P (Str.ofString "=="), key := Value.str (Str.ofString "==") 449, val := Value.int 27 327 }, { hash := PyData.keyHash P (Str.ofString ">"), key := Value.str (Str.ofString ">") 451, val := Value.int 21 315 }] 17 } ::
  { cls := Value.type "dict", data := Data.dict #[{ hash := PyData.keyHash P (Str.ofString ">="), key := Value.str (Str.ofString ">=") 453, val := Value.int 30 333 }, { hash := PyData.keyHash P (Str.ofString ">>"), key := Value.str (Str.ofString ">>") 454, val := Value.int 34 341 }, { hash := PyData.keyHash P (Str.ofString ">>="), key := Value.str (Str.ofString ">>=") 455, val := Value.int 45 363 }, { hash := PyData.keyHash P (Str.ofString "@"), key := Value.str (Str.ofString "@") 456, val := Value.int 49 371 }, { hash := PyData.keyHash P (Str.ofString "@="), key := Value.str (Str.ofString "@=") 457, val := Value.int 50 373 }, { hash := PyData.keyHash P (Str.ofString "["), key := Value.str (Str.ofString "[") 458, val := Value.int 9 291 }, { hash := PyData.keyHash P (Str.ofString "]"), key := Value.str (Str.ofString "]") 459, val := Value.int 10 293 }, { hash := PyData.keyHash P (Str.ofString "^"), key := Value.str (Str.ofString "^") 460, val := Value.int 32 337 }, { hash := PyData.keyHash P (Str.ofString "^="), key := Value.str (Str.ofString "^=") 461, val := Value.int 43 359 }, { hash := PyData.keyHash P (Str.ofString "{"), key := Value.str (Str.ofString "{") 462, val := Value.int 25 323 }, { hash := PyData.keyHash P (Str.ofString "|"), key := Value.str (Str.ofString "|") 463, val := Value.int 18 309 }, { hash := PyData.keyHash P (Str.ofString "|="), key := Value.str (Str.ofString "|=") 464, val := Value.int 42 357 }, { hash := PyData.keyHash P (Str.ofString "}"), key := Value.str (Str.ofString "}") 465, val := Value.int 26 325 }, { hash := PyData.keyHash P (Str.ofString "~"), key := Value.str (Str.ofString "~") 466, val := Value.int 31 335 }] 14 } ::
  { cls := Value.type "tuple", data := Data.seq #[] } ::
  { cls := Value.none, data := Data.fields #[] } ::
  { cls := Value.type "tuple", data := Data.seq #[Value.str (Str.ofString "x") 485] } ::
  { cls := Value.type "tuple", data := Data.seq #[] } ::
  (fnN "ISNONTERMINAL" 65) ::
  (kAt P 25) ::
  (kAt P 26) ::
  { cls := Value.type "tuple", data := Data.seq #[] } ::
  { cls := Value.none, data := Data.fields #[] } ::
  { cls := Value.type "tuple", data := Data.seq #[Value.str (Str.ofString "x") 492] } ::
  { cls := Value.type "tuple", data := Data.seq #[] } ::
  (fnN "ISEOF" 66) ::
  (kAt P 27) ::
  (kAt P 28) ::
  { cls := Value.type "tuple", data := Data.seq #[] } ::
  { cls := Value.none, data := Data.fields #[] } ::
  (fnN "_law_numbers" 68) ::
  (kAt P 29) ::
  (kAt P 30) ::
  { cls := Value.type "tuple", data := Data.seq #[] } ::
  { cls := Value.none, data := Data.fields #[] } ::
  { cls := Value.type "tuple", data := Data.seq #[Value.str (Str.ofString "text") 507, Value.str (Str.ofString "letters") 508, Value.str (Str.ofString "symbols") 509, Value.str (Str.ofString "k") 510, Value.str (Str.ofString "size") 511] } ::
  { cls := Value.type "tuple", data := Data.seq #[] } ::
  (fnN "_law_symbols" 69) ::
  (kAt P 31) ::
  (kAt P 32) ::
  { cls := Value.type "tuple", data := Data.seq #[] } ::
  { cls := Value.none, data := Data.fields #[] } ::
  (fnN "_law_formula" 70) ::
  (kAt P 33) ::
  (kAt P 34) ::
  { cls := Value.type "tuple", data := Data.seq #[] } ::
  { cls := Value.none, data := Data.fields #[] } ::
  { cls := Value.type "tuple", data := Data.seq #[Value.str (Str.ofString "mask") 524, Value.str (Str.ofString "n") 525, Value.str (Str.ofString "size") 526, Value.str (Str.ofString "seen") 527, Value.str (Str.ofString "kind") 528, Value.str (Str.ofString "first") 529, Value.str (Str.ofString "second") 530, Value.str (Str.ofString "red") 531, Value.str (Str.ofString "green") 532, Value.str (Str.ofString "blue") 533] } ::
  { cls := Value.type "tuple", data := Data.seq #[] } ::
  (fnN "_law_seen" 71) ::
  (kAt P 35) ::
  (kAt P 36) ::
  { cls := Value.type "tuple", data := Data.seq #[] } ::
  { cls := Value.none, data := Data.fields #[] } ::
  { cls := Value.type "tuple", data := Data.seq #[Value.str (Str.ofString "above") 540, Value.str (Str.ofString "below") 541, Value.str (Str.ofString "x") 542, Value.str (Str.ofString "y") 543] } ::
  { cls := Value.type "tuple", data := Data.seq #[] } ::
  (fnN "_law_tables" 72) ::
  (kAt P 37) ::
  (kAt P 38) ::
  { cls := Value.type "tuple", data := Data.seq #[] } ::
  { cls := Value.none, data := Data.fields #[] } ::
  { cls := Value.type "tuple", data := Data.seq #[Value.str (Str.ofString "left") 550, Value.str (Str.ofString "right") 551, Value.str (Str.ofString "tables") 552, Value.str (Str.ofString "above") 553, Value.str (Str.ofString "below") 554, Value.str (Str.ofString "over") 555, Value.str (Str.ofString "under") 556, Value.str (Str.ofString "x") 557] } ::
  { cls := Value.type "tuple", data := Data.seq #[] } ::
  (fnN "_law_game" 73) ::
  (kAt P 39) ::
  (kAt P 40) ::
  { cls := Value.type "tuple", data := Data.seq #[] } ::
  { cls := Value.none, data := Data.fields #[] } ::
  { cls := Value.type "tuple", data := Data.seq #[Value.str (Str.ofString "sign") 564, Value.str (Str.ofString "x") 565, Value.str (Str.ofString "y") 566, Value.str (Str.ofString "tables") 567] } ::
  { cls := Value.type "tuple", data := Data.seq #[] } ::
  (fnN "_law_made" 74) ::
  (kAt P 41) ::
  (kAt P 42) ::
  { cls := Value.type "tuple", data := Data.seq #[] } ::
  { cls := Value.none, data := Data.fields #[] } ::
  { cls := Value.type "tuple", data := Data.seq #[Value.str (Str.ofString "x") 574, Value.str (Str.ofString "y") 575] } ::
  { cls := Value.type "tuple", data := Data.seq #[] } ::
  (fnN "_law_least" 75) ::
  (kAt P 43) ::
  (kAt P 44) ::
  { cls := Value.type "tuple", data := Data.seq #[] } ::
  { cls := Value.none, data := Data.fields #[] } ::
  { cls := Value.type "tuple", data := Data.seq #[Value.str (Str.ofString "symbols") 582, Value.str (Str.ofString "games") 583, Value.str (Str.ofString "tables") 584, Value.str (Str.ofString "pile") 585, Value.str (Str.ofString "steps") 586, Value.str (Str.ofString "symbol") 587, Value.str (Str.ofString "y") 588, Value.str (Str.ofString "sign") 589, Value.str (Str.ofString "x") 590] } ::
  { cls := Value.type "tuple", data := Data.seq #[] } ::
  (fnN "_law_read" 76) ::
  (kAt P 45) ::
  (kAt P 46) ::
  { cls := Value.type "tuple", data := Data.seq #[] } ::
  { cls := Value.none, data := Data.fields #[] } ::
  { cls := Value.type "tuple", data := Data.seq #[Value.str (Str.ofString "clauses") 597, Value.str (Str.ofString "games") 598, Value.str (Str.ofString "tables") 599, Value.str (Str.ofString "whole") 600, Value.str (Str.ofString "clause") 601, Value.str (Str.ofString "part") 602, Value.str (Str.ofString "k") 603] } ::
  { cls := Value.type "tuple", data := Data.seq #[] } ::
  (fnN "_law_spread" 77) ::
  (kAt P 47) ::
  (kAt P 48) ::
  { cls := Value.type "tuple", data := Data.seq #[] } ::
  { cls := Value.none, data := Data.fields #[] } ::
  { cls := Value.type "tuple", data := Data.seq #[Value.str (Str.ofString "up") 610, Value.str (Str.ofString "x") 611, Value.str (Str.ofString "y") 612, Value.str (Str.ofString "z") 613, Value.str (Str.ofString "e") 614] } ::
  { cls := Value.type "tuple", data := Data.seq #[] } ::
  (fnN "_law_fits" 78) ::
  (kAt P 49) ::
  (kAt P 50) ::
  { cls := Value.type "tuple", data := Data.seq #[] } ::
  { cls := Value.none, data := Data.fields #[] } ::
  (fnN "law" 79) ::
  (kAt P 51) ::
  (kAt P 52) :: []
/-- the state behind the text -/
noncomputable def S1 (P : Params) : Shared := { heap := { objs := Array.mk (S1o P) }, toks := 624, os := (start (opening Prg)).1.os }
theorem sw0 (P : Params) : PySem.W.Fast.tw5160383126252970620 (R.mapR (fun x => x.name) (PySem.W.Fast.tw3399658132070893891 vw)) (PySem.W.Fast.tw5991557255702980513 vw) [] { heap := (S1 P).heap, drawn := (S1 P).drawn, toks := (S1 P).toks, os := (S1 P).os } = expectedOf vw := by kernel_rfl
theorem sw1 (P : Params) : (S1 P).heap.bltView = bltViewBooted := by kernel_rfl
theorem sw2a (P : Params) : (PySem.W.Fast.tw10880121769531294198 (S1 P).heap (PySem.W.Fast.tw821141287760084731 vw loo) (R.mapR (fun x => x.name) (PySem.W.Fast.tw3399658132070893891 vw)) (R.mapR (fun x => x.fst) (PySem.W.Fast.tw7409074990110511671 vw)) (R.mapR (fun x => x.name) (PySem.W.Fast.tw13664370479719496447 vw (PySem.W.Fast.tw821141287760084731 vw loo)))) = true := by kernel_rfl
theorem sw2b (P : Params) : (PySem.W.Fast.tw14722251495701143533 (S1 P).heap (importedModules Prg.main.body)) = true := by kernel_rfl
theorem sw2c (P : Params) : ((S1 P).heap.isNs mainGlobals && (S1 P).heap.isNs builtinsNs) = true := by kernel_rfl
theorem sw2d (P : Params) : (PySem.W.Fast.tw10994771534591457954 vw (S1 P).heap) = true := by kernel_rfl
theorem sw2e (P : Params) : ((xlAt vw [] (S1 P) && recOk (RowW.records Row.toRowW) (S1 P))) = true := by kernel_rfl
theorem sw2 (P : Params) : (PySem.W.Fast.tw10880121769531294198 (S1 P).heap (PySem.W.Fast.tw821141287760084731 vw loo) (R.mapR (fun x => x.name) (PySem.W.Fast.tw3399658132070893891 vw)) (R.mapR (fun x => x.fst) (PySem.W.Fast.tw7409074990110511671 vw)) (R.mapR (fun x => x.name) (PySem.W.Fast.tw13664370479719496447 vw (PySem.W.Fast.tw821141287760084731 vw loo))) && PySem.W.Fast.tw14722251495701143533 (S1 P).heap (importedModules Prg.main.body) && (S1 P).heap.isNs mainGlobals && (S1 P).heap.isNs builtinsNs && PySem.W.Fast.tw10994771534591457954 vw (S1 P).heap && (xlAt vw [] (S1 P) && recOk (RowW.records Row.toRowW) (S1 P)) && if true = true then (S1 P).gens.size == 0 else !leftWithCleanup (S1 P).gens) = true := by
  have h := Bool.and_eq_true_iff.mp (sw2c P)
  exact look_both (look_both (look_both (look_both (look_both (look_both (sw2a P) (sw2b P)) h.1) h.2) (sw2d P)) (sw2e P)) (by rfl)
theorem sw3 (P : Params) : PySem.W.Fast.tw479339242167458305 vw (S1 P) = true := by kernel_rfl
theorem sw4 (P : Params) : PySem.W.Fast.tw16090120013241838585 vw (PySem.W.Fast.tw3247288618530077131 vw) (S1 P) = pinGoodD (drecsOf vw) := by kernel_rfl
theorem sw5 (P : Params) : PySem.W.Fast.tw2386780881361962483 vw (PySem.W.Fast.tw821141287760084731 vw loo) (S1 P) = plainGoodE vw (looseW vw loo) := by kernel_rfl
theorem sw6 (P : Params) : PySem.W.Fast.tw11698064438423848299 vw loo (S1 P) = plainGoodD vw loo := by kernel_rfl
theorem sw7 (P : Params) : PySem.W.Fast.tw7317090234206586261 vw (S1 P) = wideGood vw := by kernel_rfl
theorem sw8 (P : Params) : PySem.W.Fast.tw7369524293546568484 vw loo (S1 P) = clsGoodW vw loo := by kernel_rfl
theorem prod9 {A B C D E F G H I : Type} {a1 a2 : A} {b1 b2 : B} {c1 c2 : C} {d1 d2 : D} {e1 e2 : E} {f1 f2 : F} {g1 g2 : G} {h1 h2 : H} {i1 i2 : I} (ha : a1 = a2) (hb : b1 = b2) (hc : c1 = c2) (hd : d1 = d2) (he : e1 = e2) (hf : f1 = f2) (hg : g1 = g2) (hh : h1 = h2) (hi : i1 = i2) : (a1, b1, c1, d1, e1, f1, g1, h1, i1) = (a2, b2, c2, d2, e2, f2, g2, h2, i2) := by
  subst ha hb hc hd he hf hg hh hi
  rfl
theorem sawA (P : Params) : PySem.W.Fast.tw4187177175401517315 vw loo (importedModules Prg.main.body) (fun s => xlAt vw [] s && recOk (RowW.records Row.toRowW) s) true (S1 P) = openGood vw loo :=
  prod9 (sw0 P) (sw1 P) (sw2 P) (sw3 P) (sw4 P) (sw5 P) (sw6 P) (sw7 P) (sw8 P)
theorem sawB (w : World) : Hook.obs (kHook KK asL asOk) (S1 w.params) = Hook.val (kHook KK asL asOk) w := by kernel_rfl
/-- the run of the text, by the words that it is told -/
noncomputable def Ran (tr : type_of% @topRun) (tt : type_of% @treeTable) (ie : type_of% @importEnds) (fm : type_of% @fenceModules?) (w : World) : Option Shared :=
  ((ie tt (opening Prg) w 4606 (start (opening Prg)).1 (start (opening Prg)).2).bind (fm Prg)).bind fun s₀ => match s₀.heap.isNs mainGlobals && s₀.gens.size == 0 with
    | true => (tr tt Prg w s₀.heap.objs.size (s₀.heap.nsMap mainGlobals "__annotations__") 4606 s₀ (topStub Prg)).bind fun s₁ => match staticsOk (importedModules Prg.main.body) s₀.heap s₁.heap && namesBound Prg s₁.heap && gensDone s₁ && laidKept s₀.heap s₁.heap with
      | true => some s₁
      | false => none
    | false => none
theorem ran0 (w : World) : Ran PySem.W.Fast.tw14082659384304107361 PySem.W.Fast.tw14364793385576792824 PySem.W.Fast.tw10274390034422433532 PySem.W.Fast.tw14289696077712309145 (w.withFollow "special-get-raises" false) = some (S1 (w.withFollow "special-get-raises" false).params) := by
  unfold Ran
  kernel_rfl
theorem ran1 (w : World) : Ran PySem.W.Fast.tw14082659384304107361 PySem.W.Fast.tw14364793385576792824 PySem.W.Fast.tw10274390034422433532 PySem.W.Fast.tw14289696077712309145 (w.withFollow "special-get-raises" true) = some (S1 (w.withFollow "special-get-raises" true).params) := by
  unfold Ran
  kernel_rfl
theorem ranS (w : World) : Ran @topRun @treeTable @importEnds @fenceModules? w = some (S1 w.params) := by
  rw [PySem.W.Fast.te14082659384304107361, PySem.W.Fast.te14364793385576792824, PySem.W.Fast.te10274390034422433532, PySem.W.Fast.te14289696077712309145]
  exact byRow2 "special-get-raises" (P := fun w => Ran PySem.W.Fast.tw14082659384304107361 PySem.W.Fast.tw14364793385576792824 PySem.W.Fast.tw10274390034422433532 PySem.W.Fast.tw14289696077712309145 w = some (S1 w.params)) ran0 ran1 w
theorem sawA' (P : Params) : openSeen vw loo (importedModules Prg.main.body) (fun s => xlAt vw [] s && recOk (RowW.records Row.toRowW) s) true (S1 P) = openGood vw loo := by
  rw [PySem.W.Fast.te4187177175401517315]
  exact sawA P
theorem left0 : LeftO Row.toRowW.prog vw loo (fun s => xlAt vw [] s && recOk (RowW.records Row.toRowW) s) (Hook.obs (kHook KK asL asOk)) (Hook.val (kHook KK asL asOk)) 4606 := fun w => by
  have e : (Ran @topRun @treeTable @importEnds @fenceModules? w).map (fun s => (openSeen vw loo (importedModules Prg.main.body) (fun s => xlAt vw [] s && recOk (RowW.records Row.toRowW) s) true s, Hook.obs (kHook KK asL asOk) s)) = some (openGood vw loo, Hook.val (kHook KK asL asOk) w) := by
    rw [ranS w]
    show some (_, _) = _
    rw [sawA', sawB w]
  exact e
theorem said0 : (PySem.Challenge.rw_to0017_01).wellSaid = true := by
  unfold OpenLaw.wellSaid OpenRow.wellSaid OpenRow.partSaid looksOpen
  repeat' (with_reducible refine look_both ?_ ?_)
  all_goals decide +kernel
def dLaw : DefRec := ⟨Str.ofString "law", (dOf 79).1, (dOf 79).2.1, (dOf 79).2.2, { line := 205, col := 0, endLine := 218, endCol := 78 }⟩
theorem hd (walk : WalkO vw loo (XL vw []) (kHook KK asL asOk).says Row.toRowW dLaw [] fun f vs => PySem.call f vs) : PySem.Challenge.rw_to0017_01.Holds := by
  w_on
  refine holds_law said0 fun said => ?_
  refine holds_open (q := vw) (loose := loo) (Xt := fun s => xlAt vw [] s && recOk (RowW.records Row.toRowW) s) (XP := XL vw []) (Yf := Hook.obs (kHook KK asL asOk)) (Ya := Hook.val (kHook KK asL asOk)) (YP := Hook.says (kHook KK asL asOk)) (N := 4606) left0 (Hook.of (kHook KK asL asOk)) (Hook.keeps (kHook KK asL asOk)) (fun s e => xl_of s (Bool.and_eq_true_iff.mp e).1) XL.keeps (by kernel_rfl) (by kernel_rfl) (by kernel_rfl) (fun s e => recFacts_of (Bool.and_eq_true_iff.mp e).2) (by rfl) (by first | assumption | decide +kernel) (by decide +kernel) ⟨rfl, rfl, rfl, rfl, rfl, by decide +kernel⟩ ?hw walk
  case hw => w_witness2
end Mine
set_option maxHeartbeats 4000000
namespace Mine
theorem fill : PySem.Challenge.rw_to0017_01 = PySem.Challenge.rw_to0017_01 ∧ KK = KK := by
  w_top off
  k_fill
  exact ⟨rfl, rfl⟩
abbrev tupO (l : List Value) : Obj := { cls := .type "tuple", data := .seq l.toArray }
local macro_rules | `(tactic| k_mem) => `(tactic| ((repeat (first | assumption | exact List.Mem.head _ | apply List.Mem.tail)); done))

/-- all but the heap and the count of values made is as it was -/
def Same (s₀ s : Shared) : Prop := s.gens = s₀.gens ∧ s.drawn = s₀.drawn ∧ s.os = s₀.os
theorem Same.rfl {s : Shared} : Same s s := ⟨Eq.refl _, Eq.refl _, Eq.refl _⟩
theorem Same.trans {a b c : Shared} (h : Same a b) (k : Same b c) : Same a c := ⟨k.1.trans h.1, k.2.1.trans h.2.1, k.2.2.trans h.2.2⟩
theorem Same.is {s₀ s : Shared} (h : Same s₀ s) : s = { s₀ with heap := s.heap, toks := s.toks } := by
  obtain ⟨a, b, c, d, e⟩ := s
  obtain ⟨h1, h2, h3⟩ := h
  cases h1; cases h2; cases h3
  exact Eq.refl _
/-- what stands around a frame (locals at L, over the heap h₀) that has room for k calls more, one in the other -/
def Here (A : Around) (h₀ : Heap) (L : Addr) (k : Nat) : Prop :=
  ∃ (dp un : Nat) (gd : Option (List Code)) (cn : Str) (cs : Scope) (a : Addr) (ccd : Value) (cl : List (Str × Addr)) (outer : List Env) (A₀ : Around) (base : Heap),
    A = ktrTop dp un gd cn cs L a ccd cl outer ∧ Below A₀ base outer h₀ ∧ cs.kind = .function ∧ dp + k < recursionLimit ∧ un + 4 * k + 200 < cLine
theorem Here.le {A : Around} {h₀ : Heap} {L : Addr} {k j : Nat} (H : Here A h₀ L k) (hk : j ≤ k) : Here A h₀ L j := by
  obtain ⟨dp, un, gd, cn, cs, a, ccd, cl, outer, A₀, base, e, B, hc, h1, h2⟩ := H
  exact ⟨dp, un, gd, cn, cs, a, ccd, cl, outer, A₀, base, e, B, hc, by omega, by omega⟩
theorem Here.handled {A : Around} {h₀ : Heap} {L : Addr} {k : Nat} (H : Here A h₀ L k) : A.handled = none := by
  obtain ⟨dp, un, gd, cn, cs, a, ccd, cl, outer, A₀, base, e, _⟩ := H
  rw [e]
theorem Here.units {A : Around} {h₀ : Heap} {L : Addr} {k : Nat} (H : Here A h₀ L k) : A.units + 64 < cLine := by
  obtain ⟨dp, un, gd, cn, cs, a, ccd, cl, outer, A₀, base, e, _, _, _, h⟩ := H
  rw [e]
  show un + 64 < cLine
  omega
/-- the facts of the text's top that every walk wants -/
structure Gnd (w : World) (g : Heap) : Prop where
  x : (KK w.params).In g
  t : ∃ loose mean mg mb, Top vw loose mean mg mb g
/-- a def at f, called with vs where the ledger is news, room for k calls: R says what it hands back and what it has made -/
def Con (w : World) (k : Nat) (f : Addr) (vs : List Value) (news : List (Addr × Obj)) (R : List (Addr × Obj) → Value → Prop) : Prop :=
  ∀ (A : Around) (h₀ : Heap) (L : Addr) (m : Str → Option Value) (s : Shared) (Q E : Value → Shared → Prop), Here A h₀ L k → Fr h₀ L s.heap m → News h₀ L s.heap news → Gnd w h₀ →
    (∀ r tl s', Same s s' → Fr h₀ L s'.heap m → News h₀ L s'.heap (tl ++ news) → R tl r → Q r s') →
    wpAny (model Prg w) A (call (.ref f) vs) Q E s
theorem Con.use {w : World} {k : Nat} {f : Addr} {vs : List Value} {news : List (Addr × Obj)} {R : List (Addr × Obj) → Value → Prop} (C : Con w k f vs news R) {j : Nat} {A : Around} {h₀ : Heap} {L : Addr} {m : Str → Option Value} {s₀ s : Shared} {Q E : Value → Shared → Prop}
    (H : Here A h₀ L j) (hj : k ≤ j) (S : Same s₀ s) (F : Fr h₀ L s.heap m) (N : News h₀ L s.heap news) (G : Gnd w h₀)
    (ret : ∀ r tl s', Same s₀ s' → Fr h₀ L s'.heap m → News h₀ L s'.heap (tl ++ news) → R tl r → Q r s') : wpAny (model Prg w) A (call (.ref f) vs) Q E s := C A h₀ L m s Q E (H.le hj) F N G fun r tl s' S' => ret r tl s' (S.trans S')
theorem Con.of {w : World} {k : Nat} {f : Addr} {vs : List Value} {news : List (Addr × Obj)} {R : List (Addr × Obj) → Value → Prop} {name qual : Str} {params : Arguments} {body₀ body : List Stmt} {scope₀ scope : Scope} {dV kV doc pm cdv ct oc : Value} {an od : Option Addr} {osl : Array (Option Value)} {binds : List (Str × Value)}
    (ho : (KK w.params).lookup f = some ⟨oc, od, .func (fnOf name qual params body₀ scope₀ dV kV doc pm an cdv ct), osl⟩) (hbd : body = body₀) (hsc : scope = scope₀) (hcd : codeIn (KK w.params) cdv qual = true)
    (hbind : bindArgs (fnOf name qual params body scope dV kV doc pm an cdv ct) ⟨vs, []⟩ = pure binds) (hloc : ∀ y ∈ binds, scope.names.lookup y.1 = some .local)
    (hco : scope.isCoroutine = false) (hgen : scope.isGenerator = false) (hk : scope.kind = .function) (hcell : ∀ x ∈ scope.names, x.2 ≠ .cell)
    (h : ∀ (A : Around) (g : Heap) (L : Addr) (s : Shared), Here A g L k → A.handled = none → Same s s → Fr g L s.heap (fun y => binds.reverse.lookup y) → News g L s.heap news → Gnd w g → binds.length ≤ s.toks →
      ∀ (Q : Flow → Shared → Prop), (∀ v s' m' tl, Same s s' → Fr g L s'.heap m' → News g L s'.heap (tl ++ news) → R tl v → Q (.ret v) s') →
      wpAny (model Prg w) A (execs body (envOf qual scope L f cdv)) Q (fun _ _ => False) s) : Con w (k + 1) f vs news R := by
  subst hbd hsc
  intro A h₀ L m s Q E H F N G ret
  obtain ⟨dp, un, gd, cn, cs, a, ccd, cl, outer, A₀, base, rfl, B, hc, h1, h2⟩ := H
  obtain ⟨X, loose, mean, mg, mb, T⟩ := G
  refine wpAny_call ?_
  refine code_def B F X N T rfl rfl hc ho hcd (show dp < recursionLimit by omega) (BindsTo.of_eq hbind) hloc (fun g L' h₁ FG F' N' B' X' T' => ?_) hco hgen hk hcell
  have H' : Here ((ktrTop dp un gd cn cs L a ccd cl outer).deeper (envOf qual scope L' f cdv)) g L' k :=
    ⟨dp + 1, un + 3, _, qual, scope, f, cdv, [], _, _, base, rfl, B', hk, by omega, by omega⟩
  refine wpAny_mono (h _ g L' { s with heap := h₁, toks := s.toks + binds.length } H' H'.handled Same.rfl F' N' ⟨X', loose, mean, mg, mb, T'⟩ (Nat.le_add_left _ _) (fun fl s' => LeaveK h₀ L m g _ (match fl with | .ret v => v | _ => .none) s') (fun v s' m' tl S2 F2 N2 r => ?_)) (fun fl s' r => r) fun _ _ e => e.elim
  exact leaveK_ F2 N2 fun F3 N3 => ret _ tl s' S2 F3 N3 r
/-- as Con.of, of a def some of whose names are cells; P is asked of the heap below -/
def ConP (w : World) (k : Nat) (f : Addr) (vs : List Value) (P : Heap → Prop) (news : List (Addr × Obj)) (R : List (Addr × Obj) → Value → Prop) : Prop :=
  ∀ (A : Around) (h₀ : Heap) (L : Addr) (m : Str → Option Value) (s : Shared) (Q E : Value → Shared → Prop), Here A h₀ L k → Fr h₀ L s.heap m → News h₀ L s.heap news → Gnd w h₀ → P h₀ →
    (∀ r tl s', Same s s' → Fr h₀ L s'.heap m → News h₀ L s'.heap (tl ++ news) → R tl r → Q r s') →
    wpAny (model Prg w) A (call (.ref f) vs) Q E s
theorem ConP.of {w : World} {k : Nat} {f : Addr} {vs : List Value} {P : Heap → Prop} {news : List (Addr × Obj)} {R : List (Addr × Obj) → Value → Prop} {name qual : Str} {params : Arguments} {body₀ body : List Stmt} {scope₀ scope : Scope} {dV kV doc pm cdv ct oc : Value} {an od : Option Addr} {osl : Array (Option Value)} {binds : List (Str × Value)}
    (hP : ∀ h h' : Heap, (∀ b o, h.get? b = some o → h'.get? b = some o) → P h → P h')
    (ho : (KK w.params).lookup f = some ⟨oc, od, .func (fnOf name qual params body₀ scope₀ dV kV doc pm an cdv ct), osl⟩) (hbd : body = body₀) (hsc : scope = scope₀) (hcd : codeIn (KK w.params) cdv qual = true)
    (hbind : bindArgs (fnOf name qual params body scope dV kV doc pm an cdv ct) ⟨vs, []⟩ = pure binds) (hkind : (binds.all fun y => scope.names.lookup y.1 == some .local || scope.names.lookup y.1 == some .cell) = true) (hnd : ((cellsFrom 0 scope.names []).map (·.1)).Nodup)
    (hco : scope.isCoroutine = false) (hgen : scope.isGenerator = false) (hk : scope.kind = .function)
    (h : ∀ (A : Around) (g : Heap) (L : Addr) (s : Shared) (cells : List (Addr × Obj)), Here A g L k → A.handled = none → Same s s → Fr g L s.heap (bindL (envOfC qual scope L f cdv).kindOf binds fun _ => none) → News g L s.heap (cells ++ news) →
      CellsAre (bindC (envOfC qual scope L f cdv).kindOf binds fun _ => none) (cellsFrom (L + 1) scope.names []) cells → (∀ p ∈ news, p.1 < L) → Gnd w g → P g →
      ∀ (Q : Flow → Shared → Prop), (∀ v s' m' tl, Same s s' → Fr g L s'.heap m' → News g L s'.heap (tl ++ news) → R tl v → Q (.ret v) s') →
      wpAny (model Prg w) A (execs body (envOfC qual scope L f cdv)) Q (fun _ _ => False) s) : ConP w (k + 1) f vs P news R := by
  subst hbd hsc
  intro A h₀ L m s Q E H F N G p ret
  obtain ⟨dp, un, gd, cn, cs, a, ccd, cl, outer, A₀, base, rfl, B, hc, h1, h2⟩ := H
  obtain ⟨X, loose, mean, mg, mb, T⟩ := G
  refine wpAny_call ?_
  refine code_defC B F X N T rfl rfl hc ho hcd (show dp < recursionLimit by omega) (BindsTo.of_eq hbind) hkind hnd (fun g L' h₁ tk cells FG F' N' Y' B' X' T' l1 => ?_) hco hgen hk
  have H' : Here ((ktrTop dp un gd cn cs L a ccd cl outer).deeper (envOfC qual scope L' f cdv)) g L' k :=
    ⟨dp + 1, un + 3, _, qual, scope, f, cdv, cellsFrom (L' + 1) scope.names [], _, _, base, rfl, B', hk, by omega, by omega⟩
  refine wpAny_mono (h _ g L' { s with heap := h₁, toks := tk } cells H' H'.handled Same.rfl F' N' Y' l1 ⟨X', loose, mean, mg, mb, T'⟩ (hP _ _ FG.keep p) (fun fl s' => LeaveK h₀ L m g _ (match fl with | .ret v => v | _ => .none) s') (fun v s' m' tl S2 F2 N2 r => ?_)) (fun fl s' r => r) fun _ _ e => e.elim
  exact leaveK_ F2 N2 fun F3 N3 => ret _ tl s' S2 F3 N3 r
/-- a game: what Left and what Right may pick, what isn't at most it, what isn't at least it -/
structure G where
  l : Int
  r : Int
  o : Int
  u : Int
/-- an object that holds the game -/
def GO (x : G) (o : Obj) : Prop := ∃ t0 t1 t2 t3, o = tupO [.int x.l t0, .int x.r t1, .int x.o t2, .int x.u t3]
/-- the ledger has the game at a -/
def GameIn (news : List (Addr × Obj)) (a : Addr) (x : G) : Prop := ∃ o, (a, o) ∈ news ∧ GO x o
/-- the ledger has the two tables at a -/
def Tabs (news : List (Addr × Obj)) (a : Addr) : Prop :=
  ∃ la lb va vb na nb, (a, tupO [.ref la, .ref lb]) ∈ news ∧ (la, listOf (List.toArray va) na) ∈ news ∧ IntsAre va [3, 2, 15, 10] ∧ (lb, listOf (List.toArray vb) nb) ∈ news ∧ IntsAre vb [5, 15, 4, 12]
theorem GameIn.mono {news news' : List (Addr × Obj)} {a : Addr} {x : G} (h : GameIn news a x) (hs : ∀ p ∈ news, p ∈ news') : GameIn news' a x := by
  obtain ⟨o, h1, h2⟩ := h
  exact ⟨o, hs _ h1, h2⟩
theorem Tabs.mono {news news' : List (Addr × Obj)} {a : Addr} (h : Tabs news a) (hs : ∀ p ∈ news, p ∈ news') : Tabs news' a := by
  obtain ⟨la, lb, va, vb, na, nb, h1, h2, h3, h4, h5⟩ := h
  exact ⟨la, lb, va, vb, na, nb, hs _ h1, hs _ h2, h3, hs _ h4, h5⟩
section
variable {M : Model} {A : Around} {E : Value → Shared → Prop} {env : Env} {g : Heap} {L : Addr} {m : Str → Option Value} {news : List (Addr × Obj)} {s₀ s : Shared}
/-- any state of these facts in the place of a written one -/
theorem anew {α : Type} {t : Sem α} {Q : α → Shared → Prop} (S : Same s₀ s) (F : Fr g L s.heap m) (N : News g L s.heap news) (h : ∀ s₁, Same s₀ s₁ → Fr g L s₁.heap m → News g L s₁.heap news → wpAny M A t Q E s₁) : wpAny M A t Q E s := h s S F N
/-- one statement by itself, by what holds behind it -/
theorem execs_cut {st : Stmt} {rest : List Stmt} {Q : Flow → Shared → Prop} (P : Shared → Prop) (h1 : ∀ Q' : Flow → Shared → Prop, (∀ s', P s' → Q' .next s') → wpAny M A (exec st env) Q' E s)
    (h2 : ∀ s', P s' → wpAny M A (execs rest env) Q E s') : wpAny M A (execs (st :: rest) env) Q E s :=
  wpAny_execs_cons (wpAny_mono (h1 (fun f s' => f = .next ∧ P s') fun s' p => ⟨rfl, p⟩) (fun f s' h => by obtain ⟨rfl, p⟩ := h; exact h2 s' p) fun _ _ e => e)
theorem put_same {x : Str} {v : Value} (hm : m x = some v) : (fun y => if y = x then some v else m y) = m := by
  funext y
  split
  · rename_i e; rw [e, hm]
  · rfl
/-- a statement that sets one name -/
theorem cut_put {st : Stmt} {rest : List Stmt} {Q : Flow → Shared → Prop} (x : Str) (v : Tok → Value) (S : Same s₀ s) (F : Fr g L s.heap m) (N : News g L s.heap news)
    (h1 : ∀ (s₁ : Shared) (Q' : Flow → Shared → Prop), Same s₀ s₁ → Fr g L s₁.heap m → News g L s₁.heap news → (∀ s' t, Same s₀ s' → Fr g L s'.heap (fun y => if y = x then some (v t) else m y) → News g L s'.heap news → Q' .next s') → wpAny M A (exec st env) Q' E s₁)
    (h2 : ∀ s' t, Same s₀ s' → Fr g L s'.heap (fun y => if y = x then some (v t) else m y) → News g L s'.heap news → wpAny M A (execs rest env) Q E s') :
    wpAny M A (execs (st :: rest) env) Q E s :=
  execs_cut (fun s' => ∃ t, Same s₀ s' ∧ Fr g L s'.heap (fun y => if y = x then some (v t) else m y) ∧ News g L s'.heap news) (fun Q' k => h1 s Q' S F N fun s' t S' F' N' => k s' ⟨t, S', F', N'⟩) (fun s' h => by obtain ⟨t, S', F, N⟩ := h; exact h2 s' t S' F N)
/-- where the name keeps what it has -/
theorem keep_put {x : Str} {v : Value} {h' : Heap} (F : Fr g L h' m) (e : m x = some v) : Fr g L h' (fun y => if y = x then some v else m y) := by rw [put_same e]; exact F
end
section
variable {w : World} {A : Around} {E : Value → Shared → Prop} {env : Env} {h₀ : Heap} {m₀ : Str → Option Value} {news : List (Addr × Obj)} {s₀ s : Shared} {x y y' : Str} {body : List Stmt} {Q : Flow → Shared → Prop}
/-- a loop over a range that turns two ints -/
theorem range2 {r : Addr} {a₀ b₀ : Int} {t₀ u₀ v₀ : Tok} {n : Nat} {c₀ c₁ : Int} {tc td : Tok} (f f' : Int → Int → Int → Int)
    (hh : A.handled = none) (hr : IsRange s.heap r a₀ b₀ 1 t₀ u₀ v₀) (hsmall : Builtin.Range.small a₀ b₀ 1 = true) (hn : Builtin.Range.rangeSize a₀ b₀ 1 = (n : Int)) (S : Same s₀ s) (F : Fr h₀ env.locals s.heap m₀) (N : News h₀ env.locals s.heap news) (hy : m₀ y = some (.int c₀ tc)) (hy' : m₀ y' = some (.int c₁ td))
    (turn : ∀ k t a ta b tb s₁ own, a₀ ≤ k → k < a₀ + (n : Int) → OwnOff own (news.map (·.1)) → Same s₀ s₁ → Fr h₀ env.locals s₁.heap (fun z => if z = x then some (.int k t) else if z = y then some (.int a ta) else if z = y' then some (.int b tb) else m₀ z) → News h₀ env.locals s₁.heap (news ++ own) →
      ∀ Q' : Flow → Shared → Prop, (∀ s₂ m' t t', Same s₀ s₂ → Fr h₀ env.locals s₂.heap m' → News h₀ env.locals s₂.heap (news ++ own) → m' y = some (.int (f a b k) t) → m' y' = some (.int (f' a b k) t') → (∀ z, z ≠ x → z ≠ y → z ≠ y' → m' z = m₀ z) → Q' .next s₂) →
      wpAny (model Prg w) A (execs body env) Q' E s₁)
    (done : ∀ (u : Str → Option Value) t t' s₂, Same s₀ s₂ → Fr h₀ env.locals s₂.heap (fun z => if z = x then u z else if z = y then some (.int ((rangeKs a₀ n).foldl (fun p k => (f p.1 p.2 k, f' p.1 p.2 k)) (c₀, c₁)).1 t) else if z = y' then some (.int ((rangeKs a₀ n).foldl (fun p k => (f p.1 p.2 k, f' p.1 p.2 k)) (c₀, c₁)).2 t') else m₀ z) → News h₀ env.locals s₂.heap news → Q .next s₂) :
    wpAny (model Prg w) A (pyIter (.ref r)) (fun it s₂ => LoopAtV Prg w A h₀ env x body Q E it s₂) E s := by
  refine iterRange_acc2 (y := y) (y' := y') f f' hh hr hsmall hn F N hy hy' (fun k t a ta b tb h tk own hk0 hk1 hoff F' N' => ?_) fun u t t' h tk F' N' => done u t t' { s with heap := h, toks := tk } S F' N'
  refine turn k t a ta b tb { s with heap := h, toks := tk } own hk0 hk1 hoff S F' N' _ fun s₂ m' t t' S₂ F₂ N₂ e1 e2 e3 => ?_
  refine ⟨s₂.heap, s₂.toks, m', _, news, ?_, F₂, N₂, fun p hp => List.mem_append_left _ hp, fun p hp => List.mem_append_right _ hp, rfl, rfl, ⟨t, e1⟩, ⟨t', e2⟩, e3⟩
  have e := S₂.is
  obtain ⟨q1, q2, q3⟩ := S
  rw [← q1, ← q2, ← q3] at e
  exact e
/-- a loop over a range that turns what R says of the names and of the ledger -/
theorem rangeL {σ : Type} {r : Addr} {a₀ b₀ : Int} {t₀ u₀ v₀ : Tok} {n : Nat} (R : σ → (Str → Option Value) → List (Addr × Obj) → Prop) (f : σ → Int → σ) (c₀ : σ)
    (hh : A.handled = none) (hr : IsRange s.heap r a₀ b₀ 1 t₀ u₀ v₀) (hsmall : Builtin.Range.small a₀ b₀ 1 = true) (hn : Builtin.Range.rangeSize a₀ b₀ 1 = (n : Int)) (S : Same s₀ s) (F : Fr h₀ env.locals s.heap m₀) (N : News h₀ env.locals s.heap news) (hR : R c₀ m₀ news)
    (turn : ∀ k t c m₁ nx s₁ own, a₀ ≤ k → k < a₀ + (n : Int) → OwnOff own (news.map (·.1)) → Same s₀ s₁ → R c m₁ nx → Fr h₀ env.locals s₁.heap (fun z => if z = x then some (.int k t) else m₁ z) → News h₀ env.locals s₁.heap (nx ++ own) →
      ∀ Q' : Flow → Shared → Prop, (∀ s₂ m' nx', Same s₀ s₂ → Fr h₀ env.locals s₂.heap m' → News h₀ env.locals s₂.heap (nx' ++ own) → nx'.map (·.1) = news.map (·.1) → R (f c k) m' nx' → Q' .next s₂) →
      wpAny (model Prg w) A (execs body env) Q' E s₁)
    (done : ∀ m₁ nx s₂, Same s₀ s₂ → R ((rangeKs a₀ n).foldl f c₀) m₁ nx → Fr h₀ env.locals s₂.heap m₁ → News h₀ env.locals s₂.heap nx → Q .next s₂) :
    wpAny (model Prg w) A (pyIter (.ref r)) (fun it s₂ => LoopAtV Prg w A h₀ env x body Q E it s₂) E s := by
  refine iter_rangeS R f c₀ hh hr hsmall hn F N hR (fun k t c m₁ nx h tk own hk hoff hR' F' N' => ?_) fun m₁ nx h tk hR' F' N' => done m₁ nx { s with heap := h, toks := tk } S hR' F' N'
  refine turn k t c m₁ nx { s with heap := h, toks := tk } own (mem_rangeKs hk).1 (mem_rangeKs hk).2 hoff S hR' F' N' _ fun s₂ m' nx' S₂ F₂ N₂ e1 e2 => ?_
  refine ⟨s₂.heap, s₂.toks, m', _, nx', ?_, F₂, N₂, fun p hp => List.mem_append_left _ hp, fun p hp => List.mem_append_right _ hp, e1, e2⟩
  have e := S₂.is
  obtain ⟨q1, q2, q3⟩ := S
  rw [← q1, ← q2, ← q3] at e
  exact e
end
end Mine
set_option maxHeartbeats 4000000
namespace Mine
theorem fill2 : True := by
  w_top off
  exact True.intro
theorem and_c (w : World) (news : List (Addr × Obj)) (a b : Int) (t u : Tok) : Con w 1 49 [.int a t, .int b u] news (fun tl r => tl = [] ∧ ∃ t, r = .int (Builtin.bitAnd a b) t) := by
  refine' Con.of (binds := [(Str.ofString "a", .int a t), (Str.ofString "b", .int b u)]) ?ho ?hbd ?hsc ?hcd ?hb ?hl ?hco ?hg ?hk ?hc ?hbody
  case' ho => k_is
  case' hbd => (conv => rhs; whnf)
  case' hsc => (conv => rhs; whnf)
  case' hcd => k_is
  case' hb => exact rfl
  case' hl => exact locs rfl
  case' hco => exact rfl
  case' hg => exact rfl
  case' hk => exact rfl
  case' hc => decide
  intro A g L s H hh S F N G ht Q hQ
  have X := G.x
  obtain ⟨loose, mean, mg, mb, T⟩ := G.t
  (try dsimp only)
  repeat' (first
    | (k_unfold; (try dsimp only))
    | ((with_reducible show wpAny _ _ (eval (Expr.Call (Expr.Name _ _) _ [] _) _) _ _ _); refine Call_ ?_)
    | (walk1) | (dsimp only; walk1) | fail "no step")
  exact hQ _ _ _ [] (by assumption) (by assumption) (by assumption) ⟨rfl, _, rfl⟩
theorem or_c (w : World) (news : List (Addr × Obj)) (a b : Int) (t u : Tok) : Con w 1 70 [.int a t, .int b u] news (fun tl r => tl = [] ∧ ∃ t, r = .int (Builtin.bitOr a b) t) := by
  refine' Con.of (binds := [(Str.ofString "a", .int a t), (Str.ofString "b", .int b u)]) ?ho ?hbd ?hsc ?hcd ?hb ?hl ?hco ?hg ?hk ?hc ?hbody
  case' ho => k_is
  case' hbd => (conv => rhs; whnf)
  case' hsc => (conv => rhs; whnf)
  case' hcd => k_is
  case' hb => exact rfl
  case' hl => exact locs rfl
  case' hco => exact rfl
  case' hg => exact rfl
  case' hk => exact rfl
  case' hc => decide
  intro A g L s H hh S F N G ht Q hQ
  have X := G.x
  obtain ⟨loose, mean, mg, mb, T⟩ := G.t
  (try dsimp only)
  repeat' (first
    | (k_unfold; (try dsimp only))
    | ((with_reducible show wpAny _ _ (eval (Expr.Call (Expr.Name _ _) _ [] _) _) _ _ _); refine Call_ ?_)
    | (walk1) | (dsimp only; walk1) | fail "no step")
  exact hQ _ _ _ [] (by assumption) (by assumption) (by assumption) ⟨rfl, _, rfl⟩
theorem add_c (w : World) (news : List (Addr × Obj)) (a b : Int) (t u : Tok) : Con w 1 42 [.int a t, .int b u] news (fun tl r => tl = [] ∧ ∃ t, r = .int (a + b) t) := by
  refine' Con.of (binds := [(Str.ofString "a", .int a t), (Str.ofString "b", .int b u)]) ?ho ?hbd ?hsc ?hcd ?hb ?hl ?hco ?hg ?hk ?hc ?hbody
  case' ho => k_is
  case' hbd => (conv => rhs; whnf)
  case' hsc => (conv => rhs; whnf)
  case' hcd => k_is
  case' hb => exact rfl
  case' hl => exact locs rfl
  case' hco => exact rfl
  case' hg => exact rfl
  case' hk => exact rfl
  case' hc => decide
  intro A g L s H hh S F N G ht Q hQ
  have X := G.x
  obtain ⟨loose, mean, mg, mb, T⟩ := G.t
  (try dsimp only)
  repeat' (first
    | (k_unfold; (try dsimp only))
    | ((with_reducible show wpAny _ _ (eval (Expr.Call (Expr.Name _ _) _ [] _) _) _ _ _); refine Call_ ?_)
    | (walk1) | (dsimp only; walk1) | fail "no step")
  exact hQ _ _ _ [] (by assumption) (by assumption) (by assumption) ⟨rfl, _, rfl⟩
theorem inv_c (w : World) (news : List (Addr × Obj)) (a : Int) (t : Tok) : Con w 1 56 [.int a t] news (fun tl r => tl = [] ∧ ∃ t, r = .int (Builtin.bitNot a) t) := by
  refine' Con.of (binds := [(Str.ofString "a", .int a t)]) ?ho ?hbd ?hsc ?hcd ?hb ?hl ?hco ?hg ?hk ?hc ?hbody
  case' ho => k_is
  case' hbd => (conv => rhs; whnf)
  case' hsc => (conv => rhs; whnf)
  case' hcd => k_is
  case' hb => exact rfl
  case' hl => exact locs rfl
  case' hco => exact rfl
  case' hg => exact rfl
  case' hk => exact rfl
  case' hc => decide
  intro A g L s H hh S F N G ht Q hQ
  have X := G.x
  obtain ⟨loose, mean, mg, mb, T⟩ := G.t
  (try dsimp only)
  repeat' (first
    | (k_unfold; (try dsimp only))
    | ((with_reducible show wpAny _ _ (eval (Expr.Call (Expr.Name _ _) _ [] _) _) _ _ _); refine Call_ ?_)
    | (walk1) | (dsimp only; walk1) | fail "no step")
  exact hQ _ _ _ [] (by assumption) (by assumption) (by assumption) ⟨rfl, _, rfl⟩
theorem le_c (w : World) (news : List (Addr × Obj)) (a b : Int) (t u : Tok) : Con w 1 28 [.int a t, .int b u] news (fun tl r => tl = [] ∧ r = .bool (decide (a ≤ b))) := by
  refine' Con.of (binds := [(Str.ofString "a", .int a t), (Str.ofString "b", .int b u)]) ?ho ?hbd ?hsc ?hcd ?hb ?hl ?hco ?hg ?hk ?hc ?hbody
  case' ho => k_is
  case' hbd => (conv => rhs; whnf)
  case' hsc => (conv => rhs; whnf)
  case' hcd => k_is
  case' hb => exact rfl
  case' hl => exact locs rfl
  case' hco => exact rfl
  case' hg => exact rfl
  case' hk => exact rfl
  case' hc => decide
  intro A g L s H hh S F N G ht Q hQ
  have X := G.x
  obtain ⟨loose, mean, mg, mb, T⟩ := G.t
  (try dsimp only)
  repeat' (first
    | (k_unfold; (try dsimp only))
    | ((with_reducible show wpAny _ _ (eval (Expr.Call (Expr.Name _ _) _ [] _) _) _ _ _); refine Call_ ?_)
    | (walk1) | (dsimp only; walk1) | fail "no step")
  exact hQ _ _ _ [] (by assumption) (by assumption) (by assumption) ⟨rfl, rfl⟩
theorem lshift_c (w : World) (news : List (Addr × Obj)) (b : Int) (t u : Tok) (h0 : 0 ≤ b) (h1 : b < 8) : Con w 1 63 [.int 1 t, .int b u] news (fun tl r => tl = [] ∧ ∃ t, r = .int (2 ^ b.toNat) t) := by
  refine' Con.of (binds := [(Str.ofString "a", .int 1 t), (Str.ofString "b", .int b u)]) ?ho ?hbd ?hsc ?hcd ?hb ?hl ?hco ?hg ?hk ?hc ?hbody
  case' ho => k_is
  case' hbd => (conv => rhs; whnf)
  case' hsc => (conv => rhs; whnf)
  case' hcd => k_is
  case' hb => exact rfl
  case' hl => exact locs rfl
  case' hco => exact rfl
  case' hg => exact rfl
  case' hk => exact rfl
  case' hc => decide
  intro A g L s H hh S F N G ht Q hQ
  have X := G.x
  obtain ⟨loose, mean, mg, mb, T⟩ := G.t
  (try dsimp only)
  repeat' (first
    | (k_unfold; (try dsimp only))
    | ((with_reducible show wpAny _ _ (eval (Expr.Call (Expr.Name _ _) _ [] _) _) _ _ _); refine Call_ ?_)
    | (walk1) | (dsimp only; walk1) | fail "no step")
  exact hQ _ _ _ [] (by assumption) (by assumption) (by assumption) ⟨rfl, _, by rw [Int.one_mul]⟩
theorem iseof_c (w : World) (news : List (Addr × Obj)) (a : Int) (t : Tok) : Con w 1 108 [.int a t] news (fun tl r => tl = [] ∧ r = .bool (a == 0)) := by
  refine' Con.of (binds := [(Str.ofString "x", .int a t)]) ?ho ?hbd ?hsc ?hcd ?hb ?hl ?hco ?hg ?hk ?hc ?hbody
  case' ho => k_is
  case' hbd => (conv => rhs; whnf)
  case' hsc => (conv => rhs; whnf)
  case' hcd => k_is
  case' hb => exact rfl
  case' hl => exact locs rfl
  case' hco => exact rfl
  case' hg => exact rfl
  case' hk => exact rfl
  case' hc => decide
  intro A g L s H hh S F N G ht Q hQ
  have X := G.x
  obtain ⟨loose, mean, mg, mb, T⟩ := G.t
  (try dsimp only)
  repeat' (first
    | (k_unfold; (try dsimp only))
    | ((with_reducible show wpAny _ _ (eval (Expr.Call (Expr.Name _ _) _ [] _) _) _ _ _); refine Call_ ?_)
    | (walk1) | (dsimp only; walk1) | fail "no step")
  exact hQ _ _ _ [] (by assumption) (by assumption) (by assumption) ⟨rfl, rfl⟩
theorem isnt_c (w : World) (news : List (Addr × Obj)) (a : Int) (t : Tok) : Con w 1 101 [.int a t] news (fun tl r => tl = [] ∧ r = .bool (decide (256 ≤ a))) := by
  refine' Con.of (binds := [(Str.ofString "x", .int a t)]) ?ho ?hbd ?hsc ?hcd ?hb ?hl ?hco ?hg ?hk ?hc ?hbody
  case' ho => k_is
  case' hbd => (conv => rhs; whnf)
  case' hsc => (conv => rhs; whnf)
  case' hcd => k_is
  case' hb => exact rfl
  case' hl => exact locs rfl
  case' hco => exact rfl
  case' hg => exact rfl
  case' hk => exact rfl
  case' hc => decide
  intro A g L s H hh S F N G ht Q hQ
  have X := G.x
  obtain ⟨loose, mean, mg, mb, T⟩ := G.t
  (try dsimp only)
  repeat' (first
    | (k_unfold; (try dsimp only))
    | ((with_reducible show wpAny _ _ (eval (Expr.Call (Expr.Name _ _) _ [] _) _) _ _ _); refine Call_ ?_)
    | (walk1) | (dsimp only; walk1) | fail "no step")
  exact hQ _ _ _ [] (by assumption) (by assumption) (by assumption) ⟨rfl, rfl⟩
end Mine
set_option maxHeartbeats 4000000
namespace Mine
theorem fill3 : True := by
  w_top off
  exact True.intro
local macro_rules | `(tactic| k_mem) => `(tactic| ((repeat (first | assumption | exact List.Mem.head _ | apply List.Mem.tail)); done))
/-- x is at least y, as _law_least reckons it -/
def leastG (x y : G) : Bool := Builtin.bitAnd x.r (Builtin.bitNot y.u) == 0 && Builtin.bitAnd y.l (Builtin.bitNot x.o) == 0
theorem least_c (w : World) (news : List (Addr × Obj)) (ax ay : Addr) (x y : G) (hx : GameIn news ax x) (hy : GameIn news ay y) :
    Con w 2 160 [.ref ax, .ref ay] news (fun tl r => tl = [] ∧ r = .bool (leastG x y)) := by
  obtain ⟨_, hx, t0, t1, t2, t3, rfl⟩ := hx
  obtain ⟨_, hy, u0, u1, u2, u3, rfl⟩ := hy
  refine' Con.of (binds := [(Str.ofString "x", .ref ax), (Str.ofString "y", .ref ay)]) ?ho ?hbd ?hsc ?hcd ?hb ?hl ?hco ?hg ?hk ?hc ?hbody
  case' ho => k_is
  case' hbd => (conv => rhs; whnf)
  case' hsc => (conv => rhs; whnf)
  case' hcd => k_is
  case' hb => exact rfl
  case' hl => exact locs rfl
  case' hco => exact rfl
  case' hg => exact rfl
  case' hk => exact rfl
  case' hc => decide
  intro A g L s H hh S F N G ht Q hQ
  have X := G.x
  obtain ⟨loose, mean, mg, mb, T⟩ := G.t
  (try dsimp only)
  repeat' (first
    | (k_unfold; (try dsimp only))
    | ((with_reducible show wpAny _ _ (eval (Expr.Call (Expr.Name _ _) _ [] _) _) _ _ _); refine Call_ ?_)
    | ((with_reducible show wpAny _ _ (call (Value.ref 49) _ _) _ _ _); k_dflt (refine' Con.use (and_c _ _ _ _ _ _) ?k1 ?k2 ?k0 ?k3 ?k4 ?k5 ?_; (case k1 => assumption); (case k2 => decide); (case k3 => k_asm); (case k4 => k_asm); (case k5 => assumption); (case k0 => assumption); intro r9 tl9 s9 S9 F9 N9 hR9; (obtain ⟨e8, t9, e9⟩ := hR9); subst e8; subst e9; (rw [List.nil_append] at N9); (try dsimp only)); walk_say "CALL and_c")
    | ((with_reducible show wpAny _ _ (call (Value.ref 56) _ _) _ _ _); k_dflt (refine' Con.use (inv_c _ _ _ _) ?k1 ?k2 ?k0 ?k3 ?k4 ?k5 ?_; (case k1 => assumption); (case k2 => decide); (case k3 => k_asm); (case k4 => k_asm); (case k5 => assumption); (case k0 => assumption); intro r9 tl9 s9 S9 F9 N9 hR9; (obtain ⟨e8, t9, e9⟩ := hR9); subst e8; subst e9; (rw [List.nil_append] at N9); (try dsimp only)); walk_say "CALL inv_c")
    | (walk1) | (dsimp only; walk1) | fail "no step")
  all_goals (refine hQ _ _ _ [] (by assumption) (by assumption) (by assumption) ⟨rfl, ?_⟩; unfold leastG; simp_all)
end Mine
set_option maxHeartbeats 4000000
namespace Mine
theorem fill4 : True := by
  w_top off
  exact True.intro
local macro_rules | `(tactic| k_mem) => `(tactic| ((repeat (first | assumption | exact List.Mem.head _ | apply List.Mem.tail)); done))
def menuA (k : Int) : Int := ([3, 2, 15, 10] : List Int).getD k.toNat 0
def menuB (k : Int) : Int := ([5, 15, 4, 12] : List Int).getD k.toNat 0
def c1 (l r k : Int) : Bool := (decide (1 < k) && Builtin.bitAnd r 5 == 0) || Builtin.bitAnd l (menuA k) != 0
def c2 (l r k : Int) : Bool := (k.fmod 2 == 1 && Builtin.bitAnd l 3 == 0) || Builtin.bitAnd r (menuB k) != 0
def gO (l r a _b k : Int) : Int := if c1 l r k then Builtin.bitOr a (2 ^ k.toNat) else a
def gU (l r _a b k : Int) : Int := if c2 l r k then Builtin.bitOr b (2 ^ k.toNat) else b
def overOf (l r : Int) : Int := ((rangeKs 0 4).foldl (fun p k => (gO l r p.1 p.2 k, gU l r p.1 p.2 k)) (0, 0)).1
def underOf (l r : Int) : Int := ((rangeKs 0 4).foldl (fun p k => (gO l r p.1 p.2 k, gU l r p.1 p.2 k)) (0, 0)).2
def mkG (l r : Int) : G := ⟨l, r, overOf l r, underOf l r⟩
theorem game_c (w : World) (news : List (Addr × Obj)) (tb : Addr) (l r : Int) (t u : Tok) (htb : Tabs news tb) :
    Con w 1 146 [.int l t, .int r u, .ref tb] news (fun tl v => ∃ a o, tl = [(a, o)] ∧ v = .ref a ∧ GO (mkG l r) o) := by
  obtain ⟨la, lb, va, vb, na, nb, htb, hla, hva, hlb, hvb⟩ := htb
  refine' Con.of (binds := [(Str.ofString "left", .int l t), (Str.ofString "right", .int r u), (Str.ofString "tables", .ref tb)]) ?ho ?hbd ?hsc ?hcd ?hb ?hl ?hco ?hg ?hk ?hc ?hbody
  case' ho => k_is
  case' hbd => (conv => rhs; whnf)
  case' hsc => (conv => rhs; whnf)
  case' hcd => k_is
  case' hb => exact rfl
  case' hl => exact locs rfl
  case' hco => exact rfl
  case' hg => exact rfl
  case' hk => exact rfl
  case' hc => decide
  intro A g L s H hh S F N G ht Q hQ
  have X := G.x
  obtain ⟨loose, mean, mg, mb, T⟩ := G.t
  (try dsimp only)
  repeat' (first
    | (k_unfold; (try dsimp only))
    | ((with_reducible show wpAny _ _ (eval (Expr.Call (Expr.Name _ _) _ [] _) _) _ _ _); refine Call_ ?_)
    | ((with_reducible show wpAny _ _ (assign (Expr.Tuple _ _ _) _ (Value.ref _)) _ _ _); k_dflt (refine' unpackN_ ?F ?N ?T ?k1 ?k2 ?k3 ?_; (case F => k_asm); (case N => k_asm); (case T => exact News.isTup (by k_asm) (by k_mem)); (case k1 => assumption); (case k2 => exact rfl); (case k3 => exact rfl)); intro h' F' N'; (try k_sweep); walk_say "UNPACK")
    | ((fail_if_success (with_reducible show wpAny _ _ (pyIter _) _ _ _)); walk1) | ((fail_if_success (with_reducible show wpAny _ _ (pyIter _) _ _ _)); dsimp only; walk1) | fail "no step")
  rename IsRange _ _ _ _ _ _ _ _ => rgX
  rename Fr _ _ _ _ => lF'
  rename News _ _ _ _ => lN'
  refine' range2 (s₀ := s) (n := 4) (y := Str.ofString "over") (y' := Str.ofString "under") (gO l r) (gU l r) hh rgX (by decide) (by rfl) (by assumption) lF' lN' (by rfl) (by rfl) ?_ ?_
  · clear lF' lN' rgX
    intro k tk0 a ta b tb9 s1 own hk0 hk1 hoff S' F' N' Q1 hQ1
    have hk4 : k < 4 := by omega
    refine' cut_put (Str.ofString "over") (fun t => .int (gO l r a b k) t) S' F' N' ?_ ?_
    · clear S' F' N'
      intro s2 Q2 S' F' N' hQ2
      repeat' (first
        | (k_unfold; (try dsimp only))
        | ((with_reducible show wpAny _ _ (eval (Expr.Call (Expr.Name _ _) _ [] _) _) _ _ _); refine Call_ ?_)
        | (walk1) | (dsimp only; walk1) | fail "no step")
      all_goals (try simp only [show List.getD [5, 15, 4, 12] (Int.toNat 0) 0 = (5 : Int) from rfl, show List.getD [3, 2, 15, 10] (Int.toNat 0) 0 = (3 : Int) from rfl, show List.getD [3, 2, 15, 10] k.toNat 0 = menuA k from rfl, show List.getD [5, 15, 4, 12] k.toNat 0 = menuB k from rfl] at *)
      all_goals first
        | (rw [show gO l r a b k = Builtin.bitOr a (1 * 2 ^ k.toNat) by rw [Int.one_mul]; simp [gO, c1, *]] at hQ2; exact hQ2 _ _ (by assumption) (by assumption) (by assumption))
        | (rw [show gO l r a b k = a by simp [gO, c1, *]] at hQ2; exact hQ2 _ ta (by assumption) (keep_put (by assumption) rfl) (by assumption))
    · clear S' F' N'
      intro s2 t9 S' F' N'
      refine' cut_put (Str.ofString "under") (fun t => .int (gU l r a b k) t) S' F' N' ?_ ?_
      · clear S' F' N'
        intro s2 Q2 S' F' N' hQ2
        repeat' (first
          | (k_unfold; (try dsimp only))
          | ((with_reducible show wpAny _ _ (eval (Expr.Call (Expr.Name _ _) _ [] _) _) _ _ _); refine Call_ ?_)
          | (walk1) | (dsimp only; walk1) | fail "no step")
        all_goals (try simp only [show List.getD [5, 15, 4, 12] (Int.toNat 0) 0 = (5 : Int) from rfl, show List.getD [3, 2, 15, 10] (Int.toNat 0) 0 = (3 : Int) from rfl, show List.getD [3, 2, 15, 10] k.toNat 0 = menuA k from rfl, show List.getD [5, 15, 4, 12] k.toNat 0 = menuB k from rfl] at *)
        all_goals first
          | (rw [show gU l r a b k = Builtin.bitOr b (1 * 2 ^ k.toNat) by rw [Int.one_mul]; simp [gU, c2, *]] at hQ2; exact hQ2 _ _ (by assumption) (by assumption) (by assumption))
          | (rw [show gU l r a b k = b by simp [gU, c2, *]] at hQ2; exact hQ2 _ tb9 (by assumption) (keep_put (by assumption) rfl) (by assumption))
      · clear S' F' N'
        intro s2 t9 S' F' N'
        repeat' (first
          | (k_unfold; (try dsimp only))
          | ((with_reducible show wpAny _ _ (eval (Expr.Call (Expr.Name _ _) _ [] _) _) _ _ _); refine Call_ ?_)
          | (walk1) | (dsimp only; walk1) | fail "no step")
        refine hQ1 _ _ _ _ (by assumption) (by assumption) (by assumption) rfl rfl ?_
        intro z z1 z2 z3
        simp only [if_neg z1, if_neg z2, if_neg z3]
  · clear lF' lN' rgX
    intro u9 t1 t2 s2 S' F' N'
    repeat' (first
      | (k_unfold; (try dsimp only))
      | ((with_reducible show wpAny _ _ (eval (Expr.Call (Expr.Name _ _) _ [] _) _) _ _ _); refine Call_ ?_)
      | (walk1) | (dsimp only; walk1) | fail "no step")
    exact hQ _ _ _ [_] (by assumption) (by assumption) (by assumption) ⟨_, _, rfl, rfl, _, _, _, _, rfl⟩
end Mine
set_option maxHeartbeats 4000000
namespace Mine
theorem fill5 : True := by
  w_top off
  exact True.intro
local macro_rules | `(tactic| k_mem) => `(tactic| ((repeat (first | assumption | exact List.Mem.head _ | apply List.Mem.tail)); done))
/-- what _law_made makes of two games by a sign -/
def madeG (sg : Int) (x y : G) : G := if sg = 18 then mkG (Builtin.bitOr x.o y.o) (Builtin.bitAnd x.u y.u) else mkG (Builtin.bitAnd x.o y.o) (Builtin.bitOr x.u y.u)
theorem made_c (w : World) (news : List (Addr × Obj)) (tb ax ay : Addr) (sg : Int) (ts : Tok) (x y : G) (htb : Tabs news tb) (hx : GameIn news ax x) (hy : GameIn news ay y) :
    Con w 2 153 [.int sg ts, .ref ax, .ref ay, .ref tb] news (fun tl v => ∃ a o, tl = [(a, o)] ∧ v = .ref a ∧ GO (madeG sg x y) o) := by
  obtain ⟨_, hx, t0, t1, t2, t3, rfl⟩ := hx
  obtain ⟨_, hy, u0, u1, u2, u3, rfl⟩ := hy
  refine' Con.of (binds := [(Str.ofString "sign", .int sg ts), (Str.ofString "x", .ref ax), (Str.ofString "y", .ref ay), (Str.ofString "tables", .ref tb)]) ?ho ?hbd ?hsc ?hcd ?hb ?hl ?hco ?hg ?hk ?hc ?hbody
  case' ho => k_is
  case' hbd => (conv => rhs; whnf)
  case' hsc => (conv => rhs; whnf)
  case' hcd => k_is
  case' hb => exact rfl
  case' hl => exact locs rfl
  case' hco => exact rfl
  case' hg => exact rfl
  case' hk => exact rfl
  case' hc => decide
  intro A g L s H hh S F N G ht Q hQ
  have X := G.x
  obtain ⟨loose, mean, mg, mb, T⟩ := G.t
  (try dsimp only)
  repeat' (first
    | (k_unfold; (try dsimp only))
    | ((with_reducible show wpAny _ _ (eval (Expr.Call (Expr.Name _ _) _ [] _) _) _ _ _); refine Call_ ?_)
    | ((with_reducible show wpAny _ _ (subscriptTail _ _ (Value.ref _) (Value.int _ _)) _ _ _); k_dflt (refine' item_litK ?k1 ?k2 ?k3 ?k4 ?_ ?k6; (case k1 => exact News.isList (by k_asm) (by k_mem)); (case k2 => first | assumption | decide | omega); (case k3 => first | assumption | decide | omega); (case k4 => first | rfl | assumption); (case k6 => with_unfolding_all rfl); k_whole); walk_say "ITEM")
    | ((with_reducible show wpAny _ _ (call (Value.ref 49) _ _) _ _ _); k_dflt (refine' Con.use (and_c _ _ _ _ _ _) ?k1 ?k2 ?k0 ?k3 ?k4 ?k5 ?_; (case k1 => assumption); (case k2 => decide); (case k3 => k_asm); (case k4 => k_asm); (case k5 => assumption); (case k0 => assumption); intro r9 tl9 s9 S9 F9 N9 hR9; (obtain ⟨e8, t9, e9⟩ := hR9); subst e8; subst e9; (rw [List.nil_append] at N9); (try dsimp only)); walk_say "CALL and_c")
    | ((with_reducible show wpAny _ _ (call (Value.ref 70) _ _) _ _ _); k_dflt (refine' Con.use (or_c _ _ _ _ _ _) ?k1 ?k2 ?k0 ?k3 ?k4 ?k5 ?_; (case k1 => assumption); (case k2 => decide); (case k3 => k_asm); (case k4 => k_asm); (case k5 => assumption); (case k0 => assumption); intro r9 tl9 s9 S9 F9 N9 hR9; (obtain ⟨e8, t9, e9⟩ := hR9); subst e8; subst e9; (rw [List.nil_append] at N9); (try dsimp only)); walk_say "CALL or_c")
    | ((with_reducible show wpAny _ _ (call (Value.ref 146) _ _) _ _ _); k_dflt (refine' Con.use (game_c _ _ _ _ _ _ _ ?g1) ?k1 ?k2 ?k0 ?k3 ?k4 ?k5 ?_; (case k1 => assumption); (case k2 => decide); (case k3 => k_asm); (case k4 => k_asm); (case k5 => assumption); (case k0 => assumption); (case g1 => first | assumption | exact GameIn.mono (by assumption) (by (intro p hp; repeat (first | assumption | apply List.Mem.tail))) | exact Tabs.mono (by assumption) (by (intro p hp; repeat (first | assumption | apply List.Mem.tail))) | exact ⟨_, (by k_mem), (by assumption)⟩ | exact ⟨_, (by k_mem), _, _, _, _, rfl⟩); intro r9 tl9 s9 S9 F9 N9 hR9; (obtain ⟨a9, o9, e8, e9, hG9⟩ := hR9); subst e8; subst e9; (rw [List.singleton_append] at N9); (try dsimp only)); walk_say "CALL game_c")
    | (walk1) | (dsimp only; walk1) | fail "no step")
  all_goals (refine hQ _ _ _ [_] (by assumption) (by assumption) (by assumption) ⟨_, _, rfl, rfl, ?_⟩; unfold madeG; simp only [*, if_true, if_false])
end Mine
set_option maxHeartbeats 4000000
namespace Mine
section
variable {prog : Program} {w : World} {A : Around} {E : Value → Shared → Prop} {s : Shared} {h₀ : Heap} {L : Addr} {m : Str → Option Value} {news : List (Addr × Obj)}
/-- t[:b] of a tuple of more than b items -/
theorem applied_to {sl : Addr} {b n : Nat} {u : Tok} {Q : Int × Int × Nat → Shared → Prop} (hs : s.heap.IsSliceOf sl .none (.int b u) .none) (hb : b ≤ n) (h : Q (0, 1, b) s) :
    wpAny (model prog w) A (Builtin.Slice.sliceApplied (.ref sl) (pure (n : Int))) Q E s := by
  obtain ⟨os, hos, hcs, hds⟩ := id hs
  unfold Builtin.Slice.sliceApplied Builtin.Slice.sliceFields
  refine wpAny_bind (wpAny_bind (wpAny_field hos hds (x := .none) rfl (wpAny_bind (wpAny_field hos hds (x := .int b u) rfl (wpAny_bind (wpAny_field hos hds (x := .none) rfl (wpAny_pure ?_)))))))
  refine wpAny_bind (slicePart_none ?_)
  show wpAny _ _ (if ((1 : Int) == 0) = true then _ else _) _ _ s
  rw [if_neg (by decide)]
  refine wpAny_bind (slicePart_none (wpAny_bind (slicePart_int (wpAny_bind (wpAny_pure ?_)))))
  have e1 : Builtin.Slice.sliceAdjust none (some (b : Int)) 1 (n : Int) = ((0 : Int), (b : Int)) := by
    unfold Builtin.Slice.sliceAdjust
    have h1 : ¬ ((1 : Int) < 0) := by omega
    have h2 : ¬ ((b : Int) < 0) := by omega
    simp only [h1, h2, if_false]
    congr 1
    omega
  have e2 : Builtin.Slice.slicePlaces 0 (b : Int) 1 = b := by
    unfold Builtin.Slice.slicePlaces
    have h1 : (1 : Int) > 0 := by omega
    simp only [h1, if_true, Int.ediv_one]
    split <;> omega
  show wpAny _ _ (match Builtin.Slice.sliceAdjust none (some (b : Int)) 1 (n : Int) with | (lo, hi) => pure (lo, (1 : Int), Builtin.Slice.slicePlaces lo hi 1)) _ _ s
  rw [e1]
  show wpAny _ _ (pure ((0 : Int), (1 : Int), Builtin.Slice.slicePlaces 0 (b : Int) 1)) _ _ s
  rw [e2]
  exact wpAny_pure h
theorem getItem_to {t sl : Addr} {items : Array Value} {b : Nat} {u : Tok} {Q : Value → Shared → Prop} (ht : IsTup s.heap t items) (hs : s.heap.IsSliceOf sl .none (.int b u) .none) (hb : b < items.size)
    (h : Q (.ref s.heap.objs.size) { s with heap := s.heap.push { cls := .type "tuple", data := .seq (items.toList.take b).toArray } }) (hsz : items.size ≤ sizeLine) : wpAny (model prog w) A (getItem (.ref t) (.ref sl)) Q E s := by
  have hdrop : sizeOk (.seq (items.toList.take b).toArray) := by
    show (items.toList.take b).toArray.size ≤ sizeLine
    rw [List.size_toArray, List.length_take, Array.length_toList]
    omega
  obtain ⟨os, hos, hcs, hds⟩ := id hs
  have hTs : s.TypeIs (.ref sl) "slice" := ⟨os, hos, hcs⟩
  unfold getItem
  try with_reducible refine wpAny_holding ?_
  first | refine wpAny_bind (wpAny_pure ?_) | skip
  refine wpAny_bind (wpAny_sequenceKey ht.typeIs (by decide) ?_)
  refine wpAny_bind (wpAny_callSpecial?_slot (name := Str.ofString "__getitem__") ht.typeIs slot_tuple_getitem
    (wpAny_call_entry slot_tuple_getitem ht.typeIs entry_tuple_getitem ?_ (args_tuple_getitem _ _)))
  show wpAny _ _ (Builtin.Tuple.tupleItemsOf (.ref t) >>= _) _ _ s
  refine wpAny_bind (tupleItemsOf_ ht ?_)
  refine wpAny_bind (wpAny_typeOf hTs ?_)
  rw [if_pos (by decide)]
  refine wpAny_bind (applied_to hs (Nat.le_of_lt hb) ?_)
  have hno : ¬ (((0 : Int) == 0 && (1 : Int) == 1 && b == items.size) = true) := by
    have : (b == items.size) = false := by rw [beq_eq_false_iff_ne]; omega
    rw [this]; simp
  show wpAny _ _ (if ((0 : Int) == 0 && (1 : Int) == 1 && b == items.size) = true then _ else _) _ _ s
  rw [if_neg hno]
  have e3 : ((List.range b).filterMap fun (k : Nat) => items[((0 : Int) + (k : Int) * 1).toNat]?).toArray = (items.toList.take b).toArray := by
    have e : (fun (k : Nat) => items[((0 : Int) + (k : Int) * 1).toNat]?) = fun k => items[0 + k]? := by
      funext k
      have : ((0 : Int) + (k : Int) * 1).toNat = 0 + k := by omega
      rw [this]
    rw [e]
    have := pick_run items 0 b
    rw [List.filterMap_map] at this
    have e2 : ((fun x => items[x]?) ∘ fun x => 0 + x) = fun k => items[0 + k]? := rfl
    rw [e2] at this
    rw [this, List.drop_zero]
  rw [e3]
  first
    | exact wpAny_bind (m := Builtin.Tuple.tupleExact _) (wpAny_newObj_type (wpAny_pure ⟨_, rfl, wpAny_pure h⟩) hdrop)
    | exact wpAny_bind (m := Builtin.Tuple.tupleExact _) (wpAny_newObj_type (wpAny_bind (wpAny_pure (wpAny_pure ⟨_, rfl, wpAny_pure h⟩))) hdrop)
    | exact wpAny_bind (wpAny_bind (m := Builtin.Tuple.tupleExact _) (wpAny_newObj_type (wpAny_pure (wpAny_pure ⟨_, rfl, wpAny_pure h⟩)) hdrop))
    | exact wpAny_bind (wpAny_bind (m := Builtin.Tuple.tupleExact _) (wpAny_newObj_type (wpAny_pure ⟨_, rfl, wpAny_pure h⟩) hdrop))
theorem slice_to {value slice : Expr} {t : Addr} {items : List Value} {b : Nat} {u : Tok} {Q : Value → Shared → Prop} (F : Fr h₀ L s.heap m) (N : News h₀ L s.heap news) (ht : (t, tupO items) ∈ news) (hb : b < items.length)
    (h : ∀ D h', Fr h₀ L h' m → News h₀ L h' ((D, tupO (items.take b)) :: news) → Q (.ref D) { s with heap := h' })
    (hs : subscripted slice false (.ref t) (.ref s.heap.objs.size) = operate [.ref s.heap.objs.size, .ref t] (getItem (.ref t) (.ref s.heap.objs.size)))
    (hg : ∀ r, letTemporaryGo value (.ref t) r = pure ()) (hsz : items.length ≤ 1000) :
    wpAny (model prog w) A (subscriptTail value slice (.ref t) (.ref s.heap.objs.size)) Q E { s with heap := s.heap.push { cls := .type "slice", data := .fields #[.none, .int b u, .none] } } := by
  have ht0 : IsTup s.heap t items.toArray := News.isTup N ht
  have ht' : IsTup (s.heap.push { cls := .type "slice", data := .fields #[.none, .int b u, .none] }) t items.toArray := ht0.keeps fun _ _ e => Heap.get?_push_of_some _ e
  refine subscriptTail_ops (s := { s with heap := s.heap.push { cls := .type "slice", data := .fields #[.none, .int b u, .none] } }) ht'.typeIs slot_tuple_getitem.lookup
    (getItem_to ht' (Heap.IsSliceOf.new ..) (by simpa using hb) ?_ (by rw [List.size_toArray, sizeLine_eq]; omega)) hs hg
  have N1 := News.push (F.push { cls := .type "slice", data := .fields #[.none, .int b u, .none] }) (N.grown fun _ _ e => Heap.get?_push_of_some _ e) { cls := .type "tuple", data := .seq (items.take b).toArray }
  exact h _ _ ((F.push _).push _) N1
theorem slice_from {value slice : Expr} {t : Addr} {items : List Value} {a : Nat} {u : Tok} {Q : Value → Shared → Prop} (F : Fr h₀ L s.heap m) (N : News h₀ L s.heap news) (ht : (t, tupO items) ∈ news) (h1 : 1 ≤ a) (ha : a ≤ items.length)
    (h : ∀ D h', Fr h₀ L h' m → News h₀ L h' ((D, tupO (items.drop a)) :: news) → Q (.ref D) { s with heap := h' })
    (hs : subscripted slice false (.ref t) (.ref s.heap.objs.size) = operate [.ref s.heap.objs.size, .ref t] (getItem (.ref t) (.ref s.heap.objs.size)))
    (hg : ∀ r, letTemporaryGo value (.ref t) r = pure ()) (hsz : items.length ≤ 1000) :
    wpAny (model prog w) A (subscriptTail value slice (.ref t) (.ref s.heap.objs.size)) Q E { s with heap := s.heap.push { cls := .type "slice", data := .fields #[.int a u, .none, .none] } } :=
  slice_tuple_from F N (News.isTup N ht) h1 (by simpa using ha) (fun h' F' N' => h _ h' F' N') hs hg (by rw [List.size_toArray, sizeLine_eq]; omega)
/-- two pairs of the same ints: t != u is False -/
theorem ne_pair {a b : Addr} {x y : Int} {t0 t1 u0 u1 : Tok} {Q : Value → Shared → Prop} (N : News h₀ L s.heap news) (qa : (a, tupO [.int x t0, .int y t1]) ∈ news) (qb : (b, tupO [.int x u0, .int y u1]) ∈ news) (hu : A.units + 64 < cLine) (h : Q (.bool false) s) :
    wpAny (model prog w) A (compareOp .NotEq (.ref a) (.ref b)) Q E s := by
  refine ne_dataH (reads_tuple_at (N.get qa) rfl rfl (readsAll_cons_val (.int x t0) (readsAll_cons_val (.int y t1) .nil))) (reads_tuple_at (N.get qb) rfl rfl (readsAll_cons_val (.int x u0) (readsAll_cons_val (.int y u1) .nil))) rfl rfl hu ?_
  have e : (!PyData.eqv (.tuple [.int x, .int y]) (.tuple [.int x, .int y])) = false := by simp [PyData.eqv, PyData.eqvAll]
  rw [e]
  exact h
end
end Mine
set_option maxHeartbeats 4000000
namespace Mine
theorem fill6 : True := by
  w_top off
  exact True.intro
local macro_rules | `(tactic| k_mem) => `(tactic| ((repeat (first | assumption | exact List.Mem.head _ | apply List.Mem.tail)); done))
/-- what _law_fits asks of a game made of two -/
def fitsG (up : Bool) (x y z e : G) : Prop := z.l = z.o ∧ z.r = z.u ∧
  (up = true → leastG z x = true ∧ leastG z y = true ∧ leastG e z = (leastG e x && leastG e y)) ∧
  (up = false → leastG x z = true ∧ leastG y z = true ∧ leastG z e = (leastG x e && leastG y e))
theorem fits_c (w : World) (news : List (Addr × Obj)) (ax ay az ae : Addr) (up : Bool) (x y z e : G) (hx : GameIn news ax x) (hy : GameIn news ay y) (hz : GameIn news az z) (he : GameIn news ae e) (hf : fitsG up x y z e) :
    Con w 3 181 [.bool up, .ref ax, .ref ay, .ref az, .ref ae] news (fun tl v => v = .bool true) := by
  obtain ⟨zl, zr, zo, zu⟩ := z
  obtain ⟨hf1, hf2, hf3, hf4⟩ := hf
  dsimp only at hf1 hf2
  subst hf1 hf2
  have hx0 := hx
  have hy0 := hy
  have hz0 := hz
  have he0 := he
  obtain ⟨_, hz, v0, v1, v2, v3, rfl⟩ := hz
  dsimp only at hz
  refine' Con.of (binds := [(Str.ofString "up", .bool up), (Str.ofString "x", .ref ax), (Str.ofString "y", .ref ay), (Str.ofString "z", .ref az), (Str.ofString "e", .ref ae)]) ?ho ?hbd ?hsc ?hcd ?hb ?hl ?hco ?hg ?hk ?hc ?hbody
  case' ho => k_is
  case' hbd => (conv => rhs; whnf)
  case' hsc => (conv => rhs; whnf)
  case' hcd => k_is
  case' hb => exact rfl
  case' hl => exact locs rfl
  case' hco => exact rfl
  case' hg => exact rfl
  case' hk => exact rfl
  case' hc => decide
  intro A g L s H hh S F N G ht Q hQ
  have X := G.x
  obtain ⟨loose, mean, mg, mb, T⟩ := G.t
  (try dsimp only)
  repeat' (first
    | (k_unfold; (try dsimp only))
    | ((with_reducible show wpAny _ _ (eval (Expr.Call (Expr.Name _ _) _ [] _) _) _ _ _); refine Call_ ?_)
    | ((with_reducible show wpAny _ _ (subscriptTail _ _ (Value.ref _) (Value.int _ _)) _ _ _); k_dflt (refine' item_litK ?k1 ?k2 ?k3 ?k4 ?_ ?k6; (case k1 => exact News.isList (by k_asm) (by k_mem)); (case k2 => first | assumption | decide | omega); (case k3 => first | assumption | decide | omega); (case k4 => first | rfl | assumption); (case k6 => with_unfolding_all rfl); k_whole); walk_say "ITEM")
    | ((with_reducible show wpAny _ _ (subscriptTail _ _ (Value.ref _) (Value.ref _)) _ _ _); k_dflt (first | (refine' slice_to (b := 2) ?F ?N ?q ?b ?_ ?h1 ?h2 ?z; (case F => k_asm); (case N => k_asm); (case q => k_mem); (case b => simp); (case h1 => with_unfolding_all rfl); (case h2 => intro _; with_unfolding_all rfl); (case z => simp)) | (refine' slice_from (a := 2) ?F ?N ?q ?a ?b ?_ ?h1 ?h2 ?z; (case F => k_asm); (case N => k_asm); (case q => k_mem); (case a => decide); (case b => simp); (case h1 => with_unfolding_all rfl); (case h2 => intro _; with_unfolding_all rfl); (case z => simp))); intro D' h' F' N'; (try k_sweep); walk_say "SLICE")
    | ((with_reducible show wpAny _ _ (compareOp CmpOp.NotEq (Value.ref _) (Value.ref _)) _ _ _); k_dflt (refine' ne_pair ?N ?qa ?qb ?hu ?_; (case N => k_asm); (case qa => k_mem); (case qb => k_mem); (case hu => exact Here.units (by assumption))); walk_say "NEPAIR")
    | ((with_reducible show wpAny _ _ (call (Value.ref 160) _ _) _ _ _); k_dflt (refine' Con.use (least_c _ _ _ _ _ _ ?g1 ?g2) ?k1 ?k2 ?k0 ?k3 ?k4 ?k5 ?_; (case k1 => assumption); (case k2 => decide); (case k3 => k_asm); (case k4 => k_asm); (case k5 => assumption); (case k0 => assumption); (case g1 => first | assumption | exact GameIn.mono (by assumption) (by (intro p hp; repeat (first | assumption | apply List.Mem.tail))) | exact Tabs.mono (by assumption) (by (intro p hp; repeat (first | assumption | apply List.Mem.tail))) | exact ⟨_, (by k_mem), (by assumption)⟩ | exact ⟨_, (by k_mem), _, _, _, _, rfl⟩); (case g2 => first | assumption | exact GameIn.mono (by assumption) (by (intro p hp; repeat (first | assumption | apply List.Mem.tail))) | exact Tabs.mono (by assumption) (by (intro p hp; repeat (first | assumption | apply List.Mem.tail))) | exact ⟨_, (by k_mem), (by assumption)⟩ | exact ⟨_, (by k_mem), _, _, _, _, rfl⟩); intro r9 tl9 s9 S9 F9 N9 hR9; (obtain ⟨e8, e9⟩ := hR9); subst e8; subst e9; (rw [List.nil_append] at N9); (try dsimp only)); walk_say "CALL least_c")
    | (walk1) | (dsimp only; walk1) | fail "no step")
  all_goals first
    | (obtain ⟨f1, f2, f3⟩ := hf3 (by assumption); exact absurd (f1.symm.trans (show _ = false by assumption)) (by decide))
    | (obtain ⟨f1, f2, f3⟩ := hf3 (by assumption); exact absurd (f2.symm.trans (show _ = false by assumption)) (by decide))
    | (obtain ⟨f1, f2, f3⟩ := hf4 (by assumption); exact absurd (f1.symm.trans (show _ = false by assumption)) (by decide))
    | (obtain ⟨f1, f2, f3⟩ := hf4 (by assumption); exact absurd (f2.symm.trans (show _ = false by assumption)) (by decide))
    | (obtain ⟨f1, f2, f3⟩ := hf3 (by assumption); refine hQ _ _ _ [_, _] (by assumption) (by assumption) (by assumption) ?_; rw [f3]; simp [*]; done)
    | (obtain ⟨f1, f2, f3⟩ := hf4 (by assumption); refine hQ _ _ _ [_, _] (by assumption) (by assumption) (by assumption) ?_; rw [f3]; simp [*]; done)
    | trace_state
end Mine
set_option maxHeartbeats 4000000
namespace Mine
theorem fill9 : True := by
  w_top off
  exact True.intro
local macro_rules | `(tactic| k_mem) => `(tactic| ((repeat (first | assumption | exact List.Mem.head _ | apply List.Mem.tail)); done))
/-- the k-th number that _law_numbers reckons -/
def numF (ns : List Int) (k : Int) : Int := ([4937, 1956, 8210, 400, 2177, 21] : List Int).getD k.toNat 0 + ((pickNums ns (some k) (some 24) (some 6)).map fun x => x.fmod 1000000).sum
theorem num_c (w : World) (news : List (Addr × Obj)) (ls lt : Addr) (vs : List Value) (ns : List Int) (t0 t1 t2 t3 t4 t5 : Tok) (n : Nat) (hi : IntsAre vs ns) (hlen : ns.length ≤ 63) (hlt : (lt, listOf #[.int 4937 t0, .int 1956 t1, .int 8210 t2, .int 400 t3, .int 2177 t4, .int 21 t5] n) ∈ news) :
    ConP w 1 113 [.ref ls, .ref lt] (fun h => h.IsList ls vs.toArray) news (fun tl v => ∃ D ys, tl = [(D, LCg.lst ys)] ∧ v = .ref D ∧ IntsAre ys ((rangeKs 0 6).map (numF ns))) := by
  have hit : IntsAre [.int 4937 t0, .int 1956 t1, .int 8210 t2, .int 400 t3, .int 2177 t4, .int 21 t5] [4937, 1956, 8210, 400, 2177, 21] := .cons _ _ (.cons _ _ (.cons _ _ (.cons _ _ (.cons _ _ (.cons _ _ .nil)))))
  refine' ConP.of (binds := [(Str.ofString "script", .ref ls), (Str.ofString "told", .ref lt)]) ?hP ?ho ?hbd ?hsc ?hcd ?hb ?hkd ?hnd ?hco ?hg ?hk ?hbody
  case' hP => exact fun h h' k p => p.at fun o e => k ls o e
  case' ho => k_is
  case' hbd => (conv => rhs; whnf)
  case' hsc => (conv => rhs; whnf)
  case' hcd => k_is
  case' hb => exact rfl
  case' hkd => exact rfl
  case' hnd => decide +kernel
  case' hco => exact rfl
  case' hg => exact rfl
  case' hk => exact rfl
  intro A g L s cells H hh S F N Y l1 G hls Q hQ
  have X := G.x
  obtain ⟨loose, mean, mg, mb, T⟩ := G.t
  k_cells Y
  simp only [List.cons_append, List.nil_append] at N
  repeat' (first
    | (k_unfold; (try dsimp only))
    | ((with_reducible show wpAny _ _ (eval (Expr.Call (Expr.Name _ _) _ [] _) _) _ _ _); refine Call_ ?_)
    | ((with_reducible show wpAny _ _ (storeName _ _ _) _ _ _); k_dflt (refine' storeX_C ?sF ?sN ?sc ?sU ?sd ?_ ?sa ?sb; (case sa => rfl); (case sb => rfl); (case sF => k_asm); (case sN => k_asm); (case sc => rfl); (case sU => refine' UpdF.head ?sx; exact List.forall_mem_cons.mpr ⟨(by k_ne), List.forall_mem_cons.mpr ⟨(by k_ne), fun p hp => Nat.ne_of_lt (Nat.lt_add_right 3 (l1 p hp))⟩⟩); (case sd => k_asm); k_whole); intro h' o' F' N' d'; (try dsimp only at N'); walk_say "CELL")
    | ((fail_if_success (with_reducible show wpAny _ _ (pyIter _) _ _ _)); walk1) | ((fail_if_success (with_reducible show wpAny _ _ (pyIter _) _ _ _)); dsimp only; walk1) | fail "no step")
  refine LCg.CompSrc.range (n := 6) hh (by k_asm) (by k_asm) (by assumption) (by decide) (by rfl) (Nat.le_of_ble_eq_true rfl) ?_
  intro g9
  refine' kcf_range (numF ns) (fun k t I oI C oC D m2 ys h1 tk E' hlo hhi hC hx F2 N2 off ne hMark => ?_) ?_
  · have hk6 : k < 6 := by omega
    try dsimp only
    repeat' (first
      | (k_unfold; (try dsimp only))
      | ((with_reducible show wpAny _ _ (eval (Expr.Call (Expr.Name _ _) _ [] _) _) _ _ _); refine Call_ ?_)
      | ((fail_if_success (with_reducible show wpAny _ _ (pyIter _) _ _ _)); walk1) | ((fail_if_success (with_reducible show wpAny _ _ (pyIter _) _ _ _)); dsimp only; walk1) | fail "no step")
    dsimp only
    rename News _ _ _ _ => lN
    rename Fr _ _ _ _ => lF
    refine' srcC_listD (vs := (slicePick vs.toArray (some k) (some 24) (some 6)).toList) (K := ItemKind.int) (as := pickNums ns (some k) (some 24) (some 6)) (pz := fun _ => true) (d := fun x => .int (x.fmod 1000000)) hh ?hl (IntsAre.pick hi _ _ _).areOf lF lN ?g1 ?g2 ?g3 ?hsz
    case hl => rw [Array.toArray_toList]; exact News.isList lN (List.Mem.head _)
    case g1 => exact fun C a v s2 m2 E' ha hns hm htk => wpAny_pure ⟨rfl, _, _, rfl, fun _ _ e => e⟩
    case g2 =>
      intro C a v s2 m2 E' ha hp hns hm htk
      obtain ⟨t, rfl⟩ := ha
      repeat' (first
        | (k_unfold; (try dsimp only))
        | ((with_reducible show wpAny _ _ (eval (Expr.Call (Expr.Name _ _) _ [] _) _) _ _ _); refine Call_ ?_)
        | (walk1) | (dsimp only; walk1) | fail "no step")
      all_goals first | exact .int _ _ | exact ⟨_, _, rfl, fun _ _ e => e⟩
    case hsz =>
      have e1 := (IntsAre.pick hi (some k) (some 24) (some 6)).length
      have e2 := slicePick_size_le vs.toArray (some k) (some 24) (some 6)
      rw [← e1]
      refine Nat.le_trans e2 ?_
      rw [List.size_toArray, hi.length, sizeLine_eq]
      omega
    case g3 =>
      intro D1 ys1 h2 tk2 F3 N3 hnew hl2 hpl hcar
      have hints : IntsAre ys1 ((pickNums ns (some k) (some 24) (some 6)).map fun x => x.fmod 1000000) := by
        apply IntsAre.ofCarried
        rw [List.filter_eq_self.mpr (fun _ _ => rfl)] at hcar
        rw [List.map_map]
        exact hcar
      clear lN lF
      repeat' (first
        | (k_unfold; (try dsimp only))
        | ((with_reducible show wpAny _ _ (eval (Expr.Call (Expr.Name _ _) _ [] _) _) _ _ _); refine Call_ ?_)
        | ((with_reducible show wpAny _ _ (call (Value.builtin "sum") _ _) _ _ _); refine LSm.sum_ints (by k_asm) (by k_asm) hh hl2 hints ?_; intro h5 tk5 t5 F5 N5; walk_say "SUM")
        | (walk1) | (dsimp only; walk1) | fail "no step")
      exact ⟨rfl, _, rfl⟩
  · repeat' (first
   | (k_unfold; (try dsimp only))
   | ((with_reducible show wpAny _ _ (eval (Expr.Call (Expr.Name _ _) _ [] _) _) _ _ _); refine Call_ ?_)
   | (walk1) | (dsimp only; walk1) | fail "no step")
    refine hQ _ _ _ [(_, _)] (by assumption) (by assumption) (fun p hp => ?_) ⟨_, _, rfl, rfl, (by assumption)⟩
    · rename News _ _ _ _ => lN
      rcases List.mem_cons.mp hp with rfl | hp
      · exact lN _ (List.Mem.head _)
      · exact lN p (by k_mem)
end Mine
set_option maxHeartbeats 4000000
namespace Mine
theorem fill10 : True := by
  w_top off
  exact True.intro
local macro_rules | `(tactic| k_mem) => `(tactic| ((repeat (first | assumption | exact List.Mem.head _ | apply List.Mem.tail)); done))
/-- what one turn of _law_tables' inner loop makes of the two tables -/
def cellT (x : Int) (c : List Int × List Int) (y : Int) : List Int × List Int :=
  if x.fdiv 2 ≤ y.fdiv 2 ∧ y.fmod 2 ≤ x.fmod 2 then (c.1.set y.toNat (Builtin.bitOr (c.1.getD y.toNat 0) (1 * 2 ^ x.toNat)), c.2.set x.toNat (Builtin.bitOr (c.2.getD x.toNat 0) (1 * 2 ^ y.toNat))) else c
def rowT (c : List Int × List Int) (x : Int) : List Int × List Int := (rangeKs 0 4).foldl (cellT x) c
def TabR (news : List (Addr × Obj)) (a b : Addr) (c : List Int × List Int) (m : Str → Option Value) (nx : List (Addr × Obj)) : Prop :=
  ∃ va vb na nb, nx = (b, listOf (List.toArray vb) nb) :: (a, listOf (List.toArray va) na) :: news ∧ IntsAre va c.1 ∧ IntsAre vb c.2 ∧ c.1.length = 4 ∧ c.2.length = 4 ∧ m (Str.ofString "above") = some (.ref a) ∧ m (Str.ofString "below") = some (.ref b)
theorem nw_app {g h : Heap} {L : Addr} {a b : Addr × Obj} {x y : List (Addr × Obj)} (N : News g L h (a :: b :: (x ++ y))) : News g L h ((a :: b :: x) ++ y) := N
theorem tabStart {g h : Heap} {L D1 D2 l1 l2 : Addr} {m : Str → Option Value} {news : List (Addr × Obj)} {oa ob : Obj} {va vb : List Value} {na nb : Nat} {c : List Int × List Int} (F : Fr g L h m)
    (N : News g L h ((D2, listOf (List.toArray vb) nb) :: (l2, ob) :: (D1, listOf (List.toArray va) na) :: (l1, oa) :: news)) (k1 : l1 < D1 ∧ AllLt D1 news) (k2 : l2 < D2 ∧ D1 < D2 ∧ l1 < D2 ∧ AllLt D2 news)
    (e1 : m (Str.ofString "above") = some (.ref D1)) (e2 : m (Str.ofString "below") = some (.ref D2)) (i1 : IntsAre va c.1) (i2 : IntsAre vb c.2) (h1 : c.1.length = 4) (h2 : c.2.length = 4) :
    ∃ D1 D2 m' nx, Fr g L h m' ∧ News g L h nx ∧ (∀ p ∈ news, p.1 ≠ D1) ∧ (∀ p ∈ news, p.1 ≠ D2) ∧ D1 ≠ D2 ∧ TabR news D1 D2 c m' nx :=
  ⟨D1, D2, m, (D2, listOf (List.toArray vb) nb) :: (D1, listOf (List.toArray va) na) :: news, F, fun p hp => N p (by
    rcases List.mem_cons.mp hp with rfl | hp
    · exact .head _
    rcases List.mem_cons.mp hp with rfl | hp
    · exact .tail _ (.tail _ (.head _))
    · exact .tail _ (.tail _ (.tail _ (.tail _ hp)))), fun p hp => Nat.ne_of_lt (ktn_ltOf k1.2 p hp), fun p hp => Nat.ne_of_lt (ktn_ltOf k2.2.2.2 p hp), Nat.ne_of_lt k2.2.1, va, vb, na, nb, rfl, i1, i2, h1, h2, e1, e2⟩
theorem tab_c (w : World) (news : List (Addr × Obj)) : Con w 2 139 [] news (fun tl v => ∃ a, v = .ref a ∧ Tabs tl a) := by
  refine' Con.of (binds := []) ?ho ?hbd ?hsc ?hcd ?hb ?hl ?hco ?hg ?hk ?hc ?hbody
  case' ho => k_is
  case' hbd => (conv => rhs; whnf)
  case' hsc => (conv => rhs; whnf)
  case' hcd => k_is
  case' hb => exact rfl
  case' hl => exact locs rfl
  case' hco => exact rfl
  case' hg => exact rfl
  case' hk => exact rfl
  case' hc => decide
  intro A g L s H hh S F N G ht Q hQ
  have X := G.x
  obtain ⟨loose, mean, mg, mb, T⟩ := G.t
  (try dsimp only)
  repeat' (first
    | (k_unfold; (try dsimp only))
    | ((with_reducible show wpAny _ _ (eval (Expr.Call (Expr.Name _ _) _ [] _) _) _ _ _); refine Call_ ?_)
    | ((fail_if_success (with_reducible show wpAny _ _ (pyIter _) _ _ _)); walk1) | ((fail_if_success (with_reducible show wpAny _ _ (pyIter _) _ _ _)); dsimp only; walk1) | fail "no step")
  rename News _ _ _ _ => lN
  rename Fr _ _ _ _ => lF
  rename IsRange _ _ _ _ _ _ _ _ => rgX
  obtain ⟨D1, D2, m0, nx0, F0, N0, n1, n2, n3, hR0⟩ := tabStart (c := ([0, 0, 0, 0], [0, 0, 0, 0])) lF lN (by assumption) (by assumption) rfl rfl (by assumption) (by assumption) rfl rfl
  refine' rangeL (s₀ := s) (n := 4) (TabR news D1 D2) rowT ([0, 0, 0, 0], [0, 0, 0, 0]) hh rgX (by decide) (by rfl) (by assumption) F0 N0 hR0 ?_ ?_
  · clear lN lF rgX
    intro x tx c m1 nx s1 own hx0 hx1 hoff S1 hR F1 N1 Q1 hQ1
    have hadr : nx.map (·.1) = nx0.map (·.1) := by
      obtain ⟨_, _, _, _, rfl, _⟩ := hR
      obtain ⟨_, _, _, _, rfl, _⟩ := hR0
      rfl
    clear hR0 N0 F0
    obtain ⟨va, vb, na, nb, rfl, iA, iB, lA, lB, eA, eB⟩ := hR
    have o1 : ∀ p ∈ own, p.1 ≠ D1 := fun p hp => hoff p hp D1 (by rw [← hadr]; exact .tail _ (.head _))
    have o2 : ∀ p ∈ own, p.1 ≠ D2 := fun p hp => hoff p hp D2 (by rw [← hadr]; exact .head _)
    repeat' (first
      | (k_unfold; (try dsimp only))
      | ((with_reducible show wpAny _ _ (eval (Expr.Call (Expr.Name _ _) _ [] _) _) _ _ _); refine Call_ ?_)
      | ((with_reducible show wpAny _ _ (eval (Expr.Name _ _) _) _ _ _); k_dflt (refine' nameX_L ?nmF ?nmv ?_ ?nma ?nmb; (case nmF => k_asm); (case nma => rfl); (case nmb => rfl); (case nmv => first | rfl | assumption); k_whole); walk_say "NAMEH")
      | ((fail_if_success (with_reducible show wpAny _ _ (pyIter _) _ _ _)); walk1) | ((fail_if_success (with_reducible show wpAny _ _ (pyIter _) _ _ _)); dsimp only; walk1) | fail "no step")
    rename News _ _ _ _ => lN
    rename Fr _ _ _ _ => lF
    rename IsRange _ _ _ _ _ _ _ _ => rgX
    refine' rangeL (s₀ := s) (n := 4) (fun c m nx => TabR (news ++ own) D1 D2 c m nx ∧ m (Str.ofString "x") = some (.int x tx)) (cellT x) c hh rgX (by decide) (by rfl) (by assumption) lF lN ⟨⟨_, _, _, _, rfl, iA, iB, lA, lB, eA, eB⟩, rfl⟩ ?_ ?_
    · clear lN lF rgX iA iB lA lB eA eB hQ1
      intro y ty c m1 nx s1 own2 hy0 hy1 hoff2 S1 hR F1 N1 Q2 hQ2
      obtain ⟨⟨va, vb, na, nb, rfl, iA, iB, lA, lB, eA, eB⟩, eX⟩ := hR
      have r1 : ∀ p ∈ (news ++ own) ++ own2, p.1 ≠ D1 := fun p hp => (List.mem_append.mp hp).elim (fun hp => (List.mem_append.mp hp).elim (n1 p) (o1 p)) fun hp => hoff2 p hp D1 (.tail _ (.head _))
      have r2 : ∀ p ∈ (news ++ own) ++ own2, p.1 ≠ D2 := fun p hp => (List.mem_append.mp hp).elim (fun hp => (List.mem_append.mp hp).elim (n2 p) (o2 p)) fun hp => hoff2 p hp D2 (.head _)
      rw [List.cons_append, List.cons_append] at N1
      have hx4 : x < 4 := by omega
      have hy4 : y < 4 := by omega
      repeat' (first
        | (k_unfold; (try dsimp only))
        | ((with_reducible show wpAny _ _ (eval (Expr.Call (Expr.Name _ _) _ [] _) _) _ _ _); refine Call_ ?_)
        | ((with_reducible show wpAny _ _ (eval (Expr.Name _ _) _) _ _ _); k_dflt (refine' nameX_L ?nmF ?nmv ?_ ?nma ?nmb; (case nmF => k_asm); (case nma => rfl); (case nmb => rfl); (case nmv => first | rfl | assumption); k_whole); walk_say "NAMEH")
        | ((with_reducible show wpAny _ _ (setItem (Value.ref _) (Value.int _ _) (Value.int _ _)) _ _ _); k_dflt (refine' ksa_set ?sF ?sN ?sU ?si ?sp ?sq ?sr ?_; (case sF => k_asm); (case sN => k_asm); (case sU => first | exact Upd.head (List.forall_mem_cons.mpr ⟨n3, r2⟩) | exact Upd.tail (Ne.symm n3) (Upd.head r1)); (case si => assumption); (case sp => assumption); (case sq => omega); (case sr => omega)); intro h' F' N' hi' hl' hs'; walk_say "SETI")
        | ((with_reducible show wpAny _ _ (call (Value.ref 28) _ _) _ _ _); k_dflt (refine' Con.use (le_c _ _ _ _ _ _) ?k1 ?k2 ?k0 ?k3 ?k4 ?k5 ?_; (case k1 => assumption); (case k2 => decide); (case k3 => k_asm); (case k4 => k_asm); (case k5 => assumption); (case k0 => assumption); intro r9 tl9 s9 S9 F9 N9 hR9; (obtain ⟨e8, e9⟩ := hR9); subst e8; subst e9; (rw [List.nil_append] at N9); (try dsimp only)); walk_say "CALL le_c")
        | (walk1) | (dsimp only; walk1) | fail "no step")
      · refine hQ2 _ _ ((D2, _) :: (D1, _) :: (news ++ own)) (by assumption) (by assumption) (nw_app (by assumption)) (by rfl) ?_
        rw [show cellT x c y = (_, _) from if_pos ⟨by assumption, by assumption⟩]
        exact ⟨⟨_, _, _, _, rfl, by assumption, by assumption, by rw [List.length_set]; exact lA, by rw [List.length_set]; exact lB, eA, eB⟩, eX⟩
      all_goals
        refine hQ2 _ _ ((D2, _) :: (D1, _) :: (news ++ own)) (by assumption) (by assumption) (nw_app (by assumption)) (by rfl) ?_
        rw [show cellT x c y = c from if_neg fun h => absurd h (by simp [*])]
        exact ⟨⟨_, _, _, _, rfl, by assumption, by assumption, lA, lB, eA, eB⟩, eX⟩
    · clear lN lF rgX iA iB lA lB eA eB
      intro m2 nx2 s2 S2 hR F2 N2
      obtain ⟨⟨va, vb, na, nb, rfl, iA, iB, lA, lB, eA, eB⟩, eX⟩ := hR
      repeat' (first
        | (k_unfold; (try dsimp only))
        | ((with_reducible show wpAny _ _ (eval (Expr.Call (Expr.Name _ _) _ [] _) _) _ _ _); refine Call_ ?_)
        | ((with_reducible show wpAny _ _ (eval (Expr.Name _ _) _) _ _ _); k_dflt (refine' nameX_L ?nmF ?nmv ?_ ?nma ?nmb; (case nmF => k_asm); (case nma => rfl); (case nmb => rfl); (case nmv => first | rfl | assumption); k_whole); walk_say "NAMEH")
        | (walk1) | (dsimp only; walk1) | fail "no step")
      exact hQ1 _ _ ((D2, _) :: (D1, _) :: news) (by assumption) (by assumption) (nw_app (by assumption)) (by exact hadr) ⟨_, _, _, _, rfl, by assumption, by assumption, lA, lB, eA, eB⟩
  · clear lN lF rgX N0 F0
    intro m2 nx2 s2 S2 hR F2 N2
    rw [show (rangeKs 0 4).foldl rowT ([0, 0, 0, 0], [0, 0, 0, 0]) = ([3, 2, 15, 10], [5, 15, 4, 12]) by decide] at hR
    obtain ⟨va, vb, na, nb, rfl, iA, iB, lA, lB, eA, eB⟩ := hR
    repeat' (first
      | (k_unfold; (try dsimp only))
      | ((with_reducible show wpAny _ _ (eval (Expr.Call (Expr.Name _ _) _ [] _) _) _ _ _); refine Call_ ?_)
      | ((with_reducible show wpAny _ _ (eval (Expr.Name _ _) _) _ _ _); k_dflt (refine' nameX_L ?nmF ?nmv ?_ ?nma ?nmb; (case nmF => k_asm); (case nma => rfl); (case nmb => rfl); (case nmv => first | rfl | assumption); k_whole); walk_say "NAMEH")
      | (walk1) | (dsimp only; walk1) | fail "no step")
    exact hQ _ _ _ [_, _, _] (by assumption) (by assumption) (by assumption) ⟨_, rfl, _, _, _, _, _, _, .head _, .tail _ (.tail _ (.head _)), iA, .tail _ (.head _), iB⟩
end Mine
set_option maxHeartbeats 4000000
namespace Mine
theorem fill11 : True := by
  w_top off
  exact True.intro
local macro_rules | `(tactic| k_mem) => `(tactic| ((repeat (first | assumption | exact List.Mem.head _ | apply List.Mem.tail)); done))
/-- the three lights stand under their names -/
def RGB (m : Str → Option Value) (r g b : UInt64) : Prop := (∃ t, m (Str.ofString "r") = some (.float r t) ∧ t ≠ 0) ∧ (∃ t, m (Str.ofString "g") = some (.float g t) ∧ t ≠ 0) ∧ ∃ t, m (Str.ofString "b") = some (.float b t) ∧ t ≠ 0
theorem cut_rgb {M : Model} {A : Around} {E : Value → Shared → Prop} {env : Env} {h : Heap} {L : Addr} {m : Str → Option Value} {news : List (Addr × Obj)} {s₀ s : Shared} {st : Stmt} {rest : List Stmt} {Q : Flow → Shared → Prop} {r g b : UInt64} (r' g' b' : UInt64)
    (S : Same s₀ s) (F : Fr h L s.heap m) (N : News h L s.heap news) (hm : RGB m r g b)
    (h1 : ∀ s₁ m₁ t1 t2 t3 (Q' : Flow → Shared → Prop), Same s₀ s₁ → Fr h L s₁.heap m₁ → News h L s₁.heap news → m₁ (Str.ofString "r") = some (.float r t1) → m₁ (Str.ofString "g") = some (.float g t2) → m₁ (Str.ofString "b") = some (.float b t3) → t1 ≠ 0 → t2 ≠ 0 → t3 ≠ 0 →
      (∀ s' m', Same s₀ s' → Fr h L s'.heap m' → News h L s'.heap news → RGB m' r' g' b' → Q' .next s') → wpAny M A (exec st env) Q' E s₁)
    (h2 : ∀ s' m', Same s₀ s' → Fr h L s'.heap m' → News h L s'.heap news → RGB m' r' g' b' → wpAny M A (execs rest env) Q E s') : wpAny M A (execs (st :: rest) env) Q E s := by
  obtain ⟨⟨t1, e1, z1⟩, ⟨t2, e2, z2⟩, ⟨t3, e3, z3⟩⟩ := hm
  exact execs_cut (fun s' => ∃ m', Same s₀ s' ∧ Fr h L s'.heap m' ∧ News h L s'.heap news ∧ RGB m' r' g' b') (fun Q' k => h1 s m t1 t2 t3 Q' S F N e1 e2 e3 z1 z2 z3 fun s' m' a b c d => k s' ⟨m', a, b, c, d⟩) fun s' ⟨m', a, b, c, d⟩ => h2 s' m' a b c d
def lo (x : UInt64) : UInt64 := if (Float64.cmp x 0 == some Ordering.lt) = true then 0 else x
def hi (x : UInt64) : UInt64 := if (Float64.cmp x 4607182418800017408 == some Ordering.gt) = true then 4607182418800017408 else x
def red0 (y : UInt64) (i q : Int) : UInt64 := Float64.add (Float64.add y (Float64.mul 4606703976345377586 (Float64.ofInt i))) (Float64.mul 4603791717925830846 (Float64.ofInt q))
def green0 (y : UInt64) (i q : Int) : UInt64 := Float64.sub (Float64.sub y (Float64.mul 4598621754083818298 (Float64.ofInt i))) (Float64.mul 4603901015759978483 (Float64.ofInt q))
def blue0 (y : UInt64) (i q : Int) : UInt64 := Float64.add (Float64.sub y (Float64.mul 4607671262177584182 (Float64.ofInt i))) (Float64.mul 4610375502138591871 (Float64.ofInt q))
theorem yiq_c (w : World) (news : List (Addr × Obj)) (y : UInt64) (i q : Int) (ty ti tq : Tok) (hi0 : -8 ≤ i) (hi2 : i ≤ 8) (hq : -8 ≤ q) (hq2 : q ≤ 8) : Con w 1 21 [.float y ty, .int i ti, .int q tq] news (fun tl v => ∃ a t1 t2 t3, t1 ≠ 0 ∧ t2 ≠ 0 ∧ t3 ≠ 0 ∧ tl = [(a, tupO [.float (hi (lo (red0 y i q))) t1, .float (hi (lo (green0 y i q))) t2, .float (hi (lo (blue0 y i q))) t3])] ∧ v = .ref a) := by
  refine' Con.of (binds := [(Str.ofString "y", .float y ty), (Str.ofString "i", .int i ti), (Str.ofString "q", .int q tq)]) ?ho ?hbd ?hsc ?hcd ?hb ?hl ?hco ?hg ?hk ?hc ?hbody
  case' ho => k_is
  case' hbd => (conv => rhs; whnf)
  case' hsc => (conv => rhs; whnf)
  case' hcd => k_is
  case' hb => exact rfl
  case' hl => exact locs rfl
  case' hco => exact rfl
  case' hg => exact rfl
  case' hk => exact rfl
  case' hc => decide
  intro A g L s H hh S F N G ht Q hQ
  have X := G.x
  obtain ⟨loose, mean, mg, mb, T⟩ := G.t
  (try dsimp only)
  repeat' (first
    | (k_unfold; (try dsimp only))
    | ((with_reducible show wpAny _ _ (eval (Expr.Call (Expr.Name _ _) _ [] _) _) _ _ _); refine Call_ ?_)
    | ((with_reducible show wpAny _ _ (execs (_ :: _) _) _ _ _); (fail_if_success (with_reducible show wpAny _ _ (execs (Stmt.If _ _ _ _ :: _) _) _ _ _)); (with_reducible refine wpAny_execs_cons ?_); (try dsimp only))
    | ((fail_if_success (with_reducible show wpAny _ _ (execs (Stmt.If _ _ _ _ :: _) _) _ _ _)); walk1) | ((fail_if_success (with_reducible show wpAny _ _ (execs (Stmt.If _ _ _ _ :: _) _) _ _ _)); dsimp only; walk1) | fail "no step")
  rename News _ _ _ _ => lN
  rename Fr _ _ _ _ => lF
  refine' cut_rgb (s₀ := s) (r := red0 y i q) (g := green0 y i q) (b := blue0 y i q) (lo (red0 y i q)) (green0 y i q) (blue0 y i q) (by assumption) lF lN ⟨⟨_, rfl, Nat.succ_ne_zero _⟩, ⟨_, rfl, Nat.succ_ne_zero _⟩, ⟨_, rfl, Nat.succ_ne_zero _⟩⟩ ?_ ?_
  · intro s1 m1 t1 t2 t3 Q1 S1 F1 N1 e1 e2 e3 z1 z2 z3 hQ1
    repeat' (first
      | (k_unfold; (try dsimp only))
      | ((with_reducible show wpAny _ _ (eval (Expr.Call (Expr.Name _ _) _ [] _) _) _ _ _); refine Call_ ?_)
      | ((with_reducible show wpAny _ _ (execs (_ :: _) _) _ _ _); (with_reducible refine wpAny_execs_cons ?_); (try dsimp only))
      | ((with_reducible show wpAny _ _ (eval (Expr.Name _ _) _) _ _ _); k_dflt (refine' nameX_L ?nmF ?nmv ?_ ?nma ?nmb; (case nmF => k_asm); (case nma => rfl); (case nmb => rfl); (case nmv => first | rfl | assumption); k_whole); walk_say "NAMEH")
      | (walk1) | (dsimp only; walk1) | fail "no step")
    · rw [show lo (red0 y i q) = 0 from if_pos (by assumption)] at hQ1
      exact hQ1 _ _ (by assumption) (by assumption) (by assumption) (by exact ⟨⟨_, rfl, Nat.succ_ne_zero _⟩, ⟨_, e2, z2⟩, ⟨_, e3, z3⟩⟩)
    · rw [show lo (red0 y i q) = red0 y i q from if_neg (by simp [*])] at hQ1
      exact hQ1 _ _ (by assumption) (by assumption) (by assumption) (by exact ⟨⟨_, e1, z1⟩, ⟨_, e2, z2⟩, ⟨_, e3, z3⟩⟩)
  clear lF lN
  intro s2 m2 S F N hm
  refine' cut_rgb (lo (red0 y i q)) (lo (green0 y i q)) (blue0 y i q) S F N hm ?_ ?_
  · intro s1 m1 t1 t2 t3 Q1 S1 F1 N1 e1 e2 e3 z1 z2 z3 hQ1
    repeat' (first
      | (k_unfold; (try dsimp only))
      | ((with_reducible show wpAny _ _ (eval (Expr.Call (Expr.Name _ _) _ [] _) _) _ _ _); refine Call_ ?_)
      | ((with_reducible show wpAny _ _ (execs (_ :: _) _) _ _ _); (with_reducible refine wpAny_execs_cons ?_); (try dsimp only))
      | ((with_reducible show wpAny _ _ (eval (Expr.Name _ _) _) _ _ _); k_dflt (refine' nameX_L ?nmF ?nmv ?_ ?nma ?nmb; (case nmF => k_asm); (case nma => rfl); (case nmb => rfl); (case nmv => first | rfl | assumption); k_whole); walk_say "NAMEH")
      | (walk1) | (dsimp only; walk1) | fail "no step")
    · rw [show lo (green0 y i q) = 0 from if_pos (by assumption)] at hQ1
      exact hQ1 _ _ (by assumption) (by assumption) (by assumption) (by exact ⟨⟨_, e1, z1⟩, ⟨_, rfl, Nat.succ_ne_zero _⟩, ⟨_, e3, z3⟩⟩)
    · rw [show lo (green0 y i q) = green0 y i q from if_neg (by simp [*])] at hQ1
      exact hQ1 _ _ (by assumption) (by assumption) (by assumption) (by exact ⟨⟨_, e1, z1⟩, ⟨_, e2, z2⟩, ⟨_, e3, z3⟩⟩)
  clear S F N hm
  intro s2 m2 S F N hm
  refine' cut_rgb (lo (red0 y i q)) (lo (green0 y i q)) (lo (blue0 y i q)) S F N hm ?_ ?_
  · intro s1 m1 t1 t2 t3 Q1 S1 F1 N1 e1 e2 e3 z1 z2 z3 hQ1
    repeat' (first
      | (k_unfold; (try dsimp only))
      | ((with_reducible show wpAny _ _ (eval (Expr.Call (Expr.Name _ _) _ [] _) _) _ _ _); refine Call_ ?_)
      | ((with_reducible show wpAny _ _ (execs (_ :: _) _) _ _ _); (with_reducible refine wpAny_execs_cons ?_); (try dsimp only))
      | ((with_reducible show wpAny _ _ (eval (Expr.Name _ _) _) _ _ _); k_dflt (refine' nameX_L ?nmF ?nmv ?_ ?nma ?nmb; (case nmF => k_asm); (case nma => rfl); (case nmb => rfl); (case nmv => first | rfl | assumption); k_whole); walk_say "NAMEH")
      | (walk1) | (dsimp only; walk1) | fail "no step")
    · rw [show lo (blue0 y i q) = 0 from if_pos (by assumption)] at hQ1
      exact hQ1 _ _ (by assumption) (by assumption) (by assumption) (by exact ⟨⟨_, e1, z1⟩, ⟨_, e2, z2⟩, ⟨_, rfl, Nat.succ_ne_zero _⟩⟩)
    · rw [show lo (blue0 y i q) = blue0 y i q from if_neg (by simp [*])] at hQ1
      exact hQ1 _ _ (by assumption) (by assumption) (by assumption) (by exact ⟨⟨_, e1, z1⟩, ⟨_, e2, z2⟩, ⟨_, e3, z3⟩⟩)
  clear S F N hm
  intro s2 m2 S F N hm
  refine' cut_rgb (hi (lo (red0 y i q))) (lo (green0 y i q)) (lo (blue0 y i q)) S F N hm ?_ ?_
  · intro s1 m1 t1 t2 t3 Q1 S1 F1 N1 e1 e2 e3 z1 z2 z3 hQ1
    repeat' (first
      | (k_unfold; (try dsimp only))
      | ((with_reducible show wpAny _ _ (eval (Expr.Call (Expr.Name _ _) _ [] _) _) _ _ _); refine Call_ ?_)
      | ((with_reducible show wpAny _ _ (execs (_ :: _) _) _ _ _); (with_reducible refine wpAny_execs_cons ?_); (try dsimp only))
      | ((with_reducible show wpAny _ _ (eval (Expr.Name _ _) _) _ _ _); k_dflt (refine' nameX_L ?nmF ?nmv ?_ ?nma ?nmb; (case nmF => k_asm); (case nma => rfl); (case nmb => rfl); (case nmv => first | rfl | assumption); k_whole); walk_say "NAMEH")
      | (walk1) | (dsimp only; walk1) | fail "no step")
    · rw [show hi (lo (red0 y i q)) = 4607182418800017408 from if_pos (by assumption)] at hQ1
      exact hQ1 _ _ (by assumption) (by assumption) (by assumption) (by exact ⟨⟨_, rfl, Nat.succ_ne_zero _⟩, ⟨_, e2, z2⟩, ⟨_, e3, z3⟩⟩)
    · rw [show hi (lo (red0 y i q)) = lo (red0 y i q) from if_neg (by simp [*])] at hQ1
      exact hQ1 _ _ (by assumption) (by assumption) (by assumption) (by exact ⟨⟨_, e1, z1⟩, ⟨_, e2, z2⟩, ⟨_, e3, z3⟩⟩)
  clear S F N hm
  intro s2 m2 S F N hm
  refine' cut_rgb (hi (lo (red0 y i q))) (hi (lo (green0 y i q))) (lo (blue0 y i q)) S F N hm ?_ ?_
  · intro s1 m1 t1 t2 t3 Q1 S1 F1 N1 e1 e2 e3 z1 z2 z3 hQ1
    repeat' (first
      | (k_unfold; (try dsimp only))
      | ((with_reducible show wpAny _ _ (eval (Expr.Call (Expr.Name _ _) _ [] _) _) _ _ _); refine Call_ ?_)
      | ((with_reducible show wpAny _ _ (execs (_ :: _) _) _ _ _); (with_reducible refine wpAny_execs_cons ?_); (try dsimp only))
      | ((with_reducible show wpAny _ _ (eval (Expr.Name _ _) _) _ _ _); k_dflt (refine' nameX_L ?nmF ?nmv ?_ ?nma ?nmb; (case nmF => k_asm); (case nma => rfl); (case nmb => rfl); (case nmv => first | rfl | assumption); k_whole); walk_say "NAMEH")
      | (walk1) | (dsimp only; walk1) | fail "no step")
    · rw [show hi (lo (green0 y i q)) = 4607182418800017408 from if_pos (by assumption)] at hQ1
      exact hQ1 _ _ (by assumption) (by assumption) (by assumption) (by exact ⟨⟨_, e1, z1⟩, ⟨_, rfl, Nat.succ_ne_zero _⟩, ⟨_, e3, z3⟩⟩)
    · rw [show hi (lo (green0 y i q)) = lo (green0 y i q) from if_neg (by simp [*])] at hQ1
      exact hQ1 _ _ (by assumption) (by assumption) (by assumption) (by exact ⟨⟨_, e1, z1⟩, ⟨_, e2, z2⟩, ⟨_, e3, z3⟩⟩)
  clear S F N hm
  intro s2 m2 S F N hm
  refine' cut_rgb (hi (lo (red0 y i q))) (hi (lo (green0 y i q))) (hi (lo (blue0 y i q))) S F N hm ?_ ?_
  · intro s1 m1 t1 t2 t3 Q1 S1 F1 N1 e1 e2 e3 z1 z2 z3 hQ1
    repeat' (first
      | (k_unfold; (try dsimp only))
      | ((with_reducible show wpAny _ _ (eval (Expr.Call (Expr.Name _ _) _ [] _) _) _ _ _); refine Call_ ?_)
      | ((with_reducible show wpAny _ _ (execs (_ :: _) _) _ _ _); (with_reducible refine wpAny_execs_cons ?_); (try dsimp only))
      | ((with_reducible show wpAny _ _ (eval (Expr.Name _ _) _) _ _ _); k_dflt (refine' nameX_L ?nmF ?nmv ?_ ?nma ?nmb; (case nmF => k_asm); (case nma => rfl); (case nmb => rfl); (case nmv => first | rfl | assumption); k_whole); walk_say "NAMEH")
      | (walk1) | (dsimp only; walk1) | fail "no step")
    · rw [show hi (lo (blue0 y i q)) = 4607182418800017408 from if_pos (by assumption)] at hQ1
      exact hQ1 _ _ (by assumption) (by assumption) (by assumption) (by exact ⟨⟨_, e1, z1⟩, ⟨_, e2, z2⟩, ⟨_, rfl, Nat.succ_ne_zero _⟩⟩)
    · rw [show hi (lo (blue0 y i q)) = lo (blue0 y i q) from if_neg (by simp [*])] at hQ1
      exact hQ1 _ _ (by assumption) (by assumption) (by assumption) (by exact ⟨⟨_, e1, z1⟩, ⟨_, e2, z2⟩, ⟨_, e3, z3⟩⟩)
  clear S F N hm
  intro s2 m2 S F N hm
  obtain ⟨⟨t1, e1, z1⟩, ⟨t2, e2, z2⟩, ⟨t3, e3, z3⟩⟩ := hm
  repeat' (first
    | (k_unfold; (try dsimp only))
    | ((with_reducible show wpAny _ _ (eval (Expr.Call (Expr.Name _ _) _ [] _) _) _ _ _); refine Call_ ?_)
    | ((with_reducible show wpAny _ _ (execs (_ :: _) _) _ _ _); (with_reducible refine wpAny_execs_cons ?_); (try dsimp only))
    | ((with_reducible show wpAny _ _ (eval (Expr.Name _ _) _) _ _ _); k_dflt (refine' nameX_L ?nmF ?nmv ?_ ?nma ?nmb; (case nmF => k_asm); (case nma => rfl); (case nmb => rfl); (case nmv => first | rfl | assumption); k_whole); walk_say "NAMEH")
    | (walk1) | (dsimp only; walk1) | fail "no step")
  exact hQ _ _ _ [_] (by assumption) (by assumption) (by assumption) ⟨_, _, _, _, z1, z2, z3, rfl, rfl⟩
end Mine
set_option maxHeartbeats 4000000
namespace Mine
open PySem.SeqAt
theorem fill12 : True := by
  w_top off
  exact True.intro
theorem ns_none {K : Frag} {h : Heap} {a : Addr} {mg : Str → Option Value} {n : Str} (X : K.In h) (G : h.Ns a mg) (e : nsIn K a n = some none) : mg n = none := by
  obtain ⟨o, es, ep, ho, hd, _, hf⟩ := G
  unfold nsIn at e
  split at e
  · rename_i q
    have := X _ _ q
    rw [ho] at this
    cases this
    cases hd
    split at e
    · cases e
    · rename_i he
      rw [← hf]
      unfold nsFind findBy
      rw [← Array.find?_toList, he]
      rfl
  · cases e
theorem booked {w : World} {g h : Heap} {L : Addr} {m : Str → Option Value} (G : Gnd w g) (F : Fr g L h m) : NoneBooked h := by
  obtain ⟨X, loose, mean, mg, mb, T⟩ := G
  obtain ⟨mc, hm, _⟩ := T.nodigits
  exact ⟨mc, hm.keeps F.keep, ns_none (K := KK w.params) X hm (by k_is)⟩
theorem same_created {M : Model} {A : Around} {E : Value → Shared → Prop} {s : Shared} {u v : Tok} {c : Bool} {Q : Bool → Shared → Prop}
    (h0 : (u == 0 || v == 0) = false) (hb : NoneBooked s.heap) (hq : ∀ b, Q b s) : wpAny M A (isSame.created c u v) Q E s := by
  unfold isSame.created
  refine wpAny_ite ?_
  split
  · rename_i h; rw [h0] at h; exact absurd h Bool.false_ne_true
  refine wpAny_ite ?_
  split
  · exact wpAny_pure (hq _)
  refine wpAny_ite ?_
  split
  · exact wpAny_pure (hq _)
  refine wpAny_bind (wpAny_sharingNotTold_none hb ?_)
  first | rw [if_neg Bool.false_ne_true] | simp only [Bool.false_eq_true, if_false]
  refine wpAny_bind (wpAny_sharingNotTold_none hb ?_)
  first | rw [if_neg Bool.false_ne_true] | simp only [Bool.false_eq_true, if_false]
  exact wpAny_bind (wpAny_rule (wpAny_bind (wpAny_askSetting (wpAny_pure (hq _)))))
/-- two floats of one value, made at two places -/
theorem eqAt_float {A : Around} {s : Shared} {x : UInt64} {t u : Tok} (ht : t ≠ 0) (hu : u ≠ 0) (hb : NoneBooked s.heap) (hx : (Float64.cmp x x == some Ordering.eq) = true) : EqAt A s (.float x t) (.float x u) true := by
  intro prog w E Q h
  unfold eqBool
  show wpAny _ _ (if (Value.float x t == Value.float x u) = true then _ else _) Q E s
  by_cases hab : (Value.float x t == Value.float x u) = true
  · rw [if_pos hab]
    exact wpAny_bind (wpAny_rule (wpAny_pure h))
  · rw [if_neg hab]
    refine wpAny_bind (m := isSame (.float x t) (.float x u)) (same_created (c := x == x && !Float64.isNaN x) (by simp [ht, hu]) hb fun b => ?_)
    cases b with
    | true => exact wpAny_pure h
    | false =>
      refine wpAny_bind (wpAny_mono (AutoFloatOps.eq_0 (Q := fun v s' => v = .bool true ∧ s' = s) (by rw [hx]; exact ⟨rfl, rfl⟩)) (fun v s' h' => ?_) fun _ _ e => e)
      obtain ⟨rfl, rfl⟩ := h'
      exact wpAny_truthy_bool h
/-- two triples of the same floats: t != u is False -/
theorem ne_floats {prog : Program} {w : World} {A : Around} {E : Value → Shared → Prop} {s : Shared} {h₀ : Heap} {L : Addr} {news : List (Addr × Obj)} {a b : Addr} {x y z : UInt64} {t0 t1 t2 u0 u1 u2 : Tok} {Q : Value → Shared → Prop} (N : News h₀ L s.heap news)
    (qa : (a, tupO [.float x t0, .float y t1, .float z t2]) ∈ news) (qb : (b, tupO [.float x u0, .float y u1, .float z u2]) ∈ news) (ht : t0 ≠ 0 ∧ t1 ≠ 0 ∧ t2 ≠ 0) (hu' : u0 ≠ 0 ∧ u1 ≠ 0 ∧ u2 ≠ 0) (hb : NoneBooked s.heap)
    (hx : (Float64.cmp x x == some Ordering.eq) = true) (hy : (Float64.cmp y y == some Ordering.eq) = true) (hz : (Float64.cmp z z == some Ordering.eq) = true) (hu : A.units + 64 < cLine) (h : Q (.bool false) s) :
    wpAny (model prog w) A (compareOp .NotEq (.ref a) (.ref b)) Q E s := by
  refine RcNeAt.tuples (items := #[.float x t0, .float y t1, .float z t2]) (items2 := #[.float x u0, .float y u1, .float z u2]) (e := fun _ => true) ⟨_, N.get qa, rfl, _, rfl⟩ ⟨_, N.get qb, rfl, _, rfl⟩ (by omega) (fun j h1 h2 => ?_) prog w E Q (by exact h)
  have hj : j = 0 ∨ j = 1 ∨ j = 2 := by simp at h1; omega
  obtain rfl | rfl | rfl := hj
  · exact eqAt_float ht.1 hu'.1 hb hx
  · exact eqAt_float ht.2.1 hu'.2.1 hb hy
  · exact eqAt_float ht.2.2 hu'.2.2 hb hz
end Mine
set_option maxHeartbeats 4000000
namespace Mine
section
variable {w : World} {A : Around} {E : Value → Shared → Prop} {env : Env} {h₀ : Heap} {m₀ : Str → Option Value} {news : List (Addr × Obj)} {s₀ s : Shared} {x : Str} {body : List Stmt} {Q : Flow → Shared → Prop}
/-- a loop over a list that it leaves alone: the ledger may grow, the body may return -/
theorem listG {l : Addr} {vs : List Value} (R : Nat → (Str → Option Value) → List (Addr × Obj) → Prop) (hh : A.handled = none) (hl' : s.heap.IsList l vs.toArray) (hlL : l ≠ env.locals) (S : Same s₀ s) (F : Fr h₀ env.locals s.heap m₀) (N : News h₀ env.locals s.heap news) (hR : R 0 m₀ news)
    (turn : ∀ i v m₁ nx s₁ own, vs[i]? = some v → (∀ p ∈ own, p.1 = l ∨ ∀ q ∈ nx, p.1 ≠ q.1) → Same s₀ s₁ → R i m₁ nx → Fr h₀ env.locals s₁.heap (fun z => if z = x then some v else m₁ z) → News h₀ env.locals s₁.heap (nx ++ own) →
      ∀ Q' : Flow → Shared → Prop, (∀ s₂ m' nx', Same s₀ s₂ → Fr h₀ env.locals s₂.heap m' → News h₀ env.locals s₂.heap (nx' ++ own) → (∀ p ∈ nx', p.1 ∈ nx.map (·.1) ∨ p.2.cls ≠ .type "list_iterator") → R (i + 1) m' nx' → Q' .next s₂) →
      (∀ v s₂, Q (.ret v) s₂ → Q' (.ret v) s₂) → wpAny (model Prg w) A (execs body env) Q' E s₁)
    (done : ∀ m₁ nx s₂, Same s₀ s₂ → R vs.length m₁ nx → Fr h₀ env.locals s₂.heap m₁ → News h₀ env.locals s₂.heap nx → Q .next s₂) :
    wpAny (model Prg w) A (pyIter (.ref l)) (fun it s₂ => LoopAtV Prg w A h₀ env x body Q E it s₂) E s := by
  have hlt : l < s.heap.objs.size := by
    obtain ⟨o, ho, r⟩ := hl'
    exact Heap.lt_size ho
  refine wpAny_pyIter_list hl' ?_
  refine ⟨s.heap.objs.size, [s.heap.objs.size, l], [s.heap.objs.size], vs.toArray.size, _, _, m₀, news, R, rfl, Walks.list hh _ l (Nat.ne_of_lt hlt) vs.toArray, ?_, ?_, ?_, ?_, F.push _, fun p hp => ⟨Heap.get?_push_of_some _ (N p hp).1, (N p hp).2⟩, hR, ?_, ?_⟩
  · intro hm
    rcases List.mem_cons.mp hm with e | hm
    · exact Nat.ne_of_lt F.ns.lt e
    · exact hlL (List.mem_singleton.mp hm).symm
  · intro b hb
    rw [List.mem_singleton.mp hb]
    exact next_is_new F
  · intro p hp hI
    exact absurd (Heap.lt_size (N p hp).1) ((List.mem_singleton.mp hI) ▸ Nat.lt_irrefl _)
  · refine ⟨⟨_, Heap.get?_push_size _ rfl, rfl, rfl⟩, ?_⟩
    obtain ⟨o, ho, r⟩ := hl'
    exact ⟨o, Heap.get?_push_of_some _ ho, r⟩
  · rintro i v m₁ nx s₁ own ⟨hh', tk', rfl⟩ hin hP hJ hoff hown _ hall hst F₁ N₁
    obtain ⟨⟨oI, hoI, hcI, _⟩, _⟩ := hst
    have hmem : (s.heap.objs.size, oI) ∈ own := hall _ (.head _) (next_is_new F) _ hoI
    have hapart : ∀ p ∈ own, p.1 = l ∨ ∀ q ∈ nx, p.1 ≠ q.1 := fun p hp => by
      rcases List.mem_cons.mp (hown p hp) with e | e
      · exact .inr fun q hq e' => hoff q hq (by rw [← e', e]; exact .head _)
      · exact .inl (List.mem_singleton.mp e)
    have S₁ : Same s₀ { s with heap := hh', toks := tk' } := S
    have N₂ : News h₀ env.locals hh' (nx ++ own) := fun p hp => N₁ p ((List.mem_append.mp hp).elim (fun h => List.mem_append.mpr (.inr h)) fun h => List.mem_append.mpr (.inl h))
    refine turn i v m₁ nx _ own (by rw [← List.getElem?_toArray]; exact hP) hapart S₁ hJ F₁ N₂ _ (fun s₂ m' nx' S₂ F₂ N₃ hcl hR' => ?_) fun v s₂ h => .ret h
    refine .next ⟨rfl, s₂.heap, s₂.toks, m', nx', ?_, F₂, fun p hp => N₃ p ((List.mem_append.mp hp).elim (fun h => List.mem_append.mpr (.inr h)) fun h => List.mem_append.mpr (.inl h)), fun p hp hI => ?_, hR'⟩
    · have e := S₂.is
      obtain ⟨q1, q2, q3⟩ := S₁
      rw [← q1, ← q2, ← q3] at e
      exact e
    · have hI := List.mem_singleton.mp hI
      rcases hcl p hp with h1 | h1
      · obtain ⟨q, hq1, hq2⟩ := List.mem_map.mp h1
        exact hoff q hq1 (by rw [hq2, hI]; exact .head _)
      · have h2 := (N₃ p (List.mem_append_left _ hp)).1
        rw [hI, (N₃ _ (List.mem_append_right _ hmem)).1] at h2
        exact h1 (by rw [← Option.some.inj h2]; exact hcI)
  · intro h' tk m' news' F' N' _ hJ
    exact done m' news' _ S (by simpa using hJ) F' N'
end
end Mine
set_option maxHeartbeats 4000000
namespace Mine
theorem fill13 : True := by
  w_top off
  exact True.intro
local macro_rules | `(tactic| k_mem) => `(tactic| ((repeat (first | assumption | exact List.Mem.head _ | apply List.Mem.tail)); done))
theorem truth_c (w : World) (news : List (Addr × Obj)) (x : UInt64) (t : Tok) : Con w 1 35 [.float x t] news (fun tl r => tl = [] ∧ r = .bool (!Float64.isZero x)) := by
  refine' Con.of (binds := [(Str.ofString "a", .float x t)]) ?ho ?hbd ?hsc ?hcd ?hb ?hl ?hco ?hg ?hk ?hc ?hbody
  case' ho => k_is
  case' hbd => (conv => rhs; whnf)
  case' hsc => (conv => rhs; whnf)
  case' hcd => k_is
  case' hb => exact rfl
  case' hl => exact locs rfl
  case' hco => exact rfl
  case' hg => exact rfl
  case' hk => exact rfl
  case' hc => decide
  intro A g L s H hh S F N G ht Q hQ
  have X := G.x
  obtain ⟨loose, mean, mg, mb, T⟩ := G.t
  (try dsimp only)
  repeat' (first
    | (k_unfold; (try dsimp only))
    | ((with_reducible show wpAny _ _ (eval (Expr.Call (Expr.Name _ _) _ [] _) _) _ _ _); refine Call_ ?_)
    | (walk1) | (dsimp only; walk1) | fail "no step")
  · exact hQ _ _ _ [] (by assumption) (by assumption) (by assumption) ⟨rfl, by simp [*]⟩
  · exact hQ _ _ _ [] (by assumption) (by assumption) (by assumption) ⟨rfl, by simp [*]⟩
theorem addb_c (w : World) (news : List (Addr × Obj)) (a : Int) (b : Bool) (t : Tok) : Con w 1 42 [.int a t, .bool b] news (fun tl r => tl = [] ∧ ∃ t, r = .int (a + if b then 1 else 0) t) := by
  refine' Con.of (binds := [(Str.ofString "a", .int a t), (Str.ofString "b", .bool b)]) ?ho ?hbd ?hsc ?hcd ?hb ?hl ?hco ?hg ?hk ?hc ?hbody
  case' ho => k_is
  case' hbd => (conv => rhs; whnf)
  case' hsc => (conv => rhs; whnf)
  case' hcd => k_is
  case' hb => exact rfl
  case' hl => exact locs rfl
  case' hco => exact rfl
  case' hg => exact rfl
  case' hk => exact rfl
  case' hc => decide
  intro A g L s H hh S F N G ht Q hQ
  have X := G.x
  obtain ⟨loose, mean, mg, mb, T⟩ := G.t
  (try dsimp only)
  repeat' (first
    | (k_unfold; (try dsimp only))
    | ((with_reducible show wpAny _ _ (eval (Expr.Call (Expr.Name _ _) _ [] _) _) _ _ _); refine Call_ ?_)
    | (walk1) | (dsimp only; walk1) | fail "no step")
  exact hQ _ _ _ [] (by assumption) (by assumption) (by assumption) ⟨rfl, _, rfl⟩
/-- what one turn of _law_seen's loop makes of the kinds seen -/
def seeK (mask : Int) (c : Int) (k : Int) : Int := if Builtin.bitAnd (mask.fdiv (2 ^ k.toNat)) 1 = 0 then c else Builtin.bitOr c (2 ^ k.toNat)
def yF (a : Int) : UInt64 := Float64.ofFrac (decide (a < 0) != decide ((8 : Int) < 0)) a.natAbs (8 : Int).natAbs
theorem div8 {prog : Program} {w : World} {A : Around} {E : Value → Shared → Prop} {s : Shared} {a : Int} {t u : Tok} {Q : Value → Shared → Prop} (hi : ¬Float64.isInf (yF a) = true) (h : Q (.float (yF a) s.toks) { s with toks := s.toks + 1 }) : wpAny (model prog w) A (binaryOp .Div (.int a t) (.int 8 u)) Q E s :=
  AutoIntOps.truediv_2 (by decide) hi h
abbrev oneF : UInt64 := 4607182418800017408
def firstK (k sz : Int) : Int := if k > 1 then sz else -sz
def secondK (k sz : Int) : Int := if k.fmod 2 = 1 then sz else -sz
def redK (k : Int) : UInt64 := Float64.mul (Float64.ofInt (k.fdiv 2)) oneF
def greenK (k : Int) : UInt64 := Float64.sub oneF (Float64.ofInt (k.fmod 2))
def blueK (k : Int) : UInt64 := Float64.mul (Float64.ofInt (k.fmod 2)) oneF
def LightsAre (k sz c : Int) : Prop :=
  hi (lo (red0 (yF c) (firstK k sz) (secondK k sz))) = redK k ∧ hi (lo (green0 (yF c) (firstK k sz) (secondK k sz))) = greenK k ∧ hi (lo (blue0 (yF c) (firstK k sz) (secondK k sz))) = blueK k
theorem lights_fin : ∀ (k : Fin 4) (z : Fin 5) (c : Fin 8), hi (lo (red0 (yF c.val) (firstK k.val (4 + (z.val : Int))) (secondK k.val (4 + (z.val : Int))))) = redK k.val ∧ hi (lo (green0 (yF c.val) (firstK k.val (4 + (z.val : Int))) (secondK k.val (4 + (z.val : Int))))) = greenK k.val ∧ hi (lo (blue0 (yF c.val) (firstK k.val (4 + (z.val : Int))) (secondK k.val (4 + (z.val : Int))))) = blueK k.val := by decide +kernel
theorem kinds_fin : ∀ k : Fin 4, (Float64.cmp (redK k.val) (redK k.val) == some Ordering.eq) = true ∧ (Float64.cmp (greenK k.val) (greenK k.val) == some Ordering.eq) = true ∧ (Float64.cmp (blueK k.val) (blueK k.val) == some Ordering.eq) = true ∧
    2 * (if (!Float64.isZero (redK k.val)) = true then (1 : Int) else 0) + (if (!Float64.isZero (blueK k.val)) = true then (1 : Int) else 0) = k.val := by decide +kernel
theorem inf_fin : ∀ c : Fin 8, ¬Float64.isInf (yF c.val) = true := by decide +kernel
theorem fin_of {n : Int} {m : Nat} (h0 : 0 ≤ n) (h1 : n < m) : ∃ c : Fin m, n = c.val := ⟨⟨n.toNat, by omega⟩, (Int.toNat_of_nonneg h0).symm⟩
theorem fmod_fin (n : Int) {m : Nat} (hm : 0 < m) : ∃ c : Fin m, n.fmod m = c.val :=
  fin_of (by rw [Int.fmod_eq_emod_of_nonneg _ (Int.natCast_nonneg m)]; exact Int.emod_nonneg _ (by omega)) (by rw [Int.fmod_eq_emod_of_nonneg _ (Int.natCast_nonneg m)]; exact Int.emod_lt_of_pos _ (by omega))
theorem lights {k n : Int} (h0 : 0 ≤ k) (h1 : k < 4) : LightsAre k (4 + (n.fdiv 2048).fmod 5) ((n.fdiv 256).fmod 8) := by
  obtain ⟨c, hc⟩ := fmod_fin (n.fdiv 256) (m := 8) (by decide)
  obtain ⟨z, hz⟩ := fmod_fin (n.fdiv 2048) (m := 5) (by decide)
  obtain ⟨i, rfl⟩ := fin_of (m := 4) h0 h1
  rw [show (n.fdiv 256).fmod 8 = c.val from hc, show (n.fdiv 2048).fmod 5 = z.val from hz]
  exact lights_fin i z c
theorem firstK_le {k sz : Int} (h0 : 4 ≤ sz) (h1 : sz ≤ 8) : (-8 ≤ firstK k sz ∧ firstK k sz ≤ 8) ∧ -8 ≤ secondK k sz ∧ secondK k sz ≤ 8 := by
  unfold firstK secondK
  constructor <;> split <;> omega
/-- the chromas of a kind make the lights of that kind -/
theorem kind_c (w : World) (k n sz : Int) (hsz : sz = 4 + (n.fdiv 2048).fmod 5) (h0 : 0 ≤ k) (h1 : k < 4) (news : List (Addr × Obj)) (ty ti tq : Tok) : Con w 1 21 [.float (yF ((n.fdiv 256).fmod 8)) ty, .int (firstK k sz) ti, .int (secondK k sz) tq] news (fun tl v => ∃ a t1 t2 t3, t1 ≠ 0 ∧ t2 ≠ 0 ∧ t3 ≠ 0 ∧ tl = [(a, tupO [.float (redK k) t1, .float (greenK k) t2, .float (blueK k) t3])] ∧ v = .ref a) := by
  obtain ⟨z, hz⟩ := fmod_fin (n.fdiv 2048) (m := 5) (by decide)
  have hz' : (n.fdiv 2048).fmod 5 = z.val := hz
  have hb := firstK_le (k := k) (sz := sz) (by omega) (by omega)
  have hL := lights (n := n) h0 h1
  rw [← hsz] at hL
  have := yiq_c w news (yF ((n.fdiv 256).fmod 8)) (firstK k sz) (secondK k sz) ty ti tq hb.1.1 hb.1.2 hb.2.1 hb.2.2
  rw [hL.1, hL.2.1, hL.2.2] at this
  exact this
/-- the bit of a kind -/
theorem bit_c (w : World) (k : Int) (h0 : 0 ≤ k) (h1 : k < 4) (news : List (Addr × Obj)) (t u : Tok) : Con w 1 63 [.int 1 t, .int (2 * (if (!Float64.isZero (redK k)) = true then (1 : Int) else 0) + (if (!Float64.isZero (blueK k)) = true then (1 : Int) else 0)) u] news (fun tl r => tl = [] ∧ ∃ t, r = .int (2 ^ k.toNat) t) := by
  obtain ⟨i, rfl⟩ := fin_of (m := 4) h0 h1
  rw [(kinds_fin i).2.2.2]
  exact lshift_c w news _ t u h0 (by omega)
theorem see_all : ∀ m : Fin 16, (rangeKs 0 4).foldl (seeK (m.val : Int)) 0 = (m.val : Int) := by decide +kernel
def SeeR (mask n sz : Int) (tm tn : Tok) (news : List (Addr × Obj)) (c : Int) (m : Str → Option Value) (nx : List (Addr × Obj)) : Prop :=
  nx = news ∧ m (Str.ofString "mask") = some (.int mask tm) ∧ m (Str.ofString "n") = some (.int n tn) ∧ (∃ t, m (Str.ofString "size") = some (.int sz t)) ∧ ∃ t, m (Str.ofString "seen") = some (.int c t)
theorem fits_half {k : Int} (h0 : 0 ≤ k) (h1 : k < 4) : (k.fdiv 2).natAbs < 2 ^ 1023 := by
  obtain ⟨i, rfl⟩ := fin_of (m := 4) h0 h1
  revert i
  decide +kernel
theorem fits_odd (k : Int) : (k.fmod 2).natAbs < 2 ^ 1023 := by
  obtain ⟨i, h⟩ := fmod_fin k (m := 2) (by decide)
  rw [show k.fmod 2 = i.val from h]
  exact Nat.lt_of_lt_of_le i.isLt (Nat.le_self_pow (by decide) 2)
theorem kinds_ne {prog : Program} {w : World} {A : Around} {E : Value → Shared → Prop} {s : Shared} {h₀ : Heap} {L : Addr} {news : List (Addr × Obj)} {a b : Addr} {k : Int} {t0 t1 t2 u0 u1 u2 : Tok} {Q : Value → Shared → Prop} (h0 : 0 ≤ k) (h1 : k < 4) (N : News h₀ L s.heap news)
    (qa : (a, tupO [.float (redK k) t0, .float (greenK k) t1, .float (blueK k) t2]) ∈ news) (qb : (b, tupO [.float (redK k) u0, .float (greenK k) u1, .float (blueK k) u2]) ∈ news) (ht : t0 ≠ 0 ∧ t1 ≠ 0 ∧ t2 ≠ 0) (hu' : u0 ≠ 0 ∧ u1 ≠ 0 ∧ u2 ≠ 0) (hb : NoneBooked s.heap)
    (hu : A.units + 64 < cLine) (h : Q (.bool false) s) : wpAny (model prog w) A (compareOp .NotEq (.ref a) (.ref b)) Q E s := by
  obtain ⟨i, rfl⟩ := fin_of (m := 4) h0 h1
  exact ne_floats N qa qb ht hu' hb (kinds_fin i).1 (kinds_fin i).2.1 (kinds_fin i).2.2.1 hu h
theorem seen_c (w : World) (news : List (Addr × Obj)) (mask n : Int) (tm tn : Tok) (h0 : 0 ≤ mask) (h1 : mask < 16) : Con w 2 132 [.int mask tm, .int n tn] news (fun tl r => tl = [] ∧ ∃ t, r = .int mask t) := by
  obtain ⟨sz, hsz⟩ : ∃ sz, sz = 4 + (n.fdiv 2048).fmod 5 := ⟨_, rfl⟩
  refine' Con.of (binds := [(Str.ofString "mask", .int mask tm), (Str.ofString "n", .int n tn)]) ?ho ?hbd ?hsc ?hcd ?hb ?hl ?hco ?hg ?hk ?hc ?hbody
  case' ho => k_is
  case' hbd => (conv => rhs; whnf)
  case' hsc => (conv => rhs; whnf)
  case' hcd => k_is
  case' hb => exact rfl
  case' hl => exact locs rfl
  case' hco => exact rfl
  case' hg => exact rfl
  case' hk => exact rfl
  case' hc => decide
  intro A g L s H hh S F N G ht Q hQ
  have X := G.x
  obtain ⟨loose, mean, mg, mb, T⟩ := G.t
  (try dsimp only)
  repeat' (first
    | (k_unfold; (try dsimp only))
    | ((with_reducible show wpAny _ _ (eval (Expr.Call (Expr.Name _ _) _ [] _) _) _ _ _); refine Call_ ?_)
    | ((fail_if_success (with_reducible show wpAny _ _ (pyIter _) _ _ _)); walk1) | ((fail_if_success (with_reducible show wpAny _ _ (pyIter _) _ _ _)); dsimp only; walk1) | fail "no step")
  rename News _ _ _ _ => lN
  rename Fr _ _ _ _ => lF
  rename IsRange _ _ _ _ _ _ _ _ => rgX
  refine' rangeL (s₀ := s) (n := 4) (SeeR mask n sz tm tn news) (seeK mask) 0 hh rgX (by decide) (by rfl) (by assumption) lF lN ⟨rfl, rfl, rfl, ⟨_, by rw [hsz]; rfl⟩, ⟨_, rfl⟩⟩ ?_ ?_
  · clear lN lF rgX
    intro k tk c m1 nx s1 own hk0 hk1 hoff S1 hR F1 N1 Q1 hQ1
    obtain ⟨hnx, eM, eN, ⟨t3, eS⟩, ⟨t4, eC⟩⟩ := hR
    rw [hnx] at N1
    repeat' (first
      | (k_unfold; (try dsimp only))
      | ((with_reducible show wpAny _ _ (eval (Expr.Call (Expr.Name _ _) _ [] _) _) _ _ _); refine Call_ ?_)
      | ((with_reducible show wpAny _ _ (eval (Expr.Name _ _) _) _ _ _); k_dflt (refine' nameX_L ?nmF ?nmv ?_ ?nma ?nmb; (case nmF => k_asm); (case nma => rfl); (case nmb => rfl); (case nmv => first | rfl | assumption); k_whole); walk_say "NAMEH")
      | ((fail_if_success (with_reducible show wpAny _ _ (execs (Stmt.Assign _ (Expr.IfExp _ _ _ _) _ :: _) _) _ _ _)); walk1) | ((fail_if_success (with_reducible show wpAny _ _ (execs (Stmt.Assign _ (Expr.IfExp _ _ _ _) _ :: _) _) _ _ _)); dsimp only; walk1) | fail "no step")
    · rename News _ _ _ _ => lN
      rename Fr _ _ _ _ => lF
      refine' cut_put (s₀ := s) (Str.ofString "first") (fun t => .int (firstK k sz) t) (by assumption) lF lN ?_ ?_
      · clear lN lF
        intro s1 Q' S1 F1 N1 hQ'
        repeat' (first
          | (k_unfold; (try dsimp only))
          | ((with_reducible show wpAny _ _ (eval (Expr.Call (Expr.Name _ _) _ [] _) _) _ _ _); refine Call_ ?_)
          | ((with_reducible show wpAny _ _ (eval (Expr.Name _ _) _) _ _ _); k_dflt (refine' nameX_L ?nmF ?nmv ?_ ?nma ?nmb; (case nmF => k_asm); (case nma => rfl); (case nmb => rfl); (case nmv => first | rfl | assumption); k_whole); walk_say "NAMEH")
          | (walk1) | (dsimp only; walk1) | fail "no step")
        · rw [show firstK k sz = _ from if_pos (by assumption)] at hQ'
          exact hQ' _ _ (by assumption) (by assumption) (by assumption)
        · rw [show firstK k sz = _ from if_neg (by assumption)] at hQ'
          exact hQ' _ _ (by assumption) (by assumption) (by assumption)
      clear lN lF
      intro s5 t5 S5 lF lN
      refine' cut_put (s₀ := s) (Str.ofString "second") (fun t => .int (secondK k sz) t) (by assumption) lF lN ?_ ?_
      · clear lN lF
        intro s1 Q' S1 F1 N1 hQ'
        repeat' (first
          | (k_unfold; (try dsimp only))
          | ((with_reducible show wpAny _ _ (eval (Expr.Call (Expr.Name _ _) _ [] _) _) _ _ _); refine Call_ ?_)
          | ((with_reducible show wpAny _ _ (eval (Expr.Name _ _) _) _ _ _); k_dflt (refine' nameX_L ?nmF ?nmv ?_ ?nma ?nmb; (case nmF => k_asm); (case nma => rfl); (case nmb => rfl); (case nmv => first | rfl | assumption); k_whole); walk_say "NAMEH")
          | (walk1) | (dsimp only; walk1) | fail "no step")
        · rw [show secondK k sz = _ from if_pos (by assumption)] at hQ'
          exact hQ' _ _ (by assumption) (by assumption) (by assumption)
        · rw [show secondK k sz = _ from if_neg (by assumption)] at hQ'
          exact hQ' _ _ (by assumption) (by assumption) (by assumption)
      clear lN lF S5
      intro s5 t5 S5 F5 N5
      have hinf : ¬Float64.isInf (yF ((n.fdiv 256).fmod 8)) = true := by
        obtain ⟨c, hc⟩ := fmod_fin (n.fdiv 256) (m := 8) (by decide)
        rw [show (n.fdiv 256).fmod 8 = c.val from hc]
        exact inf_fin c
      have hfd : (k.fdiv 2).natAbs < 2 ^ 1023 := fits_half hk0 hk1
      have hfm : (k.fmod 2).natAbs < 2 ^ 1023 := fits_odd k
      repeat' (first
        | (k_unfold; (try dsimp only))
        | ((with_reducible show wpAny _ _ (eval (Expr.Call (Expr.Name _ _) _ [] _) _) _ _ _); refine Call_ ?_)
        | ((with_reducible show wpAny _ _ (execs (_ :: _) _) _ _ _); (with_reducible refine wpAny_execs_cons ?_); (try dsimp only))
        | ((with_reducible show wpAny _ _ (eval (Expr.Name _ _) _) _ _ _); k_dflt (refine' nameX_L ?nmF ?nmv ?_ ?nma ?nmb; (case nmF => k_asm); (case nma => rfl); (case nmb => rfl); (case nmv => first | rfl | assumption); k_whole); walk_say "NAMEH")
        | ((with_reducible show wpAny _ _ (binaryOp Operator.Div (Value.int _ _) (Value.int 8 _)) _ _ _); refine div8 hinf ?_; (try dsimp only); walk_say "DIV8")
        | ((with_reducible show wpAny _ _ (assign (Expr.Tuple _ _ _) _ (Value.ref _)) _ _ _); k_dflt (refine' unpackN_ ?F ?N ?T ?k1 ?k2 ?k3 ?_; (case F => k_asm); (case N => k_asm); (case T => exact News.isTup (by k_asm) (by k_mem)); (case k1 => assumption); (case k2 => exact rfl); (case k3 => exact rfl)); intro h' F' N'; (try k_sweep); walk_say "UNPACK")
        | ((with_reducible show wpAny _ _ (binaryOp Operator.Mult (Value.int _ _) (Value.float _ _)) _ _ _); refine mul_if_fits (by assumption) ?_; (try dsimp only))
        | ((with_reducible show wpAny _ _ (binaryOp Operator.Sub (Value.float _ _) (Value.int _ _)) _ _ _); refine sub_fi_fits (by assumption) ?_; (try dsimp only))
        | ((with_reducible show wpAny _ _ (compareOp CmpOp.NotEq (Value.ref _) (Value.ref _)) _ _ _); k_dflt (refine' kinds_ne hk0 hk1 ?zN ?zA ?zB ?zt ?zu ?zb ?zU ?_; (case zN => k_asm); (case zA => k_mem); (case zB => k_mem); (case zt => exact ⟨by assumption, by assumption, by assumption⟩); (case zu => exact ⟨Nat.succ_ne_zero _, Nat.succ_ne_zero _, Nat.succ_ne_zero _⟩); (case zb => exact booked G (by k_asm)); (case zU => exact Here.units (by assumption))); walk_say "NE")
        | ((with_reducible show wpAny _ _ (call (Value.ref 21) _ _) _ _ _); k_dflt (refine' Con.use (kind_c _ _ _ _ hsz hk0 (by first | assumption | omega) _ _ _ _) ?k1 ?k2 ?k0 ?k3 ?k4 ?k5 ?_; (case k1 => assumption); (case k2 => decide); (case k3 => k_asm); (case k4 => k_asm); (case k5 => assumption); (case k0 => assumption); intro r9 tl9 s9 S9 F9 N9 hR9; (obtain ⟨a9, t1, t2, t3, z1, z2, z3, e8, e9⟩ := hR9); subst e8; subst e9; (rw [List.singleton_append] at N9); (try dsimp only)); walk_say "CALL kind_c")
        | ((with_reducible show wpAny _ _ (call (Value.ref 35) _ _) _ _ _); k_dflt (refine' Con.use (truth_c _ _ _ _) ?k1 ?k2 ?k0 ?k3 ?k4 ?k5 ?_; (case k1 => assumption); (case k2 => decide); (case k3 => k_asm); (case k4 => k_asm); (case k5 => assumption); (case k0 => assumption); intro r9 tl9 s9 S9 F9 N9 hR9; (obtain ⟨e8, e9⟩ := hR9); subst e8; subst e9; (rw [List.nil_append] at N9); (try dsimp only)); walk_say "CALL truth_c")
        | ((with_reducible show wpAny _ _ (call (Value.ref 42) _ _) _ _ _); k_dflt (refine' Con.use (addb_c _ _ _ _ _) ?k1 ?k2 ?k0 ?k3 ?k4 ?k5 ?_; (case k1 => assumption); (case k2 => decide); (case k3 => k_asm); (case k4 => k_asm); (case k5 => assumption); (case k0 => assumption); intro r9 tl9 s9 S9 F9 N9 hR9; (obtain ⟨e8, t9, e9⟩ := hR9); subst e8; subst e9; (rw [List.nil_append] at N9); (try dsimp only)); walk_say "CALL addb_c")
        | ((with_reducible show wpAny _ _ (call (Value.ref 63) _ _) _ _ _); k_dflt (refine' Con.use (bit_c _ _ hk0 (by first | assumption | omega) _ _ _) ?k1 ?k2 ?k0 ?k3 ?k4 ?k5 ?_; (case k1 => assumption); (case k2 => decide); (case k3 => k_asm); (case k4 => k_asm); (case k5 => assumption); (case k0 => assumption); intro r9 tl9 s9 S9 F9 N9 hR9; (obtain ⟨e8, t9, e9⟩ := hR9); subst e8; subst e9; (rw [List.nil_append] at N9); (try dsimp only)); walk_say "CALL bit_c")
        | ((with_reducible show wpAny _ _ (call (Value.ref 70) _ _) _ _ _); k_dflt (refine' Con.use (or_c _ _ _ _ _ _) ?k1 ?k2 ?k0 ?k3 ?k4 ?k5 ?_; (case k1 => assumption); (case k2 => decide); (case k3 => k_asm); (case k4 => k_asm); (case k5 => assumption); (case k0 => assumption); intro r9 tl9 s9 S9 F9 N9 hR9; (obtain ⟨e8, t9, e9⟩ := hR9); subst e8; subst e9; (rw [List.nil_append] at N9); (try dsimp only)); walk_say "CALL or_c")
        | (walk1) | (dsimp only; walk1) | fail "no step")
      rename News _ _ _ _ => lN
      refine hQ1 _ _ news (by assumption) (by assumption) (fun p hp => lN p (by repeat (first | exact hp | apply List.Mem.tail))) rfl ?_
      rw [show seeK mask c k = _ from if_neg (by assumption)]
      exact ⟨rfl, eM, eN, ⟨_, eS⟩, _, rfl⟩
    · refine hQ1 _ _ news (by assumption) (by assumption) (by assumption) rfl ?_
      rw [show seeK mask c k = _ from if_pos (by assumption)]
      exact ⟨rfl, eM, eN, ⟨_, eS⟩, _, eC⟩
  · clear lN lF rgX
    intro m2 nx2 s2 S2 hR F2 N2
    obtain ⟨i, hi⟩ := fin_of (m := 16) h0 h1
    rw [show (rangeKs 0 4).foldl (seeK mask) 0 = mask by rw [hi]; exact see_all i] at hR
    obtain ⟨hnx, eM, eN, ⟨t3, eS⟩, ⟨t4, eC⟩⟩ := hR
    rw [hnx] at N2
    repeat' (first
      | (k_unfold; (try dsimp only))
      | ((with_reducible show wpAny _ _ (eval (Expr.Call (Expr.Name _ _) _ [] _) _) _ _ _); refine Call_ ?_)
      | ((with_reducible show wpAny _ _ (eval (Expr.Name _ _) _) _ _ _); k_dflt (refine' nameX_L ?nmF ?nmv ?_ ?nma ?nmb; (case nmF => k_asm); (case nma => rfl); (case nmb => rfl); (case nmv => first | rfl | assumption); k_whole); walk_say "NAMEH")
      | (walk1) | (dsimp only; walk1) | fail "no step")
    exact hQ _ _ _ [] (by assumption) (by assumption) (by assumption) ⟨rfl, _, rfl⟩
end Mine
set_option maxHeartbeats 4000000
namespace Mine
theorem fill15 : True := by
  w_top off
  exact True.intro
local macro_rules | `(tactic| k_mem) => `(tactic| ((repeat (first | assumption | exact List.Mem.head _ | apply List.Mem.tail)); done))
/-- the ledger has the games at the places of a list at a -/
def Games (news : List (Addr × Obj)) (a : Addr) (gs : List G) : Prop := ∃ (vs : List Value) (n : Nat), (a, listOf (List.toArray vs) n) ∈ news ∧ ∀ (i : Nat) (x : G), gs[i]? = some x → ∃ b, vs[i]? = some (Value.ref b) ∧ GameIn news b x
theorem Games.mono {news news' : List (Addr × Obj)} {a : Addr} {gs : List G} (h : Games news a gs) (hs : ∀ p ∈ news, p ∈ news') : Games news' a gs := by
  obtain ⟨vs, n, h1, h2⟩ := h
  exact ⟨vs, n, hs _ h1, fun i x e => (h2 i x e).imp fun b hb => ⟨hb.1, hb.2.mono hs⟩⟩
/-- what a value of the pile stands for: a game or a sign -/
def ItemIs (news : List (Addr × Obj)) : Sum G Int → Value → Prop
  | .inl x, v => ∃ a, v = .ref a ∧ GameIn news a x
  | .inr k, v => ∃ t, v = .int k t
def PileIs (news : List (Addr × Obj)) : List (Sum G Int) → List Value → Prop
  | [], vs => vs = []
  | x :: r, vs => ∃ us v, vs = us ++ [v] ∧ ItemIs news x v ∧ PileIs news r us
abbrev Step4 := Bool × G × G × G
def StepIs (news : List (Addr × Obj)) (p : Step4) (v : Value) : Prop :=
  ∃ a ax ay az, v = .ref a ∧ (a, tupO [.bool p.1, .ref ax, .ref ay, .ref az]) ∈ news ∧ GameIn news ax p.2.1 ∧ GameIn news ay p.2.2.1 ∧ GameIn news az p.2.2.2
def StepsAre (news : List (Addr × Obj)) : List Step4 → List Value → Prop
  | [], vs => vs = []
  | p :: r, vs => ∃ us v, vs = us ++ [v] ∧ StepIs news p v ∧ StepsAre news r us
theorem PileIs.mono {news news' : List (Addr × Obj)} (hs : ∀ p ∈ news, p ∈ news') : ∀ {l : List (Sum G Int)} {vs : List Value}, PileIs news l vs → PileIs news' l vs
  | [], _, h => h
  | .inl _ :: _, _, ⟨us, v, e, ⟨a, e2, g⟩, r⟩ => ⟨us, v, e, ⟨a, e2, g.mono hs⟩, r.mono hs⟩
  | .inr _ :: _, _, ⟨us, v, e, t, r⟩ => ⟨us, v, e, t, r.mono hs⟩
theorem StepsAre.mono {news news' : List (Addr × Obj)} (hs : ∀ p ∈ news, p ∈ news') : ∀ {l : List Step4} {vs : List Value}, StepsAre news l vs → StepsAre news' l vs
  | [], _, h => h
  | _ :: _, _, ⟨us, v, e, ⟨a, ax, ay, az, e2, q, g1, g2, g3⟩, r⟩ => ⟨us, v, e, ⟨a, ax, ay, az, e2, hs _ q, g1.mono hs, g2.mono hs, g3.mono hs⟩, r.mono hs⟩
/-- one turn of _law_read -/
def rdOne (gs : List G) (st : List (Sum G Int) × List Step4) (k : Int) : Option (List (Sum G Int) × List Step4) :=
  if 256 ≤ k then (gs[(k - 256).toNat]?).map fun x => (Sum.inl x :: st.1, st.2)
  else if k = 8 then (match st.1 with | .inl y :: .inr s :: .inl x :: r => some (.inl (madeG s x y) :: r, (s == 18, x, y, madeG s x y) :: st.2) | _ => none)
  else if k = 7 then some st else some (.inr k :: st.1, st.2)
def rdAll (gs : List G) : List Int → List (Sum G Int) × List Step4 → Option (List (Sum G Int) × List Step4)
  | [], st => some st
  | k :: r, st => (rdOne gs st k).bind (rdAll gs r)
def RdR (news : List (Addr × Obj)) (gs : List G) (ss : List Int) (fin : List (Sum G Int) × List Step4) (lg lt Dp Ds : Addr) (i : Nat) (m : Str → Option Value) (nx : List (Addr × Obj)) : Prop :=
  ∃ vp np vs ns base pile steps, nx = (Ds, listOf (List.toArray vs) ns) :: (Dp, listOf (List.toArray vp) np) :: base ∧ (∀ p ∈ news, p ∈ base) ∧ (∀ p ∈ base, p.1 ≠ Dp ∧ p.1 ≠ Ds) ∧ PileIs base pile vp ∧ StepsAre base steps vs ∧ vp.length ≤ i ∧ vs.length ≤ i ∧ rdAll gs (ss.drop i) (pile, steps) = some fin ∧ i ≤ ss.length ∧
    m (Str.ofString "pile") = some (.ref Dp) ∧ m (Str.ofString "steps") = some (.ref Ds) ∧ m (Str.ofString "games") = some (.ref lg) ∧ m (Str.ofString "tables") = some (.ref lt)
theorem rd_at {gs : List G} {ss : List Int} {i : Nat} {k : Int} {st fin : List (Sum G Int) × List Step4} (hz : ∀ k ∈ ss, k ≠ 0) (hk : (ss ++ [0])[i]? = some k) (h : rdAll gs (ss.drop i) st = some fin) :
    (k = 0 ∧ fin = st) ∨ (k ≠ 0 ∧ i < ss.length ∧ ∃ st', rdOne gs st k = some st' ∧ rdAll gs (ss.drop (i + 1)) st' = some fin) := by
  by_cases hlt : i < ss.length
  · rw [List.getElem?_append_left hlt] at hk
    have hd : ss.drop i = k :: ss.drop (i + 1) := by
      obtain ⟨_, e⟩ := List.getElem?_eq_some_iff.mp hk
      rw [← e]
      exact List.drop_eq_getElem_cons hlt
    rw [hd] at h
    exact .inr ⟨hz k (List.mem_of_getElem? hk), hlt, Option.bind_eq_some_iff.mp h⟩
  · rw [List.getElem?_append_right (Nat.le_of_not_lt hlt)] at hk
    rw [List.drop_eq_nil_of_le (Nat.le_of_not_lt hlt)] at h
    refine .inl ⟨?_, (Option.some.inj h).symm⟩
    cases hj : i - ss.length with
    | zero => rw [hj] at hk; exact (Option.some.inj hk).symm
    | succ n => rw [hj] at hk; cases hk
theorem int_at {vs : List Value} {ns : List Int} {i : Nat} {v : Value} (hi : IntsAre vs ns) (hv : vs[i]? = some v) : ∃ k t, ns[i]? = some k ∧ v = .int k t := by
  obtain ⟨hlt, _⟩ := List.getElem?_eq_some_iff.mp hv
  rw [hi.length] at hlt
  obtain ⟨t, ht⟩ := hi.get i _ (List.getElem?_eq_getElem hlt)
  exact ⟨_, t, List.getElem?_eq_getElem hlt, Option.some.inj (hv.symm.trans ht)⟩
theorem off_own {base own : List (Addr × Obj)} {a b : Addr × Obj} {ls : Addr} {o : Obj} (h : ∀ p ∈ base, p.1 ≠ b.1 ∧ p.1 ≠ a.1) (hl : (ls, o) ∈ base) (hown : ∀ p ∈ own, p.1 = ls ∨ ∀ q ∈ a :: b :: base, p.1 ≠ q.1) : ∀ p ∈ base ++ own, p.1 ≠ b.1 ∧ p.1 ≠ a.1 := fun p hp => by
  rcases List.mem_append.mp hp with hp | hp
  · exact h p hp
  · rcases hown p hp with e | e
    · rw [e]; exact h _ hl
    · exact ⟨e _ (.tail _ (.head _)), e _ (.head _)⟩
theorem rdStart {g h : Heap} {L D1 D2 : Addr} {m : Str → Option Value} {news : List (Addr × Obj)} {gs : List G} {ss : List Int} {fin : List (Sum G Int) × List Step4} {lg lt : Addr} (F : Fr g L h m)
    (N : News g L h ((D2, listOf #[] 0) :: (D1, listOf #[] 0) :: news)) (k1 : ∀ p ∈ news, p.1 < D1) (k2 : D1 < D2 ∧ AllLt D2 news) (hrun : rdAll gs ss ([], []) = some fin) (e1 : m (Str.ofString "pile") = some (.ref D1)) (e2 : m (Str.ofString "steps") = some (.ref D2)) (e3 : m (Str.ofString "games") = some (.ref lg)) (e4 : m (Str.ofString "tables") = some (.ref lt)) :
    ∃ D1 D2 m' nx, Fr g L h m' ∧ News g L h nx ∧ D1 ≠ D2 ∧ RdR news gs ss fin lg lt D1 D2 0 m' nx :=
  ⟨D1, D2, m, _, F, N, Nat.ne_of_lt k2.1, [], 0, [], 0, news, [], [], rfl, fun p hp => hp, fun p hp => ⟨Nat.ne_of_lt (k1 p hp), Nat.ne_of_lt (ktn_ltOf k2.2 p hp)⟩, rfl, rfl, Nat.le_refl _, Nat.le_refl _, hrun, Nat.zero_le _, e1, e2, e3, e4⟩
theorem rd_sub {news base own : List (Addr × Obj)} {a b : Addr × Obj} (hsub : ∀ p ∈ news, p ∈ base) {p : Addr × Obj} (hp : p ∈ (a :: base) ++ news) : p ∈ a :: b :: (base ++ own) := by
  rcases List.mem_append.mp hp with hp | hp
  · rcases List.mem_cons.mp hp with rfl | hp
    · exact .head _
    · exact .tail _ (.tail _ (List.mem_append_left _ hp))
  · exact .tail _ (.tail _ (List.mem_append_left _ (hsub p hp)))
theorem rd_game {gs : List G} {pile : List (Sum G Int)} {steps : List Step4} {k : Int} {st' : List (Sum G Int) × List Step4} (hk : 256 ≤ k) (h : rdOne gs (pile, steps) k = some st') : ∃ x, gs[(k - 256).toNat]? = some x ∧ st' = (.inl x :: pile, steps) := by
  rw [rdOne, if_pos hk] at h
  obtain ⟨x, hx, rfl⟩ := Option.map_eq_some_iff.mp h
  exact ⟨x, hx, rfl⟩
theorem rd_small {gs : List G} {k : Int} {x : G} (hl : gs.length ≤ 5) (h : gs[(k - 256).toNat]? = some x) : k - 256 < 2 ^ 63 := by
  obtain ⟨hlt, _⟩ := List.getElem?_eq_some_iff.mp h
  omega
theorem len_more {us : List Value} {v : Value} {n : Nat} (h : us.length ≤ n) : (us ++ [v]).length ≤ n + 1 := by
  rw [List.length_append]
  exact Nat.succ_le_succ h
theorem len_room {us : List Value} (h : us.length ≤ 1000) : us.toArray.size ≤ sizeLine := by
  rw [sizeLine_eq, List.size_toArray]
  omega
theorem adr2 {a b : Addr} {x y x' y' : Obj} {base : List (Addr × Obj)} {p : Addr × Obj} (hp : p ∈ (a, x') :: (b, y') :: base) : p.1 ∈ ((a, x) :: (b, y) :: base).map (·.1) := by
  have := List.mem_map_of_mem (f := fun q : Addr × Obj => q.1) hp
  exact this
theorem rd_rpar {gs : List G} {pile : List (Sum G Int)} {steps : List Step4} {k : Int} {st' : List (Sum G Int) × List Step4} (hk : k = 8) (h : rdOne gs (pile, steps) k = some st') :
    ∃ y s x r, pile = .inl y :: .inr s :: .inl x :: r ∧ st' = (.inl (madeG s x y) :: r, (s == 18, x, y, madeG s x y) :: steps) := by
  subst hk
  match pile, h with
  | .inl y :: .inr s :: .inl x :: r, h => exact ⟨y, s, x, r, rfl, (Option.some.inj h).symm⟩
theorem len_pre {us : List Value} {v : Value} {n : Nat} (h : (us ++ [v]).length ≤ n) : us.length ≤ n := by
  rw [List.length_append] at h
  exact Nat.le_trans (Nat.le_add_right _ _) h
theorem cls_ne {g h : Heap} {L a D : Addr} {o : Obj} {its : Array Value} {n : Nat} {news : List (Addr × Obj)} (N : News g L h news) (ha : (a, o) ∈ news) (hd : (D, listOf its n) ∈ news) (hc : o.cls = .type "tuple") : a ≠ D := fun e => by
  subst e
  have h1 := (N _ ha).1.symm.trans (N _ hd).1
  have h2 : o = listOf its n := Option.some.inj h1
  rw [h2] at hc
  exact absurd (Value.type.inj hc) (by decide)
theorem GO.cls {x : G} {o : Obj} (h : GO x o) : o.cls = .type "tuple" := by
  obtain ⟨_, _, _, _, rfl⟩ := h
  rfl
theorem len_roomL {us : List Value} (h : us.length ≤ 1000) : us.toArray.toList.length ≤ sizeLine := by
  rw [sizeLine_eq]
  show us.length ≤ _
  omega
theorem perm4 {a b c d p : Addr × Obj} {base own : List (Addr × Obj)} (hp : p ∈ (c :: d :: a :: b :: base) ++ own) : p ∈ a :: b :: c :: d :: (base ++ own) := by
  simp only [List.cons_append, List.mem_cons] at hp ⊢
  rcases hp with h | h | h | h | h
  · exact .inr (.inr (.inl h))
  · exact .inr (.inr (.inr (.inl h)))
  · exact .inl h
  · exact .inr (.inl h)
  · exact .inr (.inr (.inr (.inr h)))
theorem adr4 {a b p : Addr × Obj} {c d : Addr} {x y x' y' : Obj} {base : List (Addr × Obj)} (h1 : a.2.cls = .type "tuple") (h2 : b.2.cls = .type "tuple") (hp : p ∈ (c, x') :: (d, y') :: a :: b :: base) : p.1 ∈ ((c, x) :: (d, y) :: base).map (·.1) ∨ p.2.cls ≠ .type "list_iterator" := by
  have ht : Value.type "tuple" ≠ .type "list_iterator" := fun e => absurd (Value.type.inj e) (by decide)
  rcases List.mem_cons.mp hp with rfl | hp
  · exact .inl (.head _)
  rcases List.mem_cons.mp hp with rfl | hp
  · exact .inl (.tail _ (.head _))
  rcases List.mem_cons.mp hp with rfl | hp
  · exact .inr (h1 ▸ ht)
  rcases List.mem_cons.mp hp with rfl | hp
  · exact .inr (h2 ▸ ht)
  exact .inl (.tail _ (.tail _ (List.mem_map_of_mem hp)))
theorem off4 {g h : Heap} {L D1 D2 : Addr} {a b : Addr × Obj} {i1 i2 : Array Value} {n1 n2 : Nat} {base own : List (Addr × Obj)} (N : News g L h (a :: b :: (D2, listOf i2 n2) :: (D1, listOf i1 n1) :: (base ++ own))) (h1 : a.2.cls = .type "tuple") (h2 : b.2.cls = .type "tuple")
    (hoff : ∀ p ∈ base, p.1 ≠ D1 ∧ p.1 ≠ D2) : ∀ p ∈ a :: b :: base, p.1 ≠ D1 ∧ p.1 ≠ D2 := by
  refine List.forall_mem_cons.mpr ⟨⟨cls_ne N (.head _) (.tail _ (.tail _ (.tail _ (.head _)))) h1, cls_ne N (.head _) (.tail _ (.tail _ (.head _))) h1⟩, List.forall_mem_cons.mpr ⟨⟨cls_ne N (.tail _ (.head _)) (.tail _ (.tail _ (.tail _ (.head _)))) h2, cls_ne N (.tail _ (.head _)) (.tail _ (.tail _ (.head _))) h2⟩, hoff⟩⟩
theorem read_c (w : World) (news : List (Addr × Obj)) (ls lg lt : Addr) (gs : List G) (vsym : List Value) (ss : List Int) (nn : Nat) (fin : List (Sum G Int) × List Step4) (htb : Tabs news lt) (hg : Games news lg gs) (hls : (ls, listOf (List.toArray vsym) nn) ∈ news) (hi : IntsAre vsym (ss ++ [0])) (hz : ∀ k ∈ ss, k ≠ 0) (hlen : ss.length ≤ 1000) (hgl : gs.length ≤ 5)
    (hrun : rdAll gs ss ([], []) = some fin) : Con w 3 167 [.ref ls, .ref lg, .ref lt] news (fun tl v => ∃ Ds vs ns base, tl = (Ds, listOf (List.toArray vs) ns) :: base ∧ v = .ref Ds ∧ StepsAre (base ++ news) fin.2 vs) := by
  refine' Con.of (binds := [(Str.ofString "symbols", .ref ls), (Str.ofString "games", .ref lg), (Str.ofString "tables", .ref lt)]) ?ho ?hbd ?hsc ?hcd ?hb ?hl ?hco ?hg ?hk ?hc ?hbody
  case' ho => k_is
  case' hbd => (conv => rhs; whnf)
  case' hsc => (conv => rhs; whnf)
  case' hcd => k_is
  case' hb => exact rfl
  case' hl => exact locs rfl
  case' hco => exact rfl
  case' hg => exact rfl
  case' hk => exact rfl
  case' hc => decide
  intro A g L s H hh S F N G ht Q hQ
  have X := G.x
  obtain ⟨loose, mean, mg, mb, T⟩ := G.t
  (try dsimp only)
  repeat' (first
    | (k_unfold; (try dsimp only))
    | ((with_reducible show wpAny _ _ (eval (Expr.Call (Expr.Name _ _) _ [] _) _) _ _ _); refine Call_ ?_)
    | ((fail_if_success (with_reducible show wpAny _ _ (pyIter _) _ _ _)); walk1) | ((fail_if_success (with_reducible show wpAny _ _ (pyIter _) _ _ _)); dsimp only; walk1) | fail "no step")
  rename News _ _ _ _ => lN
  rename Fr _ _ _ _ => lF
  obtain ⟨D1, D2, m0, nx0, F0, N0, hD, hR0⟩ := rdStart (gs := gs) (ss := ss) (fin := fin) (lg := lg) (lt := lt) lF lN (by assumption) (by assumption) hrun rfl rfl rfl rfl
  have hls' : (ls, listOf (List.toArray vsym) nn) ∈ nx0 := by
    obtain ⟨_, _, _, _, _, _, _, rfl, hs, _⟩ := hR0
    exact .tail _ (.tail _ (hs _ hls))
  refine' listG (s₀ := s) (vs := vsym) (RdR news gs ss fin lg lt D1 D2) hh (News.isList N0 hls') (N0 _ hls').2.1 (by assumption) F0 N0 hR0 ?_ ?_
  · clear lN lF hR0 N0 F0 hls'
    intro i v m1 nx s1 own hv hown S1 hR F1 N1 Q1 hQ1 hQr
    rename IntsAre _ _ => hi
    obtain ⟨k, tk, hk, rfl⟩ := int_at hi hv
    obtain ⟨vp, np, vs, ns, base, pile, steps, rfl, hsub, hoff, hP, hS, hl1, hl2, hrd, hle, e1, e2, e3, e4⟩ := hR
    have hoff0 := hoff
    have hoff := off_own hoff (hsub _ hls) hown
    have hsub' : ∀ p ∈ news, p ∈ base ++ own := fun p hp => List.mem_append_left _ (hsub p hp)
    have hU1 : ∀ p ∈ base ++ own, p.1 ≠ D1 := fun p hp => (hoff p hp).1
    have hU2 : ∀ p ∈ base ++ own, p.1 ≠ D2 := fun p hp => (hoff p hp).2
    have hlp : vp.length ≤ 1000 := Nat.le_trans hl1 (Nat.le_trans hle hlen)
    have hlv : vs.length ≤ 1000 := Nat.le_trans hl2 (Nat.le_trans hle hlen)
    rw [List.cons_append, List.cons_append] at N1
    have hstep := rd_at hz hk hrd
    repeat' (first
      | (k_unfold; (try dsimp only))
      | ((with_reducible show wpAny _ _ (eval (Expr.Call (Expr.Name _ _) _ [] _) _) _ _ _); refine Call_ ?_)
      | ((with_reducible show wpAny _ _ (eval (Expr.Name _ _) _) _ _ _); k_dflt (refine' nameX_L ?nmF ?nmv ?_ ?nma ?nmb; (case nmF => k_asm); (case nma => rfl); (case nmb => rfl); (case nmv => first | rfl | assumption); k_whole); walk_say "NAMEH")
      | ((with_reducible show wpAny _ _ (call (Value.ref 108) _ _) _ _ _); k_dflt (refine' Con.use (iseof_c _ _ _ _) ?k1 ?k2 ?k0 ?k3 ?k4 ?k5 ?_; (case k1 => assumption); (case k2 => decide); (case k3 => k_asm); (case k4 => k_asm); (case k5 => assumption); (case k0 => assumption); intro r9 tl9 s9 S9 F9 N9 hR9; (obtain ⟨e8, e9⟩ := hR9); subst e8; subst e9; (rw [List.nil_append] at N9); (try dsimp only)); walk_say "CALL iseof_c")
      | ((with_reducible show wpAny _ _ (call (Value.ref 101) _ _) _ _ _); k_dflt (refine' Con.use (isnt_c _ _ _ _) ?k1 ?k2 ?k0 ?k3 ?k4 ?k5 ?_; (case k1 => assumption); (case k2 => decide); (case k3 => k_asm); (case k4 => k_asm); (case k5 => assumption); (case k0 => assumption); intro r9 tl9 s9 S9 F9 N9 hR9; (obtain ⟨e8, e9⟩ := hR9); subst e8; subst e9; (rw [List.nil_append] at N9); (try dsimp only)); walk_say "CALL isnt_c")
      | ((fail_if_success (with_reducible show wpAny _ _ (execs (Stmt.Expr _ _ :: _) _) _ _ _)); (fail_if_success (with_reducible show wpAny _ _ (execs (Stmt.Assign _ (Expr.Call _ _ _ _) _ :: _) _) _ _ _)); walk1) | ((fail_if_success (with_reducible show wpAny _ _ (execs (Stmt.Expr _ _ :: _) _) _ _ _)); (fail_if_success (with_reducible show wpAny _ _ (execs (Stmt.Assign _ (Expr.Call _ _ _ _) _ :: _) _) _ _ _)); dsimp only; walk1) | fail "no step")
    · rename News _ _ _ _ => lN
      have hst := hstep.resolve_right fun h => h.1 (by assumption)
      refine hQr _ _ (hQ _ _ _ ((D2, _) :: base) (by assumption) (by assumption) (fun p hp => lN p (rd_sub hsub hp)) ⟨D2, vs, ns, base, rfl, rfl, ?_⟩)
      rw [hst.2]
      exact hS.mono fun p hp => List.mem_append_left _ hp
    all_goals obtain ⟨_, hlt, st', h1, h2⟩ := hstep.resolve_left fun h => absurd h.1 (by assumption)
    · obtain ⟨x, hx, rfl⟩ := rd_game (by assumption) h1
      obtain ⟨vg, ng, hgm, hgi⟩ := hg
      obtain ⟨b, hb, hgx⟩ := hgi _ _ hx
      have hgm := hsub' _ hgm
      have hk0 : 0 ≤ k - 256 := by omega
      have hk1 : k - 256 < 2 ^ 63 := rd_small hgl hx
      repeat' (first
        | (k_unfold; (try dsimp only))
        | ((with_reducible show wpAny _ _ (eval (Expr.Call (Expr.Name _ _) _ [] _) _) _ _ _); refine Call_ ?_)
        | ((with_reducible show wpAny _ _ (eval (Expr.Name _ _) _) _ _ _); k_dflt (refine' nameX_L ?nmF ?nmv ?_ ?nma ?nmb; (case nmF => k_asm); (case nma => rfl); (case nmb => rfl); (case nmv => first | rfl | assumption); k_whole); walk_say "NAMEH")
        | ((with_reducible show wpAny _ _ (subscriptTail _ _ (Value.ref _) (Value.int _ _)) _ _ _); k_dflt (refine' item_litK ?k1 ?k2 ?k3 ?k4 ?_ ?k6; (case k1 => exact News.isList (by k_asm) (by k_mem)); (case k2 => first | assumption | decide | omega); (case k3 => first | assumption | decide | omega); (case k4 => first | rfl | assumption); (case k6 => with_unfolding_all rfl); k_whole); walk_say "ITEM")
        | ((with_reducible show wpAny _ _ (call (Value.builtin "list.append") [Value.ref _, _]) _ _ _); k_dflt (refine' append_K ?apF ?apN ?apU ?_ ?apz; (case apF => k_asm); (case apN => k_asm); (case apU => first | exact Upd.head hU2 | exact Upd.tail (Ne.symm hD) (Upd.head hU1) | exact Upd.tail (cls_ne (by k_asm) (.head _) (.tail _ (.tail _ (.head _))) (GO.cls (by assumption))) (Upd.tail (Ne.symm hD) (Upd.head hU1)) | exact Upd.tail (cls_ne (by k_asm) (.head _) (.tail _ (.tail _ (.head _))) rfl) (Upd.tail (cls_ne (by k_asm) (.tail _ (.head _)) (.tail _ (.tail _ (.head _))) (GO.cls (by assumption))) (Upd.head (List.forall_mem_cons.mpr ⟨hD, hU2⟩)))); (case apz => exact len_room (by assumption))); intro h' F' N'; (rw [List.push_toArray] at N'); (try dsimp only); walk_say "APP")
        | (walk1) | (dsimp only; walk1) | fail "no step")
      rename News _ _ _ _ => lN
      refine hQ1 _ _ ((D2, _) :: (D1, _) :: base) (by assumption) (by assumption) lN (fun p hp => .inl (adr2 hp)) ?_
      exact ⟨_, _, _, _, base, .inl x :: pile, steps, rfl, hsub, hoff0, ⟨_, _, rfl, ⟨b, rfl, hgx.mono hsub⟩, hP⟩, hS, len_more hl1, Nat.le_succ_of_le hl2, h2, hlt, e1, e2, e3, e4⟩
    · obtain ⟨y, sg, x, r, rfl, rfl⟩ := rd_rpar (by assumption) h1
      obtain ⟨us1, _, rfl, ⟨ay, rfl, gy⟩, us2, _, rfl, ⟨tsg, rfl⟩, us3, _, rfl, ⟨ax, rfl, gx⟩, hP3⟩ := hP
      have gx0 := gx
      have gy0 := gy
      have gx := gx.mono (news' := base ++ own) fun p hp => List.mem_append_left _ hp
      have gy := gy.mono (news' := base ++ own) fun p hp => List.mem_append_left _ hp
      have htb := htb.mono hsub'
      have hl2' := len_pre hlp
      have hl3' := len_pre hl2'
      have hl4' := len_pre hl3'
      repeat' (first
        | (k_unfold; (try dsimp only))
        | ((with_reducible show wpAny _ _ (eval (Expr.Call (Expr.Name _ _) _ [] _) _) _ _ _); refine Call_ ?_)
        | ((with_reducible show wpAny _ _ (eval (Expr.Name _ _) _) _ _ _); k_dflt (refine' nameX_L ?nmF ?nmv ?_ ?nma ?nmb; (case nmF => k_asm); (case nma => rfl); (case nmb => rfl); (case nmv => first | rfl | assumption); k_whole); walk_say "NAMEH")
        | ((with_reducible show wpAny _ _ (call (Value.builtin _) (Prod.snd _)) _ _ _); dsimp only)
        | ((with_reducible show wpAny _ _ (call (Value.builtin _) [Value.ref _]) _ _ _); k_dflt (refine' kl_pop ?poF ?poN ?poe ?poU ?poz ?_; (case poF => k_asm); (case poN => k_asm); (case poU => exact Upd.tail (Ne.symm hD) (Upd.head hU1)); (case poe => exact kpa_last _ _); (case poz => first | exact len_roomL hlp | exact len_roomL hl2' | exact len_roomL hl3')); intro h' F' N'; (try dsimp only); walk_say "POP")
        | ((with_reducible show wpAny _ _ (call (Value.builtin "list.append") [Value.ref _, _]) _ _ _); k_dflt (refine' append_K ?apF ?apN ?apU ?_ ?apz; (case apF => k_asm); (case apN => k_asm); (case apU => first | exact Upd.head hU2 | exact Upd.tail (Ne.symm hD) (Upd.head hU1) | exact Upd.tail (cls_ne (by k_asm) (.head _) (.tail _ (.tail _ (.head _))) (GO.cls (by assumption))) (Upd.tail (Ne.symm hD) (Upd.head hU1)) | exact Upd.tail (cls_ne (by k_asm) (.head _) (.tail _ (.tail _ (.head _))) rfl) (Upd.tail (cls_ne (by k_asm) (.tail _ (.head _)) (.tail _ (.tail _ (.head _))) (GO.cls (by assumption))) (Upd.head (List.forall_mem_cons.mpr ⟨hD, hU2⟩)))); (case apz => exact len_room (by assumption))); intro h' F' N'; (rw [List.push_toArray] at N'); (try dsimp only); walk_say "APP")
        | ((with_reducible show wpAny _ _ (subscriptTail _ _ (Value.ref _) (Value.int _ _)) _ _ _); k_dflt (refine' item_last ?iL ?_ ?i1 ?i2; (case iL => exact News.isList (by k_asm) (by k_mem)); (case i1 => with_unfolding_all rfl); (case i2 => intro _; with_unfolding_all rfl)); walk_say "ITEML")
        | ((with_reducible show wpAny _ _ (call (Value.ref 153) _ _) _ _ _); k_dflt (refine' Con.use (made_c _ _ _ _ _ _ _ _ _ ?g1 ?g2 ?g3) ?k1 ?k2 ?k0 ?k3 ?k4 ?k5 ?_; (case k1 => assumption); (case k2 => decide); (case k3 => k_asm); (case k4 => k_asm); (case k5 => assumption); (case k0 => assumption); (case g1 => first | assumption | exact GameIn.mono (by assumption) (by (intro p hp; repeat (first | assumption | apply List.Mem.tail))) | exact Tabs.mono (by assumption) (by (intro p hp; repeat (first | assumption | apply List.Mem.tail))) | exact ⟨_, (by k_mem), (by assumption)⟩ | exact ⟨_, (by k_mem), _, _, _, _, rfl⟩); (case g2 => first | assumption | exact GameIn.mono (by assumption) (by (intro p hp; repeat (first | assumption | apply List.Mem.tail))) | exact Tabs.mono (by assumption) (by (intro p hp; repeat (first | assumption | apply List.Mem.tail))) | exact ⟨_, (by k_mem), (by assumption)⟩ | exact ⟨_, (by k_mem), _, _, _, _, rfl⟩); (case g3 => first | assumption | exact GameIn.mono (by assumption) (by (intro p hp; repeat (first | assumption | apply List.Mem.tail))) | exact Tabs.mono (by assumption) (by (intro p hp; repeat (first | assumption | apply List.Mem.tail))) | exact ⟨_, (by k_mem), (by assumption)⟩ | exact ⟨_, (by k_mem), _, _, _, _, rfl⟩); intro r9 tl9 s9 S9 F9 N9 hR9; (obtain ⟨a9, o9, e8, e9, hG9⟩ := hR9); subst e8; subst e9; (rw [List.singleton_append] at N9); (try dsimp only)); walk_say "CALL made_c")
        | (walk1) | (dsimp only; walk1) | fail "no step")
      rename News _ _ _ _ => lN
      have c1 := GO.cls (by assumption)
      refine hQ1 _ _ ((D2, _) :: (D1, _) :: _ :: _ :: base) (by assumption) (by assumption) (fun p hp => lN p (perm4 hp)) (fun p hp => adr4 rfl c1 hp) ?_
      exact ⟨_, _, _, _, _ :: _ :: base, .inl (madeG sg x y) :: r, (sg == 18, x, y, madeG sg x y) :: steps, rfl, fun p hp => .tail _ (.tail _ (hsub p hp)), off4 lN rfl c1 hoff0,
        ⟨_, _, rfl, ⟨_, rfl, _, .tail _ (.head _), by assumption⟩, hP3.mono fun p hp => .tail _ (.tail _ hp)⟩,
        ⟨_, _, rfl, ⟨_, _, _, _, rfl, .head _, gx0.mono fun p hp => .tail _ (.tail _ hp), gy0.mono fun p hp => .tail _ (.tail _ hp), _, .tail _ (.head _), by assumption⟩, hS.mono fun p hp => .tail _ (.tail _ hp)⟩,
        len_more (len_pre (len_pre (len_pre hl1))), len_more hl2, h2, hlt, e1, e2, e3, e4⟩
    · rw [rdOne, if_neg (by assumption), if_neg (by assumption), if_neg (by assumption)] at h1
      cases h1
      repeat' (first
        | (k_unfold; (try dsimp only))
        | ((with_reducible show wpAny _ _ (eval (Expr.Call (Expr.Name _ _) _ [] _) _) _ _ _); refine Call_ ?_)
        | ((with_reducible show wpAny _ _ (eval (Expr.Name _ _) _) _ _ _); k_dflt (refine' nameX_L ?nmF ?nmv ?_ ?nma ?nmb; (case nmF => k_asm); (case nma => rfl); (case nmb => rfl); (case nmv => first | rfl | assumption); k_whole); walk_say "NAMEH")
        | ((with_reducible show wpAny _ _ (call (Value.builtin "list.append") [Value.ref _, _]) _ _ _); k_dflt (refine' append_K ?apF ?apN ?apU ?_ ?apz; (case apF => k_asm); (case apN => k_asm); (case apU => first | exact Upd.head hU2 | exact Upd.tail (Ne.symm hD) (Upd.head hU1) | exact Upd.tail (cls_ne (by k_asm) (.head _) (.tail _ (.tail _ (.head _))) (GO.cls (by assumption))) (Upd.tail (Ne.symm hD) (Upd.head hU1)) | exact Upd.tail (cls_ne (by k_asm) (.head _) (.tail _ (.tail _ (.head _))) rfl) (Upd.tail (cls_ne (by k_asm) (.tail _ (.head _)) (.tail _ (.tail _ (.head _))) (GO.cls (by assumption))) (Upd.head (List.forall_mem_cons.mpr ⟨hD, hU2⟩)))); (case apz => exact len_room (by assumption))); intro h' F' N'; (rw [List.push_toArray] at N'); (try dsimp only); walk_say "APP")
        | (walk1) | (dsimp only; walk1) | fail "no step")
      rename News _ _ _ _ => lN
      refine hQ1 _ _ ((D2, _) :: (D1, _) :: base) (by assumption) (by assumption) lN (fun p hp => .inl (adr2 hp)) ?_
      exact ⟨_, _, _, _, base, .inr k :: pile, steps, rfl, hsub, hoff0, ⟨_, _, rfl, ⟨_, rfl⟩, hP⟩, hS, len_more hl1, Nat.le_succ_of_le hl2, h2, hlt, e1, e2, e3, e4⟩
    · rename News _ _ _ _ => lN
      rw [rdOne, if_neg (by assumption), if_neg (by assumption), if_pos (by assumption)] at h1
      cases h1
      refine hQ1 _ _ ((D2, _) :: (D1, _) :: base) (by assumption) (by assumption) lN (fun p hp => .inl (adr2 hp)) ?_
      exact ⟨_, _, _, _, base, _, _, rfl, hsub, hoff0, hP, hS, Nat.le_succ_of_le hl1, Nat.le_succ_of_le hl2, h2, hlt, e1, e2, e3, e4⟩
  · clear lN lF hR0 N0 F0 hls'
    intro m2 nx2 s2 S2 hR F2 N2
    obtain ⟨_, _, _, _, _, _, _, _, _, _, _, _, _, _, _, hle, _⟩ := hR
    rename IntsAre _ _ => hi
    have := hi.length
    rw [List.length_append, List.length_singleton] at this
    exact absurd hle (by omega)
end Mine
set_option maxHeartbeats 4000000
namespace Mine
/-- as Con, where the count of values made is told -/
def ConT (w : World) (k : Nat) (f : Addr) (vs : List Value) (P : Nat → Prop) (news : List (Addr × Obj)) (R : List (Addr × Obj) → Value → Prop) : Prop :=
  ∀ (A : Around) (h₀ : Heap) (L : Addr) (m : Str → Option Value) (s : Shared) (Q E : Value → Shared → Prop), Here A h₀ L k → Fr h₀ L s.heap m → News h₀ L s.heap news → Gnd w h₀ → P s.toks →
    (∀ r tl s', Same s s' → s.toks ≤ s'.toks → Fr h₀ L s'.heap m → News h₀ L s'.heap (tl ++ news) → R tl r → Q r s') →
    wpAny (model Prg w) A (call (.ref f) vs) Q E s
theorem ConT.of {w : World} {k : Nat} {f : Addr} {vs : List Value} {P : Nat → Prop} {news : List (Addr × Obj)} {R : List (Addr × Obj) → Value → Prop} {name qual : Str} {params : Arguments} {body₀ body : List Stmt} {scope₀ scope : Scope} {dV kV doc pm cdv ct oc : Value} {an od : Option Addr} {osl : Array (Option Value)} {binds : List (Str × Value)}
    (ho : (KK w.params).lookup f = some ⟨oc, od, .func (fnOf name qual params body₀ scope₀ dV kV doc pm an cdv ct), osl⟩) (hbd : body = body₀) (hsc : scope = scope₀) (hcd : codeIn (KK w.params) cdv qual = true)
    (hbind : bindArgs (fnOf name qual params body scope dV kV doc pm an cdv ct) ⟨vs, []⟩ = pure binds) (hloc : ∀ y ∈ binds, scope.names.lookup y.1 = some .local)
    (hco : scope.isCoroutine = false) (hgen : scope.isGenerator = false) (hk : scope.kind = .function) (hcell : ∀ x ∈ scope.names, x.2 ≠ .cell)
    (h : ∀ (A : Around) (g : Heap) (L : Addr) (s : Shared) (n : Nat), P n → n + binds.length ≤ s.toks → Here A g L k → A.handled = none → Same s s → Fr g L s.heap (fun y => binds.reverse.lookup y) → News g L s.heap news → Gnd w g →
      ∀ (Q : Flow → Shared → Prop), (∀ v s' m' tl, Same s s' → n ≤ s'.toks → Fr g L s'.heap m' → News g L s'.heap (tl ++ news) → R tl v → Q (.ret v) s') →
      wpAny (model Prg w) A (execs body (envOf qual scope L f cdv)) Q (fun _ _ => False) s) : ConT w (k + 1) f vs P news R := by
  subst hbd hsc
  intro A h₀ L m s Q E H F N G hp ret
  obtain ⟨dp, un, gd, cn, cs, a, ccd, cl, outer, A₀, base, rfl, B, hc, h1, h2⟩ := H
  obtain ⟨X, loose, mean, mg, mb, T⟩ := G
  refine wpAny_call ?_
  refine code_def B F X N T rfl rfl hc ho hcd (show dp < recursionLimit by omega) (BindsTo.of_eq hbind) hloc (fun g L' h₁ FG F' N' B' X' T' => ?_) hco hgen hk hcell
  have H' : Here ((ktrTop dp un gd cn cs L a ccd cl outer).deeper (envOf qual scope L' f cdv)) g L' k :=
    ⟨dp + 1, un + 3, _, qual, scope, f, cdv, [], _, _, base, rfl, B', hk, by omega, by omega⟩
  refine wpAny_mono (h _ g L' { s with heap := h₁, toks := s.toks + binds.length } s.toks hp (Nat.le_refl _) H' H'.handled Same.rfl F' N' ⟨X', loose, mean, mg, mb, T'⟩ (fun fl s' => LeaveK h₀ L m g _ (match fl with | .ret v => v | _ => .none) s') (fun v s' m' tl S2 t2 F2 N2 r => ?_)) (fun fl s' r => r) fun _ _ e => e.elim
  exact leaveK_ F2 N2 fun F3 N3 => ret _ tl s' S2 t2 F3 N3 r
section
variable {w : World} {A : Around} {E : Value → Shared → Prop} {s : Shared}
/-- the next pair of an enumerate over a str: the sign is made first -/
theorem next_pair {e it : Addr} {x : Str} {t : Tok} {i c : Nat} {old : Value} {Q : Option Value → Shared → Prop}
    (he : IsEnum s.heap e it i old) (hit : s.heap.IsStrIter it "str_ascii_iterator" x t i) (hx : x.cps[i]? = some c) (hne : e ≠ it)
    (hQ : ∀ h', IsEnumOut h' e it ((i : Int) + 1) (.str ⟨#[c]⟩ s.toks) s.heap.objs.size → h'.IsStrIter it "str_ascii_iterator" x t (i + 1) →
      h'.get? s.heap.objs.size = some { cls := .type "tuple", data := .seq #[.int i (s.toks + 1), .str ⟨#[c]⟩ s.toks] } →
      (∀ b o, b ≠ e → b ≠ it → s.heap.get? b = some o → h'.get? b = some o) → Q (some (.ref s.heap.objs.size)) { s with heap := h', toks := s.toks + 2 }) :
    wpAny (model Prg w) A (pyNext (.ref e)) Q E s := by
  obtain ⟨hp, g, d, tk, os⟩ := s
  have hT : (⟨hp, g, d, tk, os⟩ : Shared).TypeIs (.ref e) "enumerate" := ⟨_, he, rfl⟩
  unfold pyNext
  refine wpAny_bind (wpAny_attempt (wpAny_callSpecial?_slot (name := Str.ofString "__next__") hT F.slot_enumerate_next (wpAny_call_entry F.slot_enumerate_next hT F.entry_enumerate_next ?_ (F.args_enumerate_next_1 _))))
  show wpAny _ _ (field (.ref e) 2 >>= _) _ _ _
  refine wpAny_bind (wpAny_field he rfl (x := .ref it) rfl ?_)
  refine wpAny_bind (wpAny_nextOf_ascii_item hit hx fun h1 i1 k1 => ?_)
  have k1 : Heap.SameBut it hp h1 := k1
  have e1 : IsEnum h1 e it i old := (k1.2 e hne).trans he
  show wpAny _ _ (field (.ref e) 3 >>= _) _ _ ⟨h1, g, d, tk + 1, os⟩
  refine wpAny_bind (wpAny_field e1 rfl (x := rawInt i) rfl ?_)
  show wpAny _ _ (field (.ref e) 4 >>= _) _ _ ⟨h1, g, d, tk + 1, os⟩
  refine wpAny_bind (wpAny_field e1 rfl (x := .none) rfl ?_)
  show wpAny _ _ (mkInt i >>= _) _ _ ⟨h1, g, d, tk + 1, os⟩
  refine wpAny_bind (wpAny_mkInt ?_)
  show wpAny _ _ (setField (.ref e) 3 (rawInt ((i : Int) + 1)) >>= _) _ _ ⟨h1, g, d, tk + 2, os⟩
  refine wpAny_bind (wpAny_setField_rec e1 (by simp) fun h2 e2 k2 => ?_)
  have k2 : Heap.SameBut e h1 h2 := k2
  have e2 : IsEnum h2 e it ((i : Int) + 1) old := e2
  show wpAny _ _ (setField (.ref e) 4 .none >>= _) _ _ ⟨h2, g, d, tk + 2, os⟩
  refine wpAny_bind (wpAny_setField_rec e2 (by simp) fun h3 e3 k3 => ?_)
  have k3 : Heap.SameBut e h2 h3 := k3
  have e3 : IsEnum h3 e it ((i : Int) + 1) old := e3
  show wpAny _ _ (newTuple [.int i (tk + 1), .str ⟨#[c]⟩ tk] >>= _) _ _ ⟨h3, g, d, tk + 2, os⟩
  refine wpAny_bind (wpAny_newTuple ?_)
  have z3 : h3.objs.size = hp.objs.size := by rw [k3.1, k2.1, k1.1]
  have le : e < hp.objs.size := Heap.lt_size he
  obtain ⟨oi, hoi, hoc⟩ := i1
  have li : it < hp.objs.size := by have := Heap.lt_size hoi; rw [k1.1] at this; exact this
  generalize hh4 : h3.push { cls := .type "tuple", data := .seq #[.int i (tk + 1), .str ⟨#[c]⟩ tk] } = h4
  have up : ∀ b o, h3.get? b = some o → h4.get? b = some o := fun b o q => by rw [← hh4]; exact Heap.get?_push_of_some _ q
  have t4 : h4.get? hp.objs.size = some { cls := .type "tuple", data := .seq #[.int i (tk + 1), .str ⟨#[c]⟩ tk] } := by rw [← hh4, ← z3]; exact Heap.get?_push_size _ rfl
  have e4 : IsEnum h4 e it ((i : Int) + 1) old := up _ _ e3
  have o4 : h4.get? it = some oi := up _ _ (k3.extBut _ _ (Ne.symm hne) (k2.extBut _ _ (Ne.symm hne) hoi))
  have all4 : ∀ b o, b ≠ e → b ≠ it → hp.get? b = some o → h4.get? b = some o := fun b o q1 q2 q => up _ _ (k3.extBut b o q1 (k2.extBut b o q1 (k1.extBut b o q2 q)))
  show wpAny _ _ (Builtin.SmallTypes.ownedTupleIsFree (.ref e) >>= _) _ _ ⟨h4, g, d, tk + 2, os⟩
  rw [z3]
  refine wpAny_bind ?_
  unfold Builtin.SmallTypes.ownedTupleIsFree
  refine wpAny_bind (wpAny_field e4 rfl (x := .none) rfl (wpAny_pure ?_))
  simp only [if_true]
  refine wpAny_bind (wpAny_rule ?_)
  refine wpAny_bind (wpAny_field e4 rfl (x := old) rfl ?_)
  refine wpAny_bind (wpAny_setField_rec e4 (by simp) fun h5 e5 k5 => ?_)
  have k5 : Heap.SameBut e h4 h5 := k5
  have e5 : IsEnum h5 e it ((i : Int) + 1) (.str ⟨#[c]⟩ tk) := e5
  show wpAny _ _ (Builtin.SmallTypes.ownedTupleHandOut (.ref e) (.ref hp.objs.size) >>= _) _ _ ⟨h5, g, d, tk + 2, os⟩
  refine wpAny_bind ?_
  unfold Builtin.SmallTypes.ownedTupleHandOut
  refine wpAny_bind (wpAny_setField_rec e5 (by simp) fun h6 e6 k6 => ?_)
  have k6 : Heap.SameBut e h5 h6 := k6
  have e6 : IsEnumOut h6 e it ((i : Int) + 1) (.str ⟨#[c]⟩ tk) hp.objs.size := e6
  refine wpAny_setField_rec e6 (by simp) fun h7 e7 k7 => ?_
  have k7 : Heap.SameBut e h6 h7 := k7
  have e7 : IsEnumOut h7 e it ((i : Int) + 1) (.str ⟨#[c]⟩ tk) hp.objs.size := e7
  have on : ∀ b o, b ≠ e → h4.get? b = some o → h7.get? b = some o := fun b o q1 q => k7.extBut b o q1 (k6.extBut b o q1 (k5.extBut b o q1 q))
  exact wpAny_bind (wpAny_letGo (wpAny_pure ⟨_, rfl, wpAny_pure (hQ h7 e7 ⟨oi, on _ _ (Ne.symm hne) o4, hoc⟩ (on _ _ (Nat.ne_of_gt le) t4) fun b o q1 q2 q => on b o q1 (all4 b o q1 q2 q))⟩))
/-- a loop over enumerate of a str that leaves by a return at place p -/
theorem loop_pair {env : Env} {g : Heap} {news : List (Addr × Obj)} {m : Str → Option Value} {xi xj xb : Str} {pi pj pt : Pos} {x1 : Nat} {body orelse : List Stmt} {x y : Str} {t u : Tok} {p : Nat} {e it : Addr} {R : Result → Shared → Prop} {s₀ : Shared}
    (hh : A.handled = none) (hxi : env.kindOf xi = some .local) (hxj : env.kindOf xj = some .local) (hbi : xb ≠ xi) (hbj : xb ≠ xj)
    (hp : (env.scope.kind == .class || (env.scope.kind == .module && env.locals != env.globals)) = false)
    (he : IsEnum s.heap e it 0 .none) (hit : s.heap.IsStrIter it "str_ascii_iterator" x t 0) (hne : e ≠ it) (heL : e ≠ env.locals) (hiL : it ≠ env.locals) (heg : g.get? e = none) (hig : g.get? it = none)
    (hen : ∀ q ∈ news, q.1 ≠ e ∧ q.1 ≠ it) (hpx : p < x.cps.size)
    (S : Same s₀ s) (F : Fr g env.locals s.heap m) (N : News g env.locals s.heap news) (hb : m xb = some (.str y u))
    (turn : ∀ (i c tk : Nat) (m₁ : Str → Option Value) (s₁ : Shared), i ≤ p → x.cps[i]? = some c → s.toks ≤ tk → tk + 1 < s₁.toks → Same s₀ s₁ → m₁ xb = some (.str y u) →
      Fr g env.locals s₁.heap (fun z => if z = xj then some (.str ⟨#[c]⟩ tk) else if z = xi then some (.int i (tk + 1)) else m₁ z) → News g env.locals s₁.heap news →
      wpAny (model Prg w) A (execs body env) (fun f s₃ => match f with
        | .next => i < p ∧ ∃ k, s₃ = { s₁ with toks := k } ∧ s₁.toks ≤ k
        | .ret v => R (.ok (.ret v)) s₃
        | _ => False) (notedBy (model Prg w) A env fun e s' => R (.error e) s') s₁) :
    codeAny (model Prg w) A (.forLoop (.Tuple [.Name xi pi, .Name xj pj] x1 pt) (.ref e) body orelse env) R s := by
  refine codeAny_forLoop_any (fun k s' => ∃ h' tk m' i old, s' = { s with heap := h', toks := tk } ∧ s.toks ≤ tk ∧ IsEnum h' e it ((i : Nat) : Int) old ∧ h'.IsStrIter it "str_ascii_iterator" x t i ∧ Fr g env.locals h' m' ∧ News g env.locals h' news ∧ m' xb = some (.str y u) ∧ i ≤ p ∧ k = p + 1 - i) ?_ (p + 1)
    ⟨s.heap, s.toks, m, 0, .none, rfl, Nat.le_refl _, he, hit, F, N, hb, Nat.zero_le _, rfl⟩
  rintro k s' ⟨H, tk, m', i, old, rfl, hu', he', hit', F', N', hb', hi, rfl⟩
  obtain ⟨c, hc⟩ : ∃ c, x.cps[i]? = some c := ⟨x.cps[i]'(by omega), Array.getElem?_eq_getElem (by omega)⟩
  refine next_pair he' hit' hc hne fun h1 e1 i1 t1 k1 => ?_
  have e1 : IsEnumOut h1 e it ((i : Int) + 1) (.str ⟨#[c]⟩ tk) H.objs.size := e1
  have le : e < H.objs.size := Heap.lt_size he'
  have li : it < H.objs.size := by obtain ⟨o, q, _⟩ := hit'; exact Heap.lt_size q
  have lL : env.locals < H.objs.size := F'.ns.lt
  refine wpAny_letOwnedTupleGo_enum e1 fun h2 e2 k2 => ?_
  have k2 : Heap.SameBut e h1 h2 := k2
  have t2 : h2.IsTuple H.objs.size #[.int i (tk + 1), .str ⟨#[c]⟩ tk] := ⟨_, k2.extBut _ _ (Ne.symm (Nat.ne_of_lt le)) t1, rfl, _, rfl⟩
  refine wpAny_assign_Tuple hh t2 rfl rfl fun h3 k3 => ?_
  have up : ∀ b o, b ≠ e → b ≠ it → H.get? b = some o → h3.get? b = some o := fun b o q1 q2 q => by
    have q3 := k2.extBut b o q1 (k1 b o q1 q2 q)
    exact k3 b o (Nat.ne_of_lt (Heap.lt_size q3)) q3
  have e3 : IsEnum h3 e it ((i : Int) + 1) (.str ⟨#[c]⟩ tk) := k3 _ _ (Nat.ne_of_lt (Heap.lt_size e2)) e2
  have i3 : h3.IsStrIter it "str_ascii_iterator" x t (i + 1) := by
    obtain ⟨o, q, qc⟩ := i1
    have q2 := k2.extBut it o (Ne.symm hne) q
    exact ⟨o, k3 _ _ (Nat.ne_of_lt (Heap.lt_size q2)) q2, qc⟩
  have F3 : Fr g env.locals h3 m' := ⟨F'.ns.at' fun o q => up _ o (Ne.symm heL) (Ne.symm hiL) q, fun b o q => up b o (fun z => by rw [z, heg] at q; cases q) (fun z => by rw [z, hig] at q; cases q) (F'.keep b o q), F'.above⟩
  have N3 : News g env.locals h3 news := fun q hq => ⟨up _ _ (hen q hq).1 (hen q hq).2 (N' q hq).1, (N' q hq).2⟩
  show wpAny _ A (do holding [.str ⟨#[c]⟩ tk] (assign (.Name xi pi) env (.int i (tk + 1))); do holding [] (assign (.Name xj pj) env (.str ⟨#[c]⟩ tk)); pure ()) _ _ _
  refine wpAny_bind (wpAny_holding (wpAny_assign_Name (wpAny_storeName_local hxi F3.ns (fun h4 n4 k4 => ?_) hp)))
  have k4 : Heap.SameBut env.locals h3 h4 := k4
  have F4 := F3.set n4 k4
  refine wpAny_bind (wpAny_holding (wpAny_assign_Name (wpAny_storeName_local hxj F4.ns (fun h5 n5 k5 => wpAny_pure ?_) hp)))
  have k5 : Heap.SameBut env.locals h4 h5 := k5
  have F5 := F4.set n5 k5
  have N5 := (N3.set k4).set k5
  refine wpAny_mono (turn i c tk m' _ hi hc hu' (Nat.lt_succ_of_lt (Nat.lt_succ_of_le (Nat.le_succ _))) S hb' F5 N5) (fun f s₃ h => ?_) fun _ _ q => q
  cases f with
  | next =>
    obtain ⟨hip, k, rfl, hk⟩ := h
    refine ⟨p + 1 - (i + 1), Nat.sub_lt_sub_left (Nat.lt_succ_of_lt hip) (Nat.lt_succ_self i), h5, k, (fun z => if z = xj then some (.str ⟨#[c]⟩ tk) else if z = xi then some (.int i (tk + 1)) else m' z), i + 1, .str ⟨#[c]⟩ tk, rfl, ?_, ?_, ?_, F5, N5, ?_, hip, rfl⟩
    · exact Nat.le_trans hu' (Nat.le_trans (Nat.le_add_right tk 4) hk)
    · exact k5.extBut _ _ heL (k4.extBut _ _ heL (by simpa using e3))
    · obtain ⟨o, q, qc⟩ := i3
      exact ⟨o, k5.extBut _ _ hiL (k4.extBut _ _ hiL q), qc⟩
    · simp only [if_neg hbj, if_neg hbi, hb']
  | ret v => exact h
  | cont => exact h.elim
  | brk => exact h.elim
/-- `is` of two strs made at two places: of one text it may be either -/
theorem is_str {y z : Str} {u v : Tok} {Q : Value → Shared → Prop} (hu : u ≠ 0) (hv : v ≠ 0) (huv : u ≠ v) (hb : NoneBooked s.heap) (hq : ∀ b : Bool, (b = true → y = z) → Q (.bool b) s) : wpAny (model Prg w) A (compareOp .Is (.str y u) (.str z v)) Q E s := by
  have h0 : (u == 0 || v == 0) = false := by simp [hu, hv]
  show wpAny _ _ (do return .bool (← isSame (.str y u) (.str z v))) Q E s
  refine wpAny_bind ?_
  by_cases e : y = z
  · exact wpAny_isSame_str h0 hb fun b => wpAny_pure (hq b fun _ => e)
  · rw [isSame_str_other y z u v h0 (beq_false_of_ne huv) (beq_false_of_ne e)]
    exact wpAny_pure (wpAny_pure (hq false fun h => by cases h))
end
end Mine
set_option maxHeartbeats 4000000
namespace Mine
theorem fill14 : True := by
  w_top off
  exact True.intro
theorem cont_c (w : World) (news : List (Addr × Obj)) (x y : Str) (t u : Tok) : ConT w 1 77 [.str x t, .str y u] (fun _ => True) news (fun tl r => tl = [] ∧ r = .bool (!(Builtin.Str.occurrences x y 0 x.length 1).isEmpty)) := by
  refine' ConT.of (binds := [(Str.ofString "a", .str x t), (Str.ofString "b", .str y u)]) ?ho ?hbd ?hsc ?hcd ?hb ?hl ?hco ?hg ?hk ?hc ?hbody
  case' ho => k_is
  case' hbd => (conv => rhs; whnf)
  case' hsc => (conv => rhs; whnf)
  case' hcd => k_is
  case' hb => exact rfl
  case' hl => exact locs rfl
  case' hco => exact rfl
  case' hg => exact rfl
  case' hk => exact rfl
  case' hc => decide
  intro A g L s n0 hn0 ht H hh S F N G Q hQ
  have X := G.x
  obtain ⟨loose, mean, mg, mb, T⟩ := G.t
  (try dsimp only)
  repeat' (first
    | (k_unfold; (try dsimp only))
    | ((with_reducible show wpAny _ _ (eval (Expr.Call (Expr.Name _ _) _ [] _) _) _ _ _); refine Call_ ?_)
    | (walk1) | (dsimp only; walk1) | fail "no step")
  all_goals (refine hQ _ _ _ [] (by assumption) ?_ (by assumption) (by assumption) ⟨rfl, rfl⟩; (try simp only [List.length_cons, List.length_nil] at ht); (try dsimp only); omega)
def tokKeys : List (Str × Int) := [(⟨#[33]⟩, 54), (⟨#[33, 61]⟩, 28), (⟨#[37]⟩, 24), (⟨#[37, 61]⟩, 40), (⟨#[38]⟩, 19), (⟨#[38, 61]⟩, 41), (⟨#[40]⟩, 7), (⟨#[41]⟩, 8), (⟨#[42]⟩, 16), (⟨#[42, 42]⟩, 35), (⟨#[42, 42, 61]⟩, 46), (⟨#[42, 61]⟩, 38), (⟨#[43]⟩, 14), (⟨#[43, 61]⟩, 36), (⟨#[44]⟩, 12), (⟨#[45]⟩, 15), (⟨#[45, 61]⟩, 37), (⟨#[45, 62]⟩, 51), (⟨#[46]⟩, 23), (⟨#[46, 46, 46]⟩, 52), (⟨#[47]⟩, 17), (⟨#[47, 47]⟩, 47), (⟨#[47, 47, 61]⟩, 48), (⟨#[47, 61]⟩, 39), (⟨#[58]⟩, 11), (⟨#[58, 61]⟩, 53), (⟨#[59]⟩, 13), (⟨#[60]⟩, 20), (⟨#[60, 60]⟩, 33), (⟨#[60, 60, 61]⟩, 44), (⟨#[60, 61]⟩, 29), (⟨#[61]⟩, 22), (⟨#[61, 61]⟩, 27), (⟨#[62]⟩, 21), (⟨#[62, 61]⟩, 30), (⟨#[62, 62]⟩, 34), (⟨#[62, 62, 61]⟩, 45), (⟨#[64]⟩, 49), (⟨#[64, 61]⟩, 50), (⟨#[91]⟩, 9), (⟨#[93]⟩, 10), (⟨#[94]⟩, 32), (⟨#[94, 61]⟩, 43), (⟨#[123]⟩, 25), (⟨#[124]⟩, 18), (⟨#[124, 61]⟩, 42), (⟨#[125]⟩, 26), (⟨#[126]⟩, 31)]
def inTok (y : Str) : Bool := tokKeys.any fun k => decide (y = k.1)
theorem contd_c (w : World) (news : List (Addr × Obj)) (y : Str) (u : Tok) : Con w 1 77 [.ref 92, .str y u] news (fun tl r => tl = [] ∧ r = .bool (inTok y)) := by
  refine' Con.of (binds := [(Str.ofString "a", .ref 92), (Str.ofString "b", .str y u)]) ?ho ?hbd ?hsc ?hcd ?hb ?hl ?hco ?hg ?hk ?hc ?hbody
  case' ho => k_is
  case' hbd => (conv => rhs; whnf)
  case' hsc => (conv => rhs; whnf)
  case' hcd => k_is
  case' hb => exact rfl
  case' hl => exact locs rfl
  case' hco => exact rfl
  case' hg => exact rfl
  case' hk => exact rfl
  case' hc => decide
  intro A g L s H hh S F N G ht Q hQ
  have X := G.x
  obtain ⟨loose, mean, mg, mb, T⟩ := G.t
  (try dsimp only)
  repeat' (first
    | (k_unfold; (try dsimp only))
    | ((with_reducible show wpAny _ _ (eval (Expr.Call (Expr.Name _ _) _ [] _) _) _ _ _); refine Call_ ?_)
    | (walk1) | (dsimp only; walk1) | fail "no step")
  all_goals (refine hQ _ _ _ [] (by assumption) (by assumption) (by assumption) ⟨rfl, rfl⟩)
theorem getd_40 (w : World) (news : List (Addr × Obj)) (u : Tok) : Con w 1 84 [.ref 92, .str ⟨#[40]⟩ u] news (fun tl r => tl = [] ∧ ∃ t, r = .int 7 t) := by
  refine' Con.of (binds := [(Str.ofString "a", .ref 92), (Str.ofString "b", .str ⟨#[40]⟩ u)]) ?ho ?hbd ?hsc ?hcd ?hb ?hl ?hco ?hg ?hk ?hc ?hbody
  case' ho => k_is
  case' hbd => (conv => rhs; whnf)
  case' hsc => (conv => rhs; whnf)
  case' hcd => k_is
  case' hb => exact rfl
  case' hl => exact locs rfl
  case' hco => exact rfl
  case' hg => exact rfl
  case' hk => exact rfl
  case' hc => decide
  intro A g L s H hh S F N G ht Q hQ
  have X := G.x
  obtain ⟨loose, mean, mg, mb, T⟩ := G.t
  (try dsimp only)
  repeat' (first
    | (k_unfold; (try dsimp only))
    | ((with_reducible show wpAny _ _ (eval (Expr.Call (Expr.Name _ _) _ [] _) _) _ _ _); refine Call_ ?_)
    | (walk1) | (dsimp only; walk1) | fail "no step")
  all_goals (exact hQ _ _ _ [] (by assumption) (by assumption) (by assumption) ⟨rfl, _, rfl⟩)
theorem getd_41 (w : World) (news : List (Addr × Obj)) (u : Tok) : Con w 1 84 [.ref 92, .str ⟨#[41]⟩ u] news (fun tl r => tl = [] ∧ ∃ t, r = .int 8 t) := by
  refine' Con.of (binds := [(Str.ofString "a", .ref 92), (Str.ofString "b", .str ⟨#[41]⟩ u)]) ?ho ?hbd ?hsc ?hcd ?hb ?hl ?hco ?hg ?hk ?hc ?hbody
  case' ho => k_is
  case' hbd => (conv => rhs; whnf)
  case' hsc => (conv => rhs; whnf)
  case' hcd => k_is
  case' hb => exact rfl
  case' hl => exact locs rfl
  case' hco => exact rfl
  case' hg => exact rfl
  case' hk => exact rfl
  case' hc => decide
  intro A g L s H hh S F N G ht Q hQ
  have X := G.x
  obtain ⟨loose, mean, mg, mb, T⟩ := G.t
  (try dsimp only)
  repeat' (first
    | (k_unfold; (try dsimp only))
    | ((with_reducible show wpAny _ _ (eval (Expr.Call (Expr.Name _ _) _ [] _) _) _ _ _); refine Call_ ?_)
    | (walk1) | (dsimp only; walk1) | fail "no step")
  all_goals (exact hQ _ _ _ [] (by assumption) (by assumption) (by assumption) ⟨rfl, _, rfl⟩)
theorem getd_38 (w : World) (news : List (Addr × Obj)) (u : Tok) : Con w 1 84 [.ref 92, .str ⟨#[38]⟩ u] news (fun tl r => tl = [] ∧ ∃ t, r = .int 19 t) := by
  refine' Con.of (binds := [(Str.ofString "a", .ref 92), (Str.ofString "b", .str ⟨#[38]⟩ u)]) ?ho ?hbd ?hsc ?hcd ?hb ?hl ?hco ?hg ?hk ?hc ?hbody
  case' ho => k_is
  case' hbd => (conv => rhs; whnf)
  case' hsc => (conv => rhs; whnf)
  case' hcd => k_is
  case' hb => exact rfl
  case' hl => exact locs rfl
  case' hco => exact rfl
  case' hg => exact rfl
  case' hk => exact rfl
  case' hc => decide
  intro A g L s H hh S F N G ht Q hQ
  have X := G.x
  obtain ⟨loose, mean, mg, mb, T⟩ := G.t
  (try dsimp only)
  repeat' (first
    | (k_unfold; (try dsimp only))
    | ((with_reducible show wpAny _ _ (eval (Expr.Call (Expr.Name _ _) _ [] _) _) _ _ _); refine Call_ ?_)
    | (walk1) | (dsimp only; walk1) | fail "no step")
  all_goals (exact hQ _ _ _ [] (by assumption) (by assumption) (by assumption) ⟨rfl, _, rfl⟩)
theorem getd_124 (w : World) (news : List (Addr × Obj)) (u : Tok) : Con w 1 84 [.ref 92, .str ⟨#[124]⟩ u] news (fun tl r => tl = [] ∧ ∃ t, r = .int 18 t) := by
  refine' Con.of (binds := [(Str.ofString "a", .ref 92), (Str.ofString "b", .str ⟨#[124]⟩ u)]) ?ho ?hbd ?hsc ?hcd ?hb ?hl ?hco ?hg ?hk ?hc ?hbody
  case' ho => k_is
  case' hbd => (conv => rhs; whnf)
  case' hsc => (conv => rhs; whnf)
  case' hcd => k_is
  case' hb => exact rfl
  case' hl => exact locs rfl
  case' hco => exact rfl
  case' hg => exact rfl
  case' hk => exact rfl
  case' hc => decide
  intro A g L s H hh S F N G ht Q hQ
  have X := G.x
  obtain ⟨loose, mean, mg, mb, T⟩ := G.t
  (try dsimp only)
  repeat' (first
    | (k_unfold; (try dsimp only))
    | ((with_reducible show wpAny _ _ (eval (Expr.Call (Expr.Name _ _) _ [] _) _) _ _ _); refine Call_ ?_)
    | (walk1) | (dsimp only; walk1) | fail "no step")
  all_goals (exact hQ _ _ _ [] (by assumption) (by assumption) (by assumption) ⟨rfl, _, rfl⟩)
theorem idx_c (w : World) (news : List (Addr × Obj)) (c : Nat) (t u : Tok) (h1 : 97 ≤ c) (h2 : c < 101) : ConT w 1 91 [.str (Str.ofString "abcd") t, .str ⟨#[c]⟩ u] (fun n => u < n ∧ u ≠ 0) news (fun tl r => tl = [] ∧ ∃ t, r = .int ((c : Int) - 97) t) := by
  refine' ConT.of (binds := [(Str.ofString "a", .str (Str.ofString "abcd") t), (Str.ofString "b", .str ⟨#[c]⟩ u)]) ?ho ?hbd ?hsc ?hcd ?hb ?hl ?hco ?hg ?hk ?hc ?hbody
  case' ho => k_is
  case' hbd => (conv => rhs; whnf)
  case' hsc => (conv => rhs; whnf)
  case' hcd => k_is
  case' hb => exact rfl
  case' hl => exact locs rfl
  case' hco => exact rfl
  case' hg => exact rfl
  case' hk => exact rfl
  case' hc => decide
  intro A g L s n0 hn0 ht H hh S F N G Q hQ
  have X := G.x
  obtain ⟨loose, mean, mg, mb, T⟩ := G.t
  (try dsimp only)
  repeat' (first
    | (k_unfold; (try dsimp only))
    | ((with_reducible show wpAny _ _ (eval (Expr.Call (Expr.Name _ _) _ [] _) _) _ _ _); refine Call_ ?_)
    | (walk1) | (dsimp only; walk1) | fail "no step")
  refine wpAny_For ?_ (fun _ => rfl)
  repeat' (first
    | (k_unfold; (try dsimp only))
    | ((with_reducible show wpAny _ _ (eval (Expr.Call (Expr.Name _ _) _ [] _) _) _ _ _); refine Call_ ?_)
    | (walk1) | (dsimp only; walk1) | fail "no step")
  have hb := booked G F
  refine call_enumerate_str fun h' he hit hz hk => ?_
  refine wpAny_pyIter_enum he ?_
  have F' : Fr g L h' _ := ⟨F.ns.keeps hk, fun b o e => hk b o (F.keep b o e), F.above⟩
  have N' : News g L h' news := fun p hp => ⟨hk _ _ (N p hp).1, (N p hp).2⟩
  rw [show strIterType (Str.ofString "abcd") = "str_ascii_iterator" from by decide +kernel] at hit
  have hcps : (Str.ofString "abcd").cps = #[97, 98, 99, 100] := by decide +kernel
  have lL : L < s.heap.objs.size := F.ns.lt
  have lg : g.objs.size ≤ s.heap.objs.size := Nat.le_trans F.above (Nat.le_of_lt lL)
  refine loop_pair (s₀ := s) (p := c - 97) (xb := Str.ofString "b") (y := ⟨#[c]⟩) (u := u) (x := Str.ofString "abcd") (t := t) (news := news) hh rfl rfl (by decide) (by decide) rfl he hit (Nat.succ_ne_self _) (Nat.ne_of_gt (Nat.lt_succ_of_lt lL)) (Nat.ne_of_gt lL) (Heap.get?_none_of_le (Nat.le_succ_of_le lg)) (Heap.get?_none_of_le lg) (fun q hq => ?_) ?_ S F' N' rfl ?_
  · have := Heap.lt_size (N q hq).1
    exact ⟨Nat.ne_of_lt (Nat.lt_succ_of_lt this), Nat.ne_of_lt this⟩
  · rw [hcps]; show c - 97 < 4; omega
  · intro i c' tk m1 s1 hi hx hu1 htk S1 hb1 F1 N1
    have hc' : c' = 97 + i := by
      rw [hcps] at hx
      have hi4 : i = 0 ∨ i = 1 ∨ i = 2 ∨ i = 3 := by omega
      rcases hi4 with rfl | rfl | rfl | rfl <;> (simp at hx; omega)
    have hb := booked G F1
    simp only [List.length_cons, List.length_nil] at ht
    have ht0 : n0 ≤ tk := Nat.le_trans (by omega : n0 ≤ s.toks) hu1
    have hu2 : u < tk := Nat.lt_of_lt_of_le hn0.1 ht0
    have htk0 : tk ≠ 0 := Nat.ne_of_gt (Nat.lt_of_le_of_lt (Nat.zero_le u) hu2)
    repeat' (first
      | (k_unfold; (try dsimp only))
      | ((with_reducible show wpAny _ _ (eval (Expr.Call (Expr.Name _ _) _ [] _) _) _ _ _); refine Call_ ?_)
      | ((with_reducible show wpAny _ _ (eval (Expr.Name _ _) _) _ _ _); k_dflt (refine' nameX_L ?nmF ?nmv ?_ ?nma ?nmb; (case nmF => k_asm); (case nma => rfl); (case nmb => rfl); (case nmv => first | rfl | assumption); k_whole); walk_say "NAMEH")
      | ((with_reducible show wpAny _ _ (compareOp CmpOp.Is _ _) _ _ _); refine is_str htk0 hn0.2 (Ne.symm (Nat.ne_of_lt hu2)) hb ?_; intro b9 hb9; cases b9; (try dsimp only))
      | (walk1) | (dsimp only; walk1) | fail "no step")
    · have e9 : c' = c := by (rename (_ == _) = true => q; have q := eq_of_beq q; simpa using q)
      have e10 : (i : Int) = (c : Int) - 97 := by omega
      rw [e10]
      exact hQ _ _ _ [] (by assumption) (Nat.le_trans ht0 (Nat.le_of_lt (Nat.lt_trans (Nat.lt_succ_self tk) htk))) (by assumption) (by assumption) ⟨rfl, _, rfl⟩
    · have e9 : c' ≠ c := by (intro e; rename (_ == _) = false => q; rw [e] at q; simp at q)
      omega
    · have e9 : c' = c := by simpa using hb9 rfl
      have e10 : (i : Int) = (c : Int) - 97 := by omega
      rw [e10]
      exact hQ _ _ _ [] (by assumption) (Nat.le_trans ht0 (Nat.le_of_lt (Nat.lt_trans (Nat.lt_succ_self tk) htk))) (by assumption) (by assumption) ⟨rfl, _, rfl⟩
end Mine
set_option maxHeartbeats 4000000
namespace Mine
theorem fill16 : True := by
  w_top off
  exact True.intro
local macro_rules | `(tactic| k_mem) => `(tactic| ((repeat (first | assumption | exact List.Mem.head _ | apply List.Mem.tail)); done))
section
variable {w : World} {A : Around} {E : Value → Shared → Prop} {env : Env} {g : Heap} {L : Addr} {m : Str → Option Value} {news : List (Addr × Obj)} {s₀ s : Shared} {Q : Flow → Shared → Prop}
/-- a while loop over any state of these facts -/
theorem whileS {test : PySem.Expr} {body : List Stmt} {pos : Pos} (J : Nat → (Str → Option Value) → List (Addr × Obj) → Prop) {n₀ : Nat} (S : Same s₀ s) (F : Fr g L s.heap m) (N : News g L s.heap news) (hJ : J n₀ m news)
    (turn : ∀ n m₁ nx s₁, Same s₀ s₁ → Fr g L s₁.heap m₁ → News g L s₁.heap nx → J n m₁ nx → ∀ Q' : Flow → Shared → Prop, (∀ s' m' nx' n', Same s₀ s' → Fr g L s'.heap m' → News g L s'.heap nx' → n' < n → J n' m' nx' → Q' .next s') →
      wpAny (model Prg w) A (isTrue test env (eval test env)) (fun b s₂ => if b = true then wpAny (model Prg w) A (execs body env) Q' E s₂ else Q .next s₂) E s₁)
    (hE : PassesOwn (model Prg w) A env E) : wpAny (model Prg w) A (exec (.While test body [] pos) env) Q E s := by
  refine While_inv J F N hJ (fun n m₁ nx h₁ tk₁ F₁ N₁ J₁ => turn n m₁ nx { s with heap := h₁, toks := tk₁ } S F₁ N₁ J₁ _ fun s' m' nx' n' S' F' N' hn hJ' => ⟨rfl, s'.heap, s'.toks, m', nx', n', ?_, F', N', hn, hJ'⟩) hE
  have e := S'.is
  obtain ⟨q1, q2, q3⟩ := S
  rw [← q1, ← q2, ← q3] at e
  exact e
end
theorem ConT.use {w : World} {k : Nat} {f : Addr} {vs : List Value} {P : Nat → Prop} {news : List (Addr × Obj)} {R : List (Addr × Obj) → Value → Prop} (C : ConT w k f vs P news R) {j : Nat} {A : Around} {h₀ : Heap} {L : Addr} {m : Str → Option Value} {s₀ s : Shared} {Q E : Value → Shared → Prop}
    (H : Here A h₀ L j) (hj : k ≤ j) (S : Same s₀ s) (F : Fr h₀ L s.heap m) (N : News h₀ L s.heap news) (G : Gnd w h₀) (hp : P s.toks)
    (ret : ∀ r tl s', Same s₀ s' → s.toks ≤ s'.toks → Fr h₀ L s'.heap m → News h₀ L s'.heap (tl ++ news) → R tl r → Q r s') : wpAny (model Prg w) A (call (.ref f) vs) Q E s := C A h₀ L m s Q E (H.le hj) F N G hp fun r tl s' S' => ret r tl s' (S.trans S')
/-- the number that a sign is told by -/
def codeOf (c : Nat) : Int := if c = 40 then 7 else if c = 41 then 8 else if c = 38 then 19 else if c = 124 then 18 else 256 + ((c : Int) - 97)
def alphas : List Nat := [40, 41, 38, 124, 97, 98, 99, 100]
theorem occ_all : (alphas.all fun c => decide (c ∈ (Str.ofString "abcd").cps.toList) == (decide (97 ≤ c) && decide (c < 101))) = true := by decide +kernel
theorem cont_l (w : World) (news : List (Addr × Obj)) (c : Nat) (t u : Tok) (hc : c ∈ alphas) : ConT w 1 77 [.str (Str.ofString "abcd") t, .str ⟨#[c]⟩ u] (fun _ => True) news (fun tl r => tl = [] ∧ r = .bool (decide (97 ≤ c) && decide (c < 101))) := by
  have q := cont_c w news (Str.ofString "abcd") ⟨#[c]⟩ t u
  rwa [StrLaws.found_one, eq_of_beq (List.all_eq_true.mp occ_all c hc)] at q
theorem getd_c (w : World) (news : List (Addr × Obj)) (c : Nat) (u : Tok) (hc : c ∈ [40, 41, 38, 124]) : Con w 1 84 [.ref 92, .str ⟨#[c]⟩ u] news (fun tl r => tl = [] ∧ ∃ t, r = .int (codeOf c) t) := by
  simp only [List.mem_cons, List.not_mem_nil, or_false] at hc
  rcases hc with rfl | rfl | rfl | rfl
  · exact getd_40 w news u
  · exact getd_41 w news u
  · exact getd_38 w news u
  · exact getd_124 w news u
def cut (x : Str) (k n : Nat) : Str := Txt.slice x (some (k : Int)) (some ((k : Int) + (n : Int)))
/-- a text whose signs are told one by one -/
def symOk (x : Str) : Bool := decide (x.cps.size ≤ 100) && (List.range x.cps.size).all fun k => match x.cps[k]? with
  | none => false
  | some c => alphas.contains c && ((decide (97 ≤ c) && decide (c < 101)) || ((inTok (cut x k 3) && cut x k 3 == ⟨#[c]⟩ && decide (k + 1 = x.cps.size)) || (!inTok (cut x k 3) && !inTok (cut x k 2) && cut x k 1 == ⟨#[c]⟩)))
theorem symOk.sign {x : Str} (h : symOk x = true) {k c : Nat} (hc : x.cps[k]? = some c) : c ∈ alphas ∧ ((decide (97 ≤ c) && decide (c < 101)) = false → (inTok (cut x k 3) = true ∧ cut x k 3 = ⟨#[c]⟩ ∧ k + 1 = x.cps.size) ∨ (inTok (cut x k 3) = false ∧ inTok (cut x k 2) = false ∧ cut x k 1 = ⟨#[c]⟩)) := by
  have hk : k < x.cps.size := (Array.getElem?_eq_some_iff.mp hc).1
  have q := List.all_eq_true.mp (Bool.and_eq_true_iff.mp h).2 k (List.mem_range.mpr hk)
  rw [hc] at q
  obtain ⟨q1, q2⟩ := Bool.and_eq_true_iff.mp q
  refine ⟨List.contains_iff_mem.mp q1, fun hl => ?_⟩
  rw [hl, Bool.false_or] at q2
  rcases Bool.or_eq_true_iff.mp q2 with q3 | q3
  · obtain ⟨q4, q5⟩ := Bool.and_eq_true_iff.mp q3
    obtain ⟨q6, q7⟩ := Bool.and_eq_true_iff.mp q4
    exact .inl ⟨q6, eq_of_beq q7, of_decide_eq_true q5⟩
  · obtain ⟨q4, q5⟩ := Bool.and_eq_true_iff.mp q3
    obtain ⟨q6, q7⟩ := Bool.and_eq_true_iff.mp q4
    exact .inr ⟨by simpa using q6, by simpa using q7, eq_of_beq q5⟩
theorem ints_snoc {vs : List Value} {x : Str} {kk c : Nat} {t : Tok} (h : IntsAre vs ((x.cps.toList.take kk).map codeOf)) (hc : x.cps[kk]? = some c) : IntsAre (vs ++ [.int (codeOf c) t]) ((x.cps.toList.take (kk + 1)).map codeOf) := by
  have e : x.cps.toList[kk]? = some c := by rw [Array.getElem?_toList]; exact hc
  rw [List.take_succ, e, List.map_append]
  exact h.append (.cons _ _ .nil)
theorem symbols_c (w : World) (news : List (Addr × Obj)) (x : Str) (t u : Tok) (hx : symOk x = true) :
    Con w 3 120 [.str x t, .str (Str.ofString "abcd") u] news (fun tl v => ∃ D vs n base, tl = (D, listOf (List.toArray vs) n) :: base ∧ v = .ref D ∧ IntsAre vs (x.cps.toList.map codeOf ++ [0])) := by
  have hz : x.cps.size ≤ 100 := of_decide_eq_true (Bool.and_eq_true_iff.mp hx).1
  refine' Con.of (binds := [(Str.ofString "text", .str x t), (Str.ofString "letters", .str (Str.ofString "abcd") u)]) ?ho ?hbd ?hsc ?hcd ?hb ?hl ?hco ?hg ?hk ?hc ?hbody
  case' ho => k_is
  case' hbd => (conv => rhs; whnf)
  case' hsc => (conv => rhs; whnf)
  case' hcd => k_is
  case' hb => exact rfl
  case' hl => exact locs rfl
  case' hco => exact rfl
  case' hg => exact rfl
  case' hk => exact rfl
  case' hc => decide
  intro A g L s H hh S F N G ht Q hQ
  have X := G.x
  obtain ⟨loose, mean, mg, mb, T⟩ := G.t
  (try dsimp only)
  repeat' (first
    | (k_unfold; (try dsimp only))
    | ((with_reducible show wpAny _ _ (eval (Expr.Call (Expr.Name _ _) _ [] _) _) _ _ _); refine Call_ ?_)
    | ((fail_if_success (with_reducible show wpAny _ _ (exec (Stmt.While _ _ _ _) _) _ _ _)); walk1) | ((fail_if_success (with_reducible show wpAny _ _ (exec (Stmt.While _ _ _ _) _) _ _ _)); dsimp only; walk1) | fail "no step")
  rename_i D hA lD hB hC lF lN
  refine whileS (s₀ := s) (fun n m₁ nx => ∃ (kk : Nat) (kv : Int) (vs : List Value) (c : Nat) (tk : Tok), nx = (D, listOf (List.toArray vs) c) :: news ∧ m₁ (Str.ofString "text") = some (.str x t) ∧ m₁ (Str.ofString "letters") = some (.str (Str.ofString "abcd") u) ∧
    m₁ (Str.ofString "symbols") = some (.ref D) ∧ m₁ (Str.ofString "k") = some (.int kv tk) ∧ (kv = kk ∨ kk = x.cps.size ∧ (kk : Int) ≤ kv) ∧ kk ≤ x.cps.size ∧ vs.length = kk ∧ IntsAre vs ((x.cps.toList.take kk).map codeOf) ∧ n = x.cps.size - kk) (by assumption) lF lN ⟨0, 0, [], 0, _, rfl, rfl, rfl, rfl, rfl, .inl rfl, Nat.zero_le _, rfl, .nil, rfl⟩ ?_ (by passes_own)
  intro n m1 nx s1 S1 F1 N1 hJ Q1 hQ1
  obtain ⟨kk, kv, vs, cn, tk, rfl, hm1, hm2, hm3, hm4, hkv, hkk, hvl, hvs, rfl⟩ := hJ
  have hlen : ¬ (x.length : Int) ≥ 2 ^ 63 := by show ¬ (x.cps.size : Int) ≥ 2 ^ 63; omega
  repeat' (first
    | (k_unfold; (try dsimp only))
    | ((with_reducible show wpAny _ _ (eval (Expr.Call (Expr.Name _ _) _ [] _) _) _ _ _); refine Call_ ?_)
    | ((with_reducible show wpAny _ _ (eval (Expr.Name _ _) _) _ _ _); k_dflt (refine' nameX_L ?nmF ?nmv ?_ ?nma ?nmb; (case nmF => k_asm); (case nma => rfl); (case nmb => rfl); (case nmv => first | rfl | assumption); k_whole); walk_say "NAMEH")
    | ((with_reducible show wpAny _ _ (call (Value.builtin "len") [Value.str _ _]) _ _ _); refine len_str hlen ?_; (try dsimp only); walk_say "LENSTR")
    | ((fail_if_success (with_reducible show wpAny _ _ (execs (_ :: _) _) _ _ _)); walk1) | ((fail_if_success (with_reducible show wpAny _ _ (execs (_ :: _) _) _ _ _)); dsimp only; walk1) | fail "no step")
  rotate_left
  · rename ¬ kv < (x.length : Int) => hge
    have hge' : ¬ kv < (x.cps.size : Int) := hge
    obtain rfl : kk = x.cps.size := by omega
    repeat' (first
      | (k_unfold; (try dsimp only))
      | ((with_reducible show wpAny _ _ (eval (Expr.Call (Expr.Name _ _) _ [] _) _) _ _ _); refine Call_ ?_)
      | ((with_reducible show wpAny _ _ (eval (Expr.Name _ _) _) _ _ _); k_dflt (refine' nameX_L ?nmF ?nmv ?_ ?nma ?nmb; (case nmF => k_asm); (case nma => rfl); (case nmb => rfl); (case nmv => first | rfl | assumption); k_whole); walk_say "NAMEH")
      | (walk1) | (dsimp only; walk1) | fail "no step")
    rename IntsAre _ (_ ++ [0]) => hI
    refine hQ _ _ _ [_, _, _] (by assumption) (by assumption) (by assumption) ⟨_, _, _, _, rfl, rfl, ?_⟩
    rwa [show x.cps.size = x.cps.toList.length from rfl, List.take_length] at hI
  · rename kv < (x.length : Int) => hlt
    have hlt' : kv < (x.cps.size : Int) := hlt
    obtain rfl : kv = kk := by omega
    have hkz : kk < x.cps.size := by omega
    obtain ⟨c, hc⟩ : ∃ c, x.cps[kk]? = some c := ⟨x.cps[kk], Array.getElem?_eq_getElem hkz⟩
    obtain ⟨hca, hcs0⟩ := symOk.sign hx hc
    have hit : Txt.item x kk = ⟨#[c]⟩ := by
      rw [item_meets ⟨Int.natCast_nonneg _, hlt⟩, Int.toNat_natCast, Array.getD_eq_getD_getElem?, hc]
      rfl
    have hDn : ∀ p ∈ news, p.1 ≠ D := fun p hp => Nat.ne_of_lt (lD p hp)
    repeat' (first
      | (k_unfold; (try dsimp only))
      | ((with_reducible show wpAny _ _ (eval (Expr.Call (Expr.Name _ _) _ [] _) _) _ _ _); refine Call_ ?_)
      | ((with_reducible show wpAny _ _ (eval (Expr.Name _ _) _) _ _ _); k_dflt (refine' nameX_L ?nmF ?nmv ?_ ?nma ?nmb; (case nmF => k_asm); (case nma => rfl); (case nmb => rfl); (case nmv => first | rfl | assumption); k_whole); walk_say "NAMEH")
      | ((with_reducible show wpAny _ _ (call (Value.ref 77) [Value.str _ _, _]) _ _ _); (try rw [hit]); k_dflt (refine' ConT.use (cont_l _ _ _ _ _ hca) ?k1 ?k2 ?k0 ?k3 ?k4 ?k5 ?kp ?_; (case k1 => assumption); (case k2 => decide); (case k3 => k_asm); (case k4 => k_asm); (case k5 => assumption); (case kp => trivial); (case k0 => assumption)); intro r9 tl9 s9 S9 t9 F9 N9 hR9; (obtain ⟨e8, e9⟩ := hR9); subst e8; subst e9; (rw [List.nil_append] at N9); (try dsimp only); walk_say "CONTL")
      | ((fail_if_success (with_reducible show wpAny _ _ (exec (Stmt.While _ _ _ _) _) _ _ _)); (fail_if_success (with_reducible show wpAny _ _ (execs (Stmt.While _ _ _ _ :: _) _) _ _ _)); (fail_if_success (with_reducible show wpAny _ _ (call (Value.ref 91) _) _ _ _)); walk1) | ((fail_if_success (with_reducible show wpAny _ _ (exec (Stmt.While _ _ _ _) _) _ _ _)); (fail_if_success (with_reducible show wpAny _ _ (execs (Stmt.While _ _ _ _ :: _) _) _ _ _)); (fail_if_success (with_reducible show wpAny _ _ (call (Value.ref 91) _) _ _ _)); dsimp only; walk1) | fail "no step")
    · rename (decide (97 ≤ c) && decide (c < 101)) = true => hl
      have h97 : 97 ≤ c := of_decide_eq_true (Bool.and_eq_true_iff.mp hl).1
      have h101 : c < 101 := of_decide_eq_true (Bool.and_eq_true_iff.mp hl).2
      have hco : codeOf c = 256 + ((c : Int) - 97) := by unfold codeOf; rw [if_neg (by omega), if_neg (by omega), if_neg (by omega), if_neg (by omega)]
      repeat' (first
        | (k_unfold; (try dsimp only))
        | ((with_reducible show wpAny _ _ (eval (Expr.Call (Expr.Name _ _) _ [] _) _) _ _ _); refine Call_ ?_)
        | ((with_reducible show wpAny _ _ (eval (Expr.Name _ _) _) _ _ _); k_dflt (refine' nameX_L ?nmF ?nmv ?_ ?nma ?nmb; (case nmF => k_asm); (case nma => rfl); (case nmb => rfl); (case nmv => first | rfl | assumption); k_whole); walk_say "NAMEH")
        | ((with_reducible show wpAny _ _ (call (Value.ref 91) [Value.str _ _, _]) _ _ _); (try rw [hit]); k_dflt (refine' ConT.use (idx_c _ _ _ _ _ h97 h101) ?k1 ?k2 ?k0 ?k3 ?k4 ?k5 ?kp ?_; (case k1 => assumption); (case k2 => decide); (case k3 => k_asm); (case k4 => k_asm); (case k5 => assumption); (case kp => exact ⟨Nat.lt_succ_self _, Nat.succ_ne_zero _⟩); (case k0 => assumption)); intro r9 tl9 s9 S9 t9 F9 N9 hR9; (obtain ⟨e8, t9, e9⟩ := hR9); subst e8; subst e9; (rw [List.nil_append] at N9); (try dsimp only); walk_say "IDX")
        | ((with_reducible show wpAny _ _ (call (Value.builtin "list.append") [Value.ref _, _]) _ _ _); k_dflt (refine' append_K ?apF ?apN ?apU ?_ ?apz; (case apF => k_asm); (case apN => k_asm); (case apU => exact Upd.head hDn); (case apz => exact len_room (by assumption))); intro h' F' N'; (rw [List.push_toArray] at N'); (try dsimp only); walk_say "APP1")
        | ((with_reducible show wpAny _ _ (loadName _ _) _ _ _); k_dflt (refine' wpAny_loadName_local ?nma ?nmb ?nmF ?nmv ?_; (case nma => first | rfl | decide); (case nmb => rfl); (case nmF => exact Fr.ns (by k_asm)); (case nmv => first | rfl | assumption)); (try dsimp only); walk_say "LOADH")
        | ((with_reducible show wpAny _ _ (call (Value.ref 42) _ _) _ _ _); k_dflt (refine' Con.use (add_c _ _ _ _ _ _) ?k1 ?k2 ?k0 ?k3 ?k4 ?k5 ?_; (case k1 => assumption); (case k2 => decide); (case k3 => k_asm); (case k4 => k_asm); (case k5 => assumption); (case k0 => assumption); intro r9 tl9 s9 S9 F9 N9 hR9; (obtain ⟨e8, t9, e9⟩ := hR9); subst e8; subst e9; (rw [List.nil_append] at N9); (try dsimp only)); walk_say "CALL add_c")
        | (walk1) | (dsimp only; walk1) | fail "no step")
      refine hQ1 _ _ _ (x.cps.size - (kk + 1)) (by assumption) (by assumption) (by assumption) (by omega) ⟨kk + 1, _, _, _, _, rfl, by assumption, by assumption, by assumption, rfl, .inl ?_, by omega, ?_, ?_, rfl⟩
      · omega
      · simp [hvl]
      · rw [← hco, List.concat_eq_append]; exact ints_snoc hvs hc
    · rename (decide (97 ≤ c) && decide (c < 101)) = false => hl
      have hcs : c ∈ [40, 41, 38, 124] := by
        simp only [alphas, List.mem_cons, List.not_mem_nil, or_false] at hca ⊢
        have hl' : ¬ (97 ≤ c ∧ c < 101) := by simpa using hl
        omega
      have hcs1 := hcs0 hl
      rename News g L s9.heap _ => lN2
      rename Fr g L s9.heap _ => lF2
      refine execs_cut (fun s' => ∃ m' ny n t7, Same s s' ∧ Fr g L s'.heap m' ∧ News g L s'.heap ny ∧ ny = (D, listOf (List.toArray vs) cn) :: news ∧ m' (Str.ofString "text") = some (.str x t) ∧ m' (Str.ofString "letters") = some (.str (Str.ofString "abcd") u) ∧ m' (Str.ofString "symbols") = some (.ref D) ∧
        m' (Str.ofString "k") = some (.int kk tk) ∧ m' (Str.ofString "size") = some (.int ((n : Nat) : Int) t7) ∧ cut x kk n = ⟨#[c]⟩ ∧ (n = 1 ∨ kk + 1 = x.cps.size) ∧ 1 ≤ n) (fun Q2 hQ2 => ?_) fun s2 h2 => ?_
      · refine whileS (s₀ := s) (n₀ := 3) (fun n m₂ ny => ny = (D, listOf (List.toArray vs) cn) :: news ∧ m₂ (Str.ofString "text") = some (.str x t) ∧ m₂ (Str.ofString "letters") = some (.str (Str.ofString "abcd") u) ∧ m₂ (Str.ofString "symbols") = some (.ref D) ∧
          m₂ (Str.ofString "k") = some (.int kk tk) ∧ (∃ t, m₂ (Str.ofString "size") = some (.int n t)) ∧ 1 ≤ n ∧ n ≤ 3 ∧ (∀ j, n < j → j ≤ 3 → inTok (cut x kk j) = false)) (by assumption) lF2 lN2 ⟨rfl, by assumption, by assumption, by assumption, by assumption, ⟨_, rfl⟩, by decide, by decide, fun j h1 h2 => absurd h1 (by omega)⟩ ?_ (by passes_own)
        intro n m2 ny s2 S2 F2 N2 hJ2 Q3 hQ3
        obtain ⟨rfl, hn1, hn2, hn3, hn4, ⟨t5, hn5⟩, hn6, hn7, hn8⟩ := hJ2
        repeat' (first
          | (k_unfold; (try dsimp only))
          | ((with_reducible show wpAny _ _ (eval (Expr.Call (Expr.Name _ _) _ [] _) _) _ _ _); refine Call_ ?_)
          | ((with_reducible show wpAny _ _ (eval (Expr.Name _ _) _) _ _ _); k_dflt (refine' nameX_L ?nmF ?nmv ?_ ?nma ?nmb; (case nmF => k_asm); (case nma => rfl); (case nmb => rfl); (case nmv => first | rfl | assumption); k_whole); walk_say "NAMEH")
          | ((with_reducible show wpAny _ _ (loadName _ _) _ _ _); k_dflt (refine' wpAny_loadName_local ?nma ?nmb ?nmF ?nmv ?_; (case nma => first | rfl | decide); (case nmb => rfl); (case nmF => exact Fr.ns (by k_asm)); (case nmv => first | rfl | assumption)); (try dsimp only); walk_say "LOADH")
          | ((with_reducible show wpAny _ _ (call (Value.ref 77) _ _) _ _ _); k_dflt (refine' Con.use (contd_c _ _ _ _) ?k1 ?k2 ?k0 ?k3 ?k4 ?k5 ?_; (case k1 => assumption); (case k2 => decide); (case k3 => k_asm); (case k4 => k_asm); (case k5 => assumption); (case k0 => assumption); intro r9 tl9 s9 S9 F9 N9 hR9; (obtain ⟨e8, e9⟩ := hR9); subst e8; subst e9; (rw [List.nil_append] at N9); (try dsimp only)); walk_say "CALL contd_c")
          | (walk1) | (dsimp only; walk1) | fail "no step")
        · rename inTok _ = true => hin
          have hin : inTok (cut x kk n) = true := hin
          have h1n : 1 < n := by omega
          rcases hcs1 with ⟨p1, p2, p3⟩ | ⟨p1, p2, p3⟩
          · obtain rfl : n = 3 := by
              by_cases h3 : n = 3
              · exact h3
              · have q := hn8 3 (by omega) (Nat.le_refl 3)
                rw [p1] at q
                cases q
            exact hQ2 _ ⟨_, _, 3, t5, by assumption, by assumption, by assumption, rfl, hn1, hn2, hn3, hn4, hn5, p2, .inr p3, by decide⟩
          · have h23 : n = 2 ∨ n = 3 := by omega
            rcases h23 with rfl | rfl
            · rw [p2] at hin; cases hin
            · rw [p1] at hin; cases hin
        · rename inTok _ = false => hin
          have hin : inTok (cut x kk n) = false := hin
          have h1n : 1 < n := by omega
          refine hQ3 _ _ _ (n - 1) (by assumption) (by assumption) (by assumption) (by omega) ⟨rfl, by assumption, by assumption, by assumption, by assumption, ⟨_, congrArg (fun i => some (Value.int i _)) (show (n : Int) - 1 = ((n - 1 : Nat) : Int) by omega)⟩, by omega, by omega, fun j h1 h2 => ?_⟩
          by_cases hj : j = n
          · rw [hj]; exact hin
          · exact hn8 j (by omega) h2
        · have h1n : n = 1 := by omega
          subst h1n
          rcases hcs1 with ⟨p1, p2, p3⟩ | ⟨p1, p2, p3⟩
          · have q := hn8 3 (by decide) (Nat.le_refl 3)
            rw [p1] at q
            cases q
          · exact hQ2 _ ⟨_, _, 1, t5, by assumption, by assumption, by assumption, rfl, hn1, hn2, hn3, hn4, hn5, p3, .inl rfl, by decide⟩
      · obtain ⟨m3, ny, n, t5, S3, F3, N3, rfl, hn1, hn2, hn3, hn4, hn5, hn6, hn7, hn8⟩ := h2
        have hsl : Txt.slice x (some (kk : Int)) (some ((kk : Int) + (n : Int))) = ⟨#[c]⟩ := hn6
        repeat' (first
          | (k_unfold; (try dsimp only))
          | ((with_reducible show wpAny _ _ (eval (Expr.Call (Expr.Name _ _) _ [] _) _) _ _ _); refine Call_ ?_)
          | ((with_reducible show wpAny _ _ (eval (Expr.Name _ _) _) _ _ _); k_dflt (refine' nameX_L ?nmF ?nmv ?_ ?nma ?nmb; (case nmF => k_asm); (case nma => rfl); (case nmb => rfl); (case nmv => first | rfl | assumption); k_whole); walk_say "NAMEH")
          | ((with_reducible show wpAny _ _ (call (Value.ref 84) [Value.ref 92, Value.str _ _]) _ _ _); rw [hsl]; k_dflt (refine' Con.use (getd_c _ _ _ _ hcs) ?k1 ?k2 ?k0 ?k3 ?k4 ?k5 ?_; (case k1 => assumption); (case k2 => decide); (case k3 => k_asm); (case k4 => k_asm); (case k5 => assumption); (case k0 => assumption)); intro r9 tl9 s9 S9 F9 N9 hR9; (obtain ⟨e8, t9, e9⟩ := hR9); subst e8; subst e9; (rw [List.nil_append] at N9); (try dsimp only); walk_say "GETD")
          | ((with_reducible show wpAny _ _ (call (Value.builtin "list.append") [Value.ref _, _]) _ _ _); k_dflt (refine' append_K ?apF ?apN ?apU ?_ ?apz; (case apF => k_asm); (case apN => k_asm); (case apU => exact Upd.head hDn); (case apz => exact len_room (by assumption))); intro h' F' N'; (rw [List.push_toArray] at N'); (try dsimp only); walk_say "APP1")
          | ((with_reducible show wpAny _ _ (loadName _ _) _ _ _); k_dflt (refine' wpAny_loadName_local ?nma ?nmb ?nmF ?nmv ?_; (case nma => first | rfl | decide); (case nmb => rfl); (case nmF => exact Fr.ns (by k_asm)); (case nmv => first | rfl | assumption)); (try dsimp only); walk_say "LOADH")
          | (walk1) | (dsimp only; walk1) | fail "no step")
        refine hQ1 _ _ _ (x.cps.size - (kk + 1)) (by assumption) (by assumption) (by assumption) (by omega) ⟨kk + 1, _, _, _, _, rfl, by assumption, by assumption, by assumption, rfl, ?_, by omega, ?_, ?_, rfl⟩
        · omega
        · simp [hvl]
        · rw [List.concat_eq_append]; exact ints_snoc hvs hc
end Mine
set_option maxHeartbeats 4000000
namespace Mine
section
variable {w : World} {A : Around} {E : Value → Shared → Prop} {s : Shared}
/-- xs[a:b] = ys of two lists -/
theorem setItem_slice {l sl r : Addr} {items new : Array Value} {a b : Int} {ta tb : Tok} {Q : Unit → Shared → Prop} {n : Nat} (ho : s.heap.get? l = some (listOf items n)) (hr : s.heap.IsList r new) (hs : s.heap.IsSliceOf sl (.int a ta) (.int b tb) .none) (hne : l ≠ r)
    (h0 : 0 ≤ a) (hab : a ≤ b) (hb : b ≤ items.size) (hsz : items.size + new.size ≤ sizeLine)
    (hQ : ∀ h' n', h'.get? l = some (listOf (items.extract 0 a.toNat ++ new ++ items.extract b.toNat items.size) n') → Heap.SameBut l s.heap h' → Q () { s with heap := h' }) :
    wpAny (model Prg w) A (setItem (.ref l) (.ref sl) (.ref r)) Q E s := by
  have hl : s.heap.IsList l items := ⟨_, ho, rfl, _, rfl⟩
  have hd : (listOf items n).data = .seq items n := rfl
  obtain ⟨or, hor, hcr, ner, hdr⟩ := id hr
  obtain ⟨os, hos, hcs, hds⟩ := id hs
  have hTs : s.TypeIs (.ref sl) "slice" := ⟨os, hos, hcs⟩
  unfold setItem
  try with_reducible refine wpAny_holding ?_
  first | refine wpAny_bind (wpAny_pure ?_) | skip
  refine wpAny_bind (wpAny_sequenceKey hl.typeIs (by decide) ?_)
  refine wpAny_bind (wpAny_callSpecial?_slot (name := Str.ofString "__setitem__") hl.typeIs slot_list_setitem
    (wpAny_call_entry slot_list_setitem hl.typeIs entry_list_setitem ?_ (args_list_setitem _ _ _)))
  show wpAny _ _ (Builtin.List.listSubscript? (.ref sl) >>= _) _ _ s
  refine wpAny_bind ?_
  unfold Builtin.List.listSubscript?
  refine wpAny_bind (wpAny_specialOf hTs slice_no_index ?_)
  simp only [Option.isNone_none, if_true]
  refine wpAny_pure ?_
  show wpAny _ _ (typeOf (.ref sl) >>= _) _ _ s
  refine wpAny_bind (wpAny_typeOf hTs ?_)
  rw [if_neg (by decide)]
  rw [listSliceParts_eq]
  refine wpAny_bind (wpAny_bind (wpAny_field hos hds (x := .none) rfl (wpAny_bind (wpAny_listPart .none ?_))))
  rw [if_neg (show ¬ ((rawPart none == rawInt 0) = true) from Bool.false_ne_true)]
  refine wpAny_bind (wpAny_field hos hds (x := .int a ta) rfl (wpAny_bind (wpAny_listPart (.int a ta) ?_)))
  refine wpAny_bind (wpAny_field hos hds (x := .int b tb) rfl (wpAny_bind (wpAny_listPart (.int b tb) (wpAny_pure ?_))))
  have hsame : Builtin.List.listSameRef (.ref l) (.ref r) = false := by
    show (l == r) = false
    exact beq_false_of_ne hne
  rw [if_neg (by rw [hsame]; decide)]
  refine wpAny_bind ?_
  unfold Builtin.List.listAllItems
  refine wpAny_bind (wpAny_typeOf hr.typeIs ?_)
  rw [if_pos (by decide)]
  unfold Builtin.List.listItems
  refine wpAny_bind (wpAny_seqItems hor hdr (wpAny_pure ?_))
  refine wpAny_bind (wpAny_bind (wpAny_seqItems ho hd (wpAny_pure ?_)))
  refine wpAny_bind (wpAny_of_eq (sliceIndices_raw (some a) (some b) none items.size (by simp)) ?_)
  have e : sliceBounds (some a) (some b) none items.size = (a, b, 1) := by
    unfold sliceBounds
    simp only [Option.getD_none, show (1 : Int) > 0 by decide, if_true, if_neg (show ¬ a < 0 by omega), if_neg (show ¬ b < 0 by omega)]
    congr 1
    · omega
    · congr 1; omega
  rw [e]
  have hlong : ¬ (Builtin.List.listTooLong (items.size + new.size) = true) := by
    show ¬ (decide (items.size + new.size > sizeLine) = true)
    simp only [decide_eq_true_eq]
    omega
  have emax : (max a b).toNat = b.toNat := by congr 1; omega
  dsimp only
  rw [if_pos (by decide)]
  refine wpAny_bind (wpAny_rule ?_)
  rw [if_neg hlong, emax]
  have hz1 : (items.extract 0 a.toNat ++ new ++ items.extract b.toNat items.size).size ≤ sizeLine + 1 := by
    simp only [Array.size_append, Array.size_extract]
    omega
  have hfin := Heap.get?_update_self (Obj.mapSeq (fun xs => xs.extract 0 a.toNat ++ new ++ xs.extract b.toNat xs.size)) ho rfl
  refine wpAny_bind (m := Builtin.List.listUpdate (.ref l) _) ?_
  unfold Builtin.List.listUpdate
  refine wpAny_updateSeq ho hd ?_ (by omega) hz1
  refine wpAny_bind (wpAny_letGo ?_)
  first
    | exact wpAny_bind (wpAny_pure (wpAny_pure ⟨.none, rfl, wpAny_pure (hQ _ _ hfin (Heap.SameBut.update ..))⟩))
    | exact wpAny_pure ⟨.none, rfl, wpAny_pure (hQ _ _ hfin (Heap.SameBut.update ..))⟩
/-- the same in the ledger, the slice just made -/
theorem slice_put {g : Heap} {L : Addr} {m : Str → Option Value} {news : List (Addr × Obj)} {gg : Obj → List (Addr × Obj)} {l r : Addr} {vs new : List Value} {c cn : Nat} {a b : Int} {ta tb : Tok} {Q : Unit → Shared → Prop} (F : Fr g L s.heap m) (N : News g L s.heap news)
    (U : UpdF l (listOf (List.toArray vs) c) news gg) (hr : (r, listOf (List.toArray new) cn) ∈ news) (hne : l ≠ r) (h0 : 0 ≤ a) (hab : a ≤ b) (hb : b ≤ vs.length) (hz : vs.length ≤ 1000) (hzn : new.length ≤ 1000)
    (h : ∀ h' c', Fr g L h' m → News g L h' (gg (listOf (List.toArray (vs.take a.toNat ++ new ++ vs.drop b.toNat)) c')) → Q () { s with heap := h' }) :
    wpAny (model Prg w) A (setItem (.ref l) (.ref s.heap.objs.size) (.ref r)) Q E { s with heap := s.heap.push { cls := .type "slice", data := .fields #[.int a ta, .int b tb, .none] } } := by
  obtain ⟨pre, post, rfl, e2, h1, h2⟩ := U.split
  have z := N (l, listOf (List.toArray vs) c) (List.mem_append.mpr (.inr (.head _)))
  have up : ∀ q o, s.heap.get? q = some o → (s.heap.push { cls := .type "slice", data := .fields #[.int a ta, .int b tb, .none] }).get? q = some o := fun q o e => Heap.get?_push_of_some _ e
  have hlr : s.heap.IsList r (List.toArray new) := News.isList N hr
  have e3 : (List.toArray vs).extract 0 a.toNat ++ List.toArray new ++ (List.toArray vs).extract b.toNat (List.toArray vs).size = List.toArray (vs.take a.toNat ++ new ++ vs.drop b.toNat) := by
    apply Array.toList_inj.mp
    simp
    exact List.take_of_length_le (by simp)
  refine setItem_slice (n := c) (up _ _ z.1) (hlr.at fun o e => up _ _ e) (Heap.IsSliceOf.new ..) hne h0 hab (by simpa using hb) (by simp only [List.size_toArray, sizeLine_eq]; omega) fun h' c' ho' hs' => ?_
  rw [e3] at ho'
  have hs' : Heap.SameBut l (s.heap.push { cls := .type "slice", data := .fields #[.int a ta, .int b tb, .none] }) h' := hs'
  refine h h' c' ((F.push _).change hs' z.2.1 z.2.2) ?_
  rw [e2]
  exact news_set (News.grown N up) h1 h2 hs' ho'
end
end Mine
set_option maxHeartbeats 4000000
namespace Mine
abbrev Ex := PySem.Expr
section
variable {w : World} {A : Around} {E : Value → Shared → Prop} {R : Result → Shared → Prop} {s : Shared}
/-- one turn of the outer of two loops of a list display -/
theorem turn_out (elt t1 i1 t2 i2 : Ex) (scope : Scope) (pos : Pos) (it acc : Value) (env : Env) :
    compTurn (.ListComp elt [⟨t1, i1, [], 0⟩, ⟨t2, i2, [], 0⟩] scope pos) 0 it acc env = (standAt i1.pos >>= fun _ => pyNext it >>= fun r => match r with
      | none => pure (.done .next)
      | some v => letOwnedTupleGo t1 it v >>= fun _ => assign t1 env v >>= fun _ =>
        eval i2 env >>= fun x => standAt i2.pos >>= fun _ => foldedSetIterable i2 env x >>= fun x => holding [x] (pyIter x) >>= fun it2 => runOwn (.compStart (.ListComp elt [⟨t1, i1, [], 0⟩, ⟨t2, i2, [], 0⟩] scope pos) 1 it2 acc env) env >>= fun _ =>
          again (.compLoop (.ListComp elt [⟨t1, i1, [], 0⟩, ⟨t2, i2, [], 0⟩] scope pos) 0 it acc env)) := by rfl
theorem turn_in (elt t1 i1 t2 i2 : Ex) (scope : Scope) (pos : Pos) (it acc : Value) (env : Env) :
    compTurn (.ListComp elt [⟨t1, i1, [], 0⟩, ⟨t2, i2, [], 0⟩] scope pos) 1 it acc env = (standAt i2.pos >>= fun _ => pyNext it >>= fun r => match r with
      | none => pure (.done .next)
      | some v => letOwnedTupleGo t2 it v >>= fun _ => assign t2 env v >>= fun _ =>
        (eval elt env >>= fun x => call (.builtin "list.append") [acc, x] >>= fun _ => pure ()) >>= fun _ =>
          again (.compLoop (.ListComp elt [⟨t1, i1, [], 0⟩, ⟨t2, i2, [], 0⟩] scope pos) 1 it acc env)) := by rfl
theorem loop_in {elt t1 i1 t2 i2 : Ex} {scope : Scope} {pos : Pos} {it acc : Value} {env : Env} (I : Nat → Shared → Prop)
    (turn : ∀ n s, I n s → wpAny (model Prg w) A (pyNext it) (fun r s₁ => match r with
      | none => R (.ok .next) s₁
      | some v => wpAny (model Prg w) A (assign t2 env v) (fun _ s₂ => wpAny (model Prg w) A (eval elt env) (fun x s₃ =>
          wpAny (model Prg w) A (call (.builtin "list.append") [acc, x]) (fun _ s₄ => ∃ m, m < n ∧ I m s₄) (notedBy (model Prg w) A env fun e s' => R (.error e) s') s₃)
          (notedBy (model Prg w) A env fun e s' => R (.error e) s') s₂) (notedBy (model Prg w) A env fun e s' => R (.error e) s') s₁) (notedBy (model Prg w) A env fun e s' => R (.error e) s') s)
    (n : Nat) (h : I n s) (ht : ∀ v, letOwnedTupleGo t2 it v = pure ()) :
    codeAny (model Prg w) A (.compLoop (.ListComp elt [⟨t1, i1, [], 0⟩, ⟨t2, i2, [], 0⟩] scope pos) 1 it acc env) R s := by
  refine codeAny_loop rfl I (fun n s hI => ?_) n h
  show wpAny _ _ ((compTurn (.ListComp elt [⟨t1, i1, [], 0⟩, ⟨t2, i2, [], 0⟩] scope pos) 1 it acc env).onRaise (fun x => do noteFrame x env; theTreesLotGoes x)) _ _ s
  refine wpAny_noted ?_
  rw [turn_in]
  refine wpAny_bind (wpAny_standAt (wpAny_bind (wpAny_mono (turn n s hI) (fun r s₁ h₁ => ?_) fun _ _ h' => h')))
  cases r with
  | none => exact wpAny_pure h₁
  | some v =>
    refine wpAny_bind (wpAny_of_eq (ht v) ?_)
    exact wpAny_bind (wpAny_mono h₁ (fun _ s₂ h₂ => wpAny_bind (wpAny_bind (wpAny_mono h₂ (fun x s₃ h₃ => wpAny_bind (wpAny_mono h₃
      (fun _ s₄ h₄ => wpAny_pure (wpAny_pure ⟨rfl, h₄⟩)) fun _ _ h' => h')) fun _ _ h' => h'))) fun _ _ h' => h')
theorem start_in {elt t1 i1 t2 i2 : Ex} {scope : Scope} {pos : Pos} {it acc : Value} {env : Env}
    (h0 : codeAny (model Prg w) A (.compLoop (.ListComp elt [⟨t1, i1, [], 0⟩, ⟨t2, i2, [], 0⟩] scope pos) 1 it acc env) R s)
    (h : wpAny (model Prg w) A (pyIter it) (fun it' s' => codeAny (model Prg w) A (.compLoop (.ListComp elt [⟨t1, i1, [], 0⟩, ⟨t2, i2, [], 0⟩] scope pos) 1 it' acc env) R s')
      (notedBy (model Prg w) A env fun x s' => R (.error x) s') s) :
    codeAny (model Prg w) A (.compStart (.ListComp elt [⟨t1, i1, [], 0⟩, ⟨t2, i2, [], 0⟩] scope pos) 1 it acc env) R s := by
  refine codeAny_of_tree ?_
  show wpAny _ _ ((compStart (.ListComp elt [⟨t1, i1, [], 0⟩, ⟨t2, i2, [], 0⟩] scope pos) 1 it acc env).onRaise (fun x => do noteFrame x env; standAt theWindowsPlace)) _ _ s
  refine wpAny_notedAt ?_
  unfold compStart
  show wpAny _ _ (ask >>= _) _ _ s
  refine wpAny_bind (wpAny_askSetting (wpAny_ite ?_))
  split
  · first
      | exact wpAny_bind (wpAny_pure (wpAny_pure (And.intro rfl h0)))
      | exact wpAny_pure (And.intro rfl h0)
  · first
      | exact wpAny_bind (wpAny_rule (wpAny_bind (wpAny_standAt (wpAny_bind (wpAny_mono h (fun it' s' h' => wpAny_pure (And.intro rfl h')) fun _ _ x => x)))))
      | (refine wpAny_bind (wpAny_rule ?_); show wpAny _ _ (standAt i2.pos >>= _) _ _ s; exact wpAny_bind (wpAny_standAt (wpAny_bind (wpAny_mono h (fun it' s' h' => wpAny_pure (And.intro rfl h')) fun _ _ x => x))))
theorem loop_out {elt t1 i1 t2 i2 : Ex} {scope : Scope} {pos : Pos} {it acc : Value} {env : Env} (I : Nat → Shared → Prop)
    (turn : ∀ n s, I n s → wpAny (model Prg w) A (pyNext it) (fun r s₁ => match r with
      | none => R (.ok .next) s₁
      | some v => wpAny (model Prg w) A (assign t1 env v) (fun _ s₂ => wpAny (model Prg w) A (eval i2 env) (fun x s₃ =>
          wpAny (model Prg w) A (pyIter x) (fun it2 s₄ => codeAny (model Prg w) (A.mark none) (.compStart (.ListComp elt [⟨t1, i1, [], 0⟩, ⟨t2, i2, [], 0⟩] scope pos) 1 it2 acc env)
            (fun r s' => match r with | .ok _ => ∃ m, m < n ∧ I m s' | .error e => cameBackBy (model Prg w) A env (notedBy (model Prg w) A env fun e s' => R (.error e) s') e s') s₄) (notedBy (model Prg w) A env fun e s' => R (.error e) s') s₃)
          (notedBy (model Prg w) A env fun e s' => R (.error e) s') s₂) (notedBy (model Prg w) A env fun e s' => R (.error e) s') s₁) (notedBy (model Prg w) A env fun e s' => R (.error e) s') s)
    (n : Nat) (h : I n s) (ht : ∀ v, letOwnedTupleGo t1 it v = pure ()) (hs : ∀ x, foldedSetIterable i2 env x = pure x) :
    codeAny (model Prg w) A (.compLoop (.ListComp elt [⟨t1, i1, [], 0⟩, ⟨t2, i2, [], 0⟩] scope pos) 0 it acc env) R s := by
  refine codeAny_loop rfl I (fun n s hI => ?_) n h
  show wpAny _ _ ((compTurn (.ListComp elt [⟨t1, i1, [], 0⟩, ⟨t2, i2, [], 0⟩] scope pos) 0 it acc env).onRaise (fun x => do noteFrame x env; theTreesLotGoes x)) _ _ s
  refine wpAny_noted ?_
  rw [turn_out]
  refine wpAny_bind (wpAny_standAt (wpAny_bind (wpAny_mono (turn n s hI) (fun r s₁ h₁ => ?_) fun _ _ h' => h')))
  cases r with
  | none => exact wpAny_pure h₁
  | some v =>
    refine wpAny_bind (wpAny_of_eq (ht v) ?_)
    refine wpAny_bind (wpAny_mono h₁ (fun _ s₂ h₂ => ?_) fun _ _ h' => h')
    refine wpAny_bind (wpAny_mono h₂ (fun x s₃ h₃ => ?_) fun _ _ h' => h')
    refine wpAny_bind (wpAny_standAt (wpAny_bind (wpAny_of_eq (hs x) ?_)))
    refine wpAny_bind (wpAny_holding (wpAny_mono h₃ (fun it2 s₄ h₄ => ?_) fun _ _ h' => h'))
    refine wpAny_bind (wpAny_runOwn (codeAny_mono h₄ fun r s' hr => ?_))
    cases r with
    | ok f => exact wpAny_pure ⟨rfl, hr⟩
    | error e => exact hr
end
/-- the ledger has a row of ints there -/
def RowIs (nw : List (Addr × Obj)) (l : List Int) (v : Value) : Prop := ∃ p its n, v = .ref p ∧ (p, listOf (List.toArray its) n) ∈ nw ∧ IntsAre its l
def RowsAre (nw : List (Addr × Obj)) : List (List Int) → List Value → Prop
  | [], vs => vs = []
  | l :: r, vs => ∃ v us, vs = v :: us ∧ RowIs nw l v ∧ RowsAre nw r us
theorem RowIs.mono {nw nw' : List (Addr × Obj)} {l : List Int} {v : Value} (h : RowIs nw l v) (hs : ∀ p ∈ nw, p ∈ nw') : RowIs nw' l v := by
  obtain ⟨p, its, n, e, q, i⟩ := h
  exact ⟨p, its, n, e, hs _ q, i⟩
theorem RowsAre.mono {nw nw' : List (Addr × Obj)} (hs : ∀ p ∈ nw, p ∈ nw') : ∀ {ls : List (List Int)} {vs : List Value}, RowsAre nw ls vs → RowsAre nw' ls vs
  | [], _, h => h
  | _ :: _, _, ⟨v, us, e, q, r⟩ => ⟨v, us, e, q.mono hs, RowsAre.mono hs r⟩
theorem RowsAre.snoc {nw : List (Addr × Obj)} {l : List Int} {v : Value} (h : RowIs nw l v) : ∀ {ls : List (List Int)} {vs : List Value}, RowsAre nw ls vs → RowsAre nw (ls ++ [l]) (vs ++ [v])
  | [], _, e => by subst e; exact ⟨v, [], rfl, h, rfl⟩
  | _ :: _, _, ⟨u, us, e, q, r⟩ => by subst e; exact ⟨u, us ++ [v], rfl, q, RowsAre.snoc h r⟩
theorem RowsAre.append {nw : List (Addr × Obj)} {ls' : List (List Int)} {vs' : List Value} (h : RowsAre nw ls' vs') : ∀ {ls : List (List Int)} {vs : List Value}, RowsAre nw ls vs → RowsAre nw (ls ++ ls') (vs ++ vs')
  | [], _, e => by subst e; exact h
  | _ :: _, _, ⟨u, us, e, q, r⟩ => by subst e; exact ⟨u, us ++ vs', rfl, q, RowsAre.append h r⟩
theorem RowsAre.length {nw : List (Addr × Obj)} : ∀ {ls : List (List Int)} {vs : List Value}, RowsAre nw ls vs → vs.length = ls.length
  | [], _, e => by subst e; rfl
  | _ :: _, _, ⟨u, us, e, q, r⟩ => by subst e; simp [RowsAre.length r]
theorem RowsAre.get {nw : List (Addr × Obj)} : ∀ {ls : List (List Int)} {vs : List Value} {i : Nat} {v : Value}, RowsAre nw ls vs → vs[i]? = some v → ∃ l, ls[i]? = some l ∧ RowIs nw l v
  | [], _, _, _, e, h => by subst e; simp at h
  | l :: _, _, 0, _, ⟨u, us, e, q, r⟩, h => by subst e; simp at h; subst h; exact ⟨l, rfl, q⟩
  | _ :: _, _, i + 1, _, ⟨u, us, e, q, r⟩, h => by subst e; simp at h; simpa using RowsAre.get r h
section
variable {w : World} {A : Around} {E : Value → Shared → Prop} {s : Shared} {h₀ : Heap} {L : Addr} {m : Str → Option Value} {news : List (Addr × Obj)} {env : Env}
/-- the state of the two loops: C the names, D what is made, I and J the iterators -/
structure In2 (h₀ : Heap) (L : Addr) (m : Str → Option Value) (news : List (Addr × Obj)) (I C D : Addr) (done : List (List Int)) (h : Heap) (mc : Str → Option Value) (ds : List Value) (nD : Nat) (nw : List (Addr × Obj)) : Prop where
  fr : Fr h₀ L h m
  ns : h.Ns C mc
  led : News h₀ L h ((D, listOf (List.toArray ds) nD) :: (nw ++ news))
  off : ∀ q ∈ nw ++ news, q.1 ≠ I ∧ q.1 ≠ C ∧ q.1 ≠ D
  new : ∀ q ∈ nw, (∀ r ∈ news, q.1 ≠ r.1) ∧ q.2.cls ≠ .type "tuple_iterator"
  rows : RowsAre nw done ds
theorem In2.sub {I C D : Addr} {done : List (List Int)} {h : Heap} {mc : Str → Option Value} {ds : List Value} {nD : Nat} {nw : List (Addr × Obj)} (_ : In2 h₀ L m news I C D done h mc ds nD nw) : ∀ q ∈ news, q ∈ nw ++ news := fun _ hq => List.mem_append_right _ hq
/-- a change at a place that none of these is -/
theorem In2.but {I C D X : Addr} {done : List (List Int)} {h h' : Heap} {mc : Str → Option Value} {ds : List Value} {nD : Nat} {nw : List (Addr × Obj)} (st : In2 h₀ L m news I C D done h mc ds nD nw) (hk : Heap.ExtBut X h h') (hXL : X ≠ L) (hX0 : h₀.get? X = none) (hXC : C ≠ X) (hXD : D ≠ X) (hXn : ∀ q ∈ nw ++ news, q.1 ≠ X) :
    In2 h₀ L m news I C D done h' mc ds nD nw where
  fr := ⟨st.fr.ns.at' fun o e => hk L o (Ne.symm hXL) e, fun b o e => hk b o (fun q => by rw [q, hX0] at e; cases e) (st.fr.keep b o e), st.fr.above⟩
  ns := st.ns.at' fun o e => hk C o hXC e
  led := fun q hq => ⟨hk _ _ (by
    rcases List.mem_cons.mp hq with rfl | hq
    · exact hXD
    · exact hXn q hq) (st.led q hq).1, (st.led q hq).2⟩
  off := st.off
  new := st.new
  rows := st.rows
/-- a name of the display's own is set -/
theorem In2.put {I C D : Addr} {done : List (List Int)} {h h' : Heap} {mc mc' : Str → Option Value} {ds : List Value} {nD : Nat} {nw : List (Addr × Obj)} (st : In2 h₀ L m news I C D done h mc ds nD nw) (hn : h'.Ns C mc') (hs : Heap.SameBut C h h') (hCL : C ≠ L) (hC0 : h₀.get? C = none) (hCD : C ≠ D) :
    In2 h₀ L m news I C D done h' mc' ds nD nw where
  fr := st.fr.change hs hCL hC0
  ns := hn
  led := fun q hq => ⟨hs.extBut _ _ (by
    rcases List.mem_cons.mp hq with rfl | hq
    · exact Ne.symm hCD
    · exact (st.off q hq).2.1) (st.led q hq).1, (st.led q hq).2⟩
  off := st.off
  new := st.new
  rows := st.rows
/-- the places of the two loops are apart -/
structure Apart (h₀ : Heap) (L I J C D : Addr) : Prop where
  ij : I ≠ J
  ic : I ≠ C
  id : I ≠ D
  jc : J ≠ C
  jd : J ≠ D
  cd : C ≠ D
  il : I ≠ L
  jl : J ≠ L
  cl : C ≠ L
  dl : D ≠ L
  i0 : h₀.get? I = none
  j0 : h₀.get? J = none
  c0 : h₀.get? C = none
  d0 : h₀.get? D = none
abbrev Cmp2 (x y : Str) (px py p1 p2 pb pos : Pos) (i1 i2 : Ex) (scope : Scope) : Ex := .ListComp (.BinOp (.Name x px) .Add (.Name y py) pb) [⟨.Name x p1, i1, [], 0⟩, ⟨.Name y p2, i2, [], 0⟩] scope pos
theorem inner {x y : Str} {px py p1 p2 pb pos : Pos} {i1 i2 : Ex} {scope : Scope} {cl : List (Str × Addr)} {I J C D b p : Addr} {its1 vb ds : List Value} {n1 nb nD : Nat} {l1 : List Int} {A2 done : List (List Int)} {mc : Str → Option Value} {nw : List (Addr × Obj)} {oI : Obj} {R : Result → Shared → Prop}
    (hh : A.handled = none) (hkind : scope.kind = .function) (hx : scope.names.lookup x = some .local) (hy : scope.names.lookup y = some .local) (hxy : x ≠ y) (hdx : (x == ("__debug__" : Str)) = false) (hdy : (y == ("__debug__" : Str)) = false)
    (ap : Apart h₀ L I J C D) (hb : (b, listOf (List.toArray vb) nb) ∈ news) (rb : RowsAre news A2 vb) (hp : (p, listOf (List.toArray its1) n1) ∈ news) (hi1 : IntsAre its1 l1) (hs1 : its1.length ≤ 1000) (hs2 : ∀ l ∈ A2, l.length ≤ 1000) (hds : ds.length + vb.length ≤ 1000000)
    (st : In2 h₀ L m news I C D done s.heap mc ds nD nw) (hI : s.heap.get? I = some oI) (hmx : mc x = some (.ref p)) (hJ : s.heap.IsListIter J b 0) (hnJ : ∀ q ∈ nw ++ news, q.1 ≠ J)
    (ret : ∀ h' tk mc' ds' nD' nw', In2 h₀ L m news I C D (done ++ A2.map (l1 ++ ·)) h' mc' ds' nD' nw' → h'.get? I = some oI → ds'.length = ds.length + vb.length → R (.ok .next) { s with heap := h', toks := tk }) :
    codeAny (model Prg w) A (.compStart (Cmp2 x y px py p1 p2 pb pos i1 i2 scope) 1 (.ref J) (.ref D) (compEnvC scope cl C env)) R s := by
  have hlen := RowsAre.length rb
  have loop : ∀ s₃ : Shared, s₃ = s → codeAny (model Prg w) A (.compLoop (Cmp2 x y px py p1 p2 pb pos i1 i2 scope) 1 (.ref J) (.ref D) (compEnvC scope cl C env)) R s₃ := by
    rintro s₃ rfl
    refine loop_in (fun k s' => ∃ h' tk j mc' ds' nD' nw', s' = { s₃ with heap := h', toks := tk } ∧ j ≤ vb.length ∧ k = vb.length + 1 - j ∧ ds'.length = ds.length + j ∧ In2 h₀ L m news I C D (done ++ (A2.take j).map (l1 ++ ·)) h' mc' ds' nD' nw' ∧ h'.get? I = some oI ∧ mc' x = some (.ref p) ∧ h'.IsListIter J b j ∧ (∀ q ∈ nw' ++ news, q.1 ≠ J)) ?_ (vb.length + 1)
      ⟨s₃.heap, s₃.toks, 0, mc, ds, nD, nw, rfl, Nat.zero_le _, rfl, rfl, by simpa using st, hI, hmx, hJ, hnJ⟩ (fun _ => rfl)
    rintro k s' ⟨h', tk, j, mc', ds', nD', nw', rfl, hj, rfl, hdl, st', hI', hmx', hJ', hnJ'⟩
    have hlb : h'.IsList b vb.toArray := News.isList st'.led (List.Mem.tail _ (st'.sub _ hb))
    by_cases hlt : j < vb.length
    · obtain ⟨v, hv⟩ : ∃ v, vb[j]? = some v := ⟨vb[j], List.getElem?_eq_getElem hlt⟩
      obtain ⟨l2, hl2, q, its2, n2, rfl, hq, hi2⟩ := rb.get hv
      refine wpAny_pyNext_list_item hJ' hlb (by simpa using hv) fun h1 J1 k1 => ?_
      have k1 : Heap.SameBut J h' h1 := k1
      have st1 := st'.but k1.extBut ap.jl ap.j0 (Ne.symm ap.jc) (Ne.symm ap.jd) hnJ'
      have I1 := k1.extBut I oI ap.ij hI'
      refine wpAny_assign_Name (wpAny_storeName_local (lookup_relabel_local hy) st1.ns (fun h2 n2' k2 => ?_) (by simp [compEnvC, relabel, hkind]))
      have k2 : Heap.SameBut C h1 h2 := k2
      have st2 := st1.put n2' k2 ap.cl ap.c0 ap.cd
      have I2 := k2.extBut I oI ap.ic I1
      obtain ⟨oJ, hoJ, hcJ, hdJ⟩ := J1
      have J2 := k2.extBut J oJ ap.jc hoJ
      obtain ⟨oC, heC, hoC⟩ := LCg.ns_obj st2.ns
      have N3 : News h₀ L h2 ((I, oI) :: (J, oJ) :: (C, oC) :: (D, listOf (List.toArray ds') nD') :: (nw' ++ news)) := fun r hr => by
        rcases List.mem_cons.mp hr with rfl | hr
        · exact ⟨I2, ap.il, ap.i0⟩
        rcases List.mem_cons.mp hr with rfl | hr
        · exact ⟨J2, ap.jl, ap.j0⟩
        rcases List.mem_cons.mp hr with rfl | hr
        · exact ⟨heC, ap.cl, ap.c0⟩
        · exact st2.led r hr
      refine wpAny_BinOp (wpAny_Name (wpAny_loadName_local hkind (lookup_relabel_local hx) st2.ns (v := .ref p) (by simp only [if_neg hxy]; exact hmx') ?_) hdx)
      refine wpAny_Name (wpAny_loadName_local hkind (lookup_relabel_local hy) st2.ns (v := .ref q) (if_pos rfl) ?_) hdy
      have hl2m : l2 ∈ A2 := List.mem_of_getElem? hl2
      have e2 : its2.length = l2.length := hi2.length
      refine add_lists st2.fr N3 (News.isList st2.led (List.Mem.tail _ (st2.sub _ hp))) (News.isList st2.led (List.Mem.tail _ (st2.sub _ hq))) (fun h4 F4 N4 => ?_) (by rw [sizeLine_eq]; have := hs2 l2 hl2m; omega)
      generalize hT : (h2.objs.size) = T at N4
      have N4 : News h₀ L h4 ((T, listOf (List.toArray (its1 ++ its2)) 0) :: (I, oI) :: (J, oJ) :: (C, oC) :: (D, listOf (List.toArray ds') nD') :: (nw' ++ news)) := by subst hT; exact N4
      have lt3 : ∀ r ∈ (I, oI) :: (J, oJ) :: (C, oC) :: (D, listOf (List.toArray ds') nD') :: (nw' ++ news), r.1 ≠ T := fun r hr => by
        have := Heap.lt_size (N3 r hr).1
        rw [hT] at this
        exact Nat.ne_of_lt this
      have zD := (N4 (D, listOf (List.toArray ds') nD') (.tail _ (.tail _ (.tail _ (.tail _ (.head _)))))).1
      have zI := (N4 (I, oI) (.tail _ (.head _))).1
      have zJ := (N4 (J, oJ) (.tail _ (.tail _ (.head _)))).1
      have zC := (N4 (C, oC) (.tail _ (.tail _ (.tail _ (.head _))))).1
      have tD : T ≠ D := Ne.symm (lt3 _ (.tail _ (.tail _ (.tail _ (.head _)))))
      have tC : T ≠ C := Ne.symm (lt3 _ (.tail _ (.tail _ (.head _))))
      have tJ : T ≠ J := Ne.symm (lt3 _ (.tail _ (.head _)))
      have tI : T ≠ I := Ne.symm (lt3 _ (.head _))
      subst hT
      refine append_at (hsz := by rw [List.size_toArray, sizeLine_eq, hdl]; omega) zD fun h5 k5 hD5 => ?_
      have k5 : Heap.SameBut D h4 h5 := k5
      refine ⟨vb.length + 1 - (j + 1), by omega, h5, _, j + 1, (fun z => if z = y then some (.ref q) else mc' z), ds' ++ [.ref h2.objs.size], nD' + 1, (h2.objs.size, listOf (List.toArray (its1 ++ its2)) 0) :: nw', rfl, hlt, rfl, by rw [List.length_append, hdl]; rfl, ?_, k5.extBut _ _ ap.id zI, ?_, ⟨oJ, k5.extBut _ _ ap.jd zJ, hcJ, hdJ⟩, ?_⟩
      · refine ⟨F4.change k5 ap.dl ap.d0, (hoC.ns zC).sameBut k5 ap.cd, ?_, ?_, ?_, ?_⟩
        · intro r hr
          rcases List.mem_cons.mp hr with rfl | hr
          · exact ⟨hD5.trans (by rw [List.push_toArray]), ap.dl, ap.d0⟩
          rcases List.mem_cons.mp hr with rfl | hr
          · have z := N4 _ (List.Mem.head _)
            exact ⟨k5.extBut _ _ tD z.1, z.2⟩
          · have z := N4 r (.tail _ (.tail _ (.tail _ (.tail _ (.tail _ hr)))))
            exact ⟨k5.extBut _ _ (st'.off r hr).2.2 z.1, z.2⟩
        · intro r hr
          rcases List.mem_cons.mp hr with rfl | hr
          · exact ⟨tI, tC, tD⟩
          · exact st'.off r hr
        · intro r hr
          rcases List.mem_cons.mp hr with rfl | hr
          · exact ⟨fun q9 hq9 => Ne.symm (lt3 q9 (.tail _ (.tail _ (.tail _ (.tail _ (st'.sub q9 hq9)))))), by simp⟩
          · exact st'.new r hr
        · have e3 : A2.take (j + 1) = A2.take j ++ [l2] := by rw [List.take_succ, hl2]; rfl
          rw [e3, List.map_append, ← List.append_assoc]
          exact RowsAre.snoc ⟨_, _, _, rfl, .head _, hi1.append hi2⟩ (RowsAre.mono (fun r hr => .tail _ hr) st'.rows)
      · simp only [if_neg hxy]; exact hmx'
      · intro r hr
        rcases List.mem_cons.mp hr with rfl | hr
        · exact tJ
        · exact hnJ' r hr
    · obtain rfl : j = vb.length := by omega
      refine wpAny_pyNext_list_end hh hJ' hlb (by simp) fun h1 k1 => ?_
      have st1 := st'.but k1 ap.jl ap.j0 (Ne.symm ap.jc) (Ne.symm ap.jd) hnJ'
      refine ret h1 tk mc' ds' nD' nw' ?_ (k1 I oI ap.ij hI') hdl
      rw [hlen, List.take_length] at st1
      exact st1
  exact start_in (loop s rfl) (wpAny_pyIter_listiter hJ (loop s rfl))
/-- [x + y for x in i1 for y in i2] of rows of ints -/
theorem comp2 {x y : Str} {px py p1 p2 pb pos : Pos} {i1 i2 : Ex} {scope : Scope} {cl : List (Str × Addr)} {a b : Addr} {va vb : List Value} {na nb : Nat} {A1 A2 : List (List Int)} {Q : Value → Shared → Prop}
    (hh : A.handled = none) (hclos : closureFor scope env = pure cl) (hcell : ∀ z ∈ scope.names, z.2 ≠ .cell) (hkind : scope.kind = .function) (hnames : ∀ z ∈ scope.names, z.2 = .local → scope.names.lookup z.1 = some .local)
    (hx : scope.names.lookup x = some .local) (hy : scope.names.lookup y = some .local) (hxy : x ≠ y) (hdx : (x == ("__debug__" : Str)) = false) (hdy : (y == ("__debug__" : Str)) = false)
    (F : Fr h₀ L s.heap m) (N : News h₀ L s.heap news) (ha : (a, listOf (List.toArray va) na) ∈ news) (hb : (b, listOf (List.toArray vb) nb) ∈ news) (ra : RowsAre news A1 va) (rb : RowsAre news A2 vb) (hsa : va.length ≤ 100) (hsb : vb.length ≤ 100)
    (hs1 : ∀ l ∈ A1, l.length ≤ 1000) (hs2 : ∀ l ∈ A2, l.length ≤ 1000)
    (it1 : ∀ Q' : Value → Shared → Prop, (∀ tk, Q' (.ref a) { s with toks := tk }) → wpAny (model Prg w) A (eval i1 env) Q' E s)
    (it2 : ∀ (C : Addr) (h : Heap) (tk : Nat) (mc : Str → Option Value) (Q' E' : Value → Shared → Prop), h.Ns C mc → Fr h₀ L h m → News h₀ L h news → (∀ tk', Q' (.ref b) { s with heap := h, toks := tk' }) → wpAny (model Prg w) A (eval i2 (compEnvC scope cl C env)) Q' E' { s with heap := h, toks := tk })
    (hf1 : ∀ v, foldedSetIterable i1 env v = pure v) (hf2 : ∀ C v, foldedSetIterable i2 (compEnvC scope cl C env) v = pure v)
    (ret : ∀ D h' tk ds nD nw, Fr h₀ L h' m → News h₀ L h' ((D, listOf (List.toArray ds) nD) :: (nw ++ news)) → (∀ q ∈ nw, (∀ r ∈ news, q.1 ≠ r.1) ∧ q.2.cls ≠ .type "tuple_iterator") → (∀ q ∈ nw ++ news, q.1 ≠ D) → RowsAre nw (A1.flatMap fun r1 => A2.map (r1 ++ ·)) ds → Q (.ref D) { s with heap := h', toks := tk }) :
    wpAny (model Prg w) A (eval (Cmp2 x y px py p1 p2 pb pos i1 i2 scope) env) Q E s := by
  have hla := RowsAre.length ra
  have hlb := RowsAre.length rb
  rw [eval_ListComp]
  refine wpAny_comprehension_free (use := none) rfl hf1 hclos hkind hnames (it1 _ fun tk0 => ?_)
  refine wpAny_pyIter_list (items := va.toArray) (News.isList N ha) ?_
  refine wpAny_newObj_type (wpAny_newFunctionEnv hcell (by intro z hz; simp at hz) (fun h1 ns1 k1 => ?_) hkind)
  dsimp only at ns1 k1 ⊢
  generalize hH1 : s.heap.push { cls := .type "list_iterator", data := .fields #[.ref a, .int 0 0] } = H1 at ns1 k1 ⊢
  generalize hH2 : H1.push { cls := .type "list", dict := none, data := .seq ([] : List Value).toArray } = H2 at ns1 k1 ⊢
  have hD : H1.objs.size = s.heap.objs.size + 1 := by rw [← hH1, Heap.size_push]
  have hC : H2.objs.size = s.heap.objs.size + 2 := by rw [← hH2, Heap.size_push, hD]
  have z1 : s.heap.objs.size ≠ H2.objs.size := by rw [hC]; exact Nat.ne_of_lt (Nat.lt_add_of_pos_right (by decide))
  have z2 : s.heap.objs.size ≠ H1.objs.size := by rw [hD]; exact Nat.ne_of_lt (Nat.lt_succ_self _)
  have z3 : H1.objs.size ≠ H2.objs.size := by rw [hC, hD]; exact Nat.ne_of_lt (Nat.lt_succ_self _)
  have below : ∀ b, b < s.heap.objs.size → b ≠ s.heap.objs.size ∧ b ≠ H2.objs.size ∧ b ≠ H1.objs.size := fun b hb =>
    ⟨Nat.ne_of_lt hb, by rw [hC]; exact Nat.ne_of_lt (Nat.lt_of_lt_of_le hb (Nat.le_add_right _ _)), by rw [hD]; exact Nat.ne_of_lt (Nat.lt_succ_of_lt hb)⟩
  have up : ∀ b o, H1.get? b = some o → b ≠ H2.objs.size → h1.get? b = some o := fun b o e hb => k1.extBut b o hb (Heap.get?_push_of_some _ (hH2 ▸ Heap.get?_push_of_some _ e))
  have old : ∀ b o, s.heap.get? b = some o → h1.get? b = some o := fun b o e => up b o (hH1 ▸ Heap.get?_push_of_some _ e) (below b (Heap.lt_size e)).2.1
  have hit : h1.IsListIter s.heap.objs.size a 0 := ⟨_, up _ _ (hH1 ▸ Heap.get?_push_size _ rfl) z1, rfl, rfl⟩
  have hacc : h1.get? H1.objs.size = some (listOf (List.toArray []) 0) := k1.extBut _ _ z3 (Heap.get?_push_of_some _ (hH2 ▸ Heap.get?_push_size _ rfl))
  have fresh0 : ∀ c, s.heap.objs.size ≤ c → h₀.get? c = none := fun c hc => by
    cases e : h₀.get? c with
    | none => rfl
    | some o' => exact absurd (Heap.lt_size (F.keep c o' e)) (Nat.not_lt.mpr hc)
  have lL : L < s.heap.objs.size := F.ns.lt
  have hI0 := fresh0 _ (Nat.le_refl _)
  have hD0 : h₀.get? H1.objs.size = none := fresh0 _ (by rw [hD]; exact Nat.le_succ _)
  have hC0 : h₀.get? H2.objs.size = none := fresh0 _ (by rw [hC]; exact Nat.le_add_right _ _)
  have st0 : In2 h₀ L m news s.heap.objs.size H2.objs.size H1.objs.size [] h1 (fun x => ([] : List (Str × Value)).reverse.lookup x) [] 0 [] :=
    ⟨F.keeps old, ns1, fun q hq => by
      rcases List.mem_cons.mp hq with rfl | hq
      · exact ⟨hacc, Ne.symm (below L lL).2.2, hD0⟩
      · exact ⟨old _ _ (N q hq).1, (N q hq).2⟩, fun q hq => below _ (Heap.lt_size (N q hq).1), fun q hq => (nomatch hq), rfl⟩
  clear k1 ns1 up old hacc
  generalize hI : s.heap.objs.size = I at *
  generalize H1.objs.size = D at *
  generalize H2.objs.size = C at *
  have loop : ∀ s₃ : Shared, s₃ = { s with heap := h1, toks := tk0 + ([] : List (Str × Value)).length } →
      codeAny (model Prg w) A (.compLoop (Cmp2 x y px py p1 p2 pb pos i1 i2 scope) 0 (.ref I) (.ref D) (compEnvC scope cl C env)) (compPost (model Prg w) A E none Q (.ref D) C) s₃ := by
    rintro s₃ rfl
    refine loop_out (fun k s' => ∃ h' tk i mc ds nD nw, s' = { s with heap := h', toks := tk } ∧ i ≤ va.length ∧ k = va.length + 1 - i ∧ ds.length = i * vb.length ∧ In2 h₀ L m news I C D ((A1.take i).flatMap fun r1 => A2.map (r1 ++ ·)) h' mc ds nD nw ∧ h'.IsListIter I a i) ?_ (va.length + 1)
      ⟨h1, _, 0, _, [], 0, [], rfl, Nat.zero_le _, rfl, by simp, st0, hit⟩ (fun _ => rfl) (hf2 C)
    rintro k s' ⟨h', tk, i, mc, ds, nD, nw, rfl, hi, rfl, hdl, st, hI'⟩
    have hlA : h'.IsList a va.toArray := News.isList st.led (List.Mem.tail _ (st.sub _ ha))
    have offI : ∀ q ∈ nw ++ news, q.1 ≠ I := fun q hq => (st.off q hq).1
    have hIL : I ≠ L := Ne.symm (below L lL).1
    have hCL : C ≠ L := Ne.symm (below L lL).2.1
    have hDL : D ≠ L := Ne.symm (below L lL).2.2
    by_cases hlt : i < va.length
    · obtain ⟨v, hv⟩ : ∃ v, va[i]? = some v := ⟨va[i], List.getElem?_eq_getElem hlt⟩
      obtain ⟨l1, hl1, p, its1, n1, rfl, hp, hi1⟩ := ra.get hv
      refine wpAny_pyNext_list_item hI' hlA (by simpa using hv) fun h2 I2 k2 => ?_
      have k2 : Heap.SameBut I h' h2 := k2
      have st2 := st.but k2.extBut hIL hI0 (Ne.symm z1) (Ne.symm z2) offI
      refine wpAny_assign_Name (wpAny_storeName_local (lookup_relabel_local hx) st2.ns (fun h3 n3 k3 => ?_) (by simp [compEnvC, relabel, hkind]))
      have k3 : Heap.SameBut C h2 h3 := k3
      have st3 := st2.put n3 k3 hCL hC0 (Ne.symm z3)
      obtain ⟨oI, hoI, hcI, hdI⟩ := I2
      have I3 := k3.extBut I oI z1 hoI
      refine it2 C h3 _ _ _ _ st3.ns st3.fr (fun q hq => st3.led q (List.Mem.tail _ (st3.sub q hq))) fun tk4 => ?_
      refine wpAny_pyIter_list (items := vb.toArray) (News.isList st3.led (List.Mem.tail _ (st3.sub _ hb))) ?_
      rw [Around.mark_none]
      have lt3 : ∀ q ∈ (D, listOf (List.toArray ds) nD) :: (nw ++ news), q.1 ≠ h3.objs.size := fun q hq => Nat.ne_of_lt (Heap.lt_size (st3.led q hq).1)
      have lC3 : C ≠ h3.objs.size := Nat.ne_of_lt st3.ns.lt
      have lI3 : I ≠ h3.objs.size := Nat.ne_of_lt (Heap.lt_size I3)
      have lD3 : D ≠ h3.objs.size := lt3 _ (.head _)
      have lL3 : L ≠ h3.objs.size := Nat.ne_of_lt st3.fr.ns.lt
      have hJ0 : h₀.get? h3.objs.size = none := by
        cases e : h₀.get? h3.objs.size with
        | none => rfl
        | some o' => exact absurd (Heap.lt_size (st3.fr.keep _ o' e)) (Nat.lt_irrefl _)
      have st4 := st3.but (X := h3.objs.size) (h' := h3.push { cls := .type "list_iterator", data := .fields #[.ref b, .int 0 0] }) (fun b o _ e => Heap.get?_push_of_some _ e) (Ne.symm lL3) hJ0 lC3 lD3 fun q hq => lt3 q (.tail _ hq)
      have hl1m : l1 ∈ A1 := List.mem_of_getElem? hl1
      refine inner (its1 := its1) (l1 := l1) (oI := oI) (A2 := A2) (vb := vb) hh hkind hx hy hxy hdx hdy ⟨lI3, z1, z2, Ne.symm lC3, Ne.symm lD3, Ne.symm z3, hIL, Ne.symm lL3, hCL, hDL, hI0, hJ0, hC0, hD0⟩ hb rb hp hi1 (by rw [hi1.length]; exact hs1 l1 hl1m) hs2
        (by
          have h1 : ds.length ≤ 100 * 100 := by rw [hdl]; exact Nat.mul_le_mul (by omega) hsb
          omega) st4 (Heap.get?_push_of_some _ I3) (if_pos rfl) ⟨_, Heap.get?_push_size _ rfl, rfl, rfl⟩ (fun q hq => lt3 q (.tail _ hq)) fun h5 tk5 mc5 ds5 nD5 nw5 st5 I5 hl5 => ?_
      refine ⟨va.length + 1 - (i + 1), by omega, h5, tk5, i + 1, mc5, ds5, nD5, nw5, rfl, hlt, rfl, by rw [hl5, hdl, Nat.succ_mul], ?_, ⟨oI, I5, hcI, hdI⟩⟩
      have e3 : A1.take (i + 1) = A1.take i ++ [l1] := by rw [List.take_add_one, hl1]; rfl
      rw [e3, List.flatMap_append, List.flatMap_singleton]
      exact st5
    · obtain rfl : i = va.length := by omega
      refine wpAny_pyNext_list_end hh hI' hlA (by simp) fun h2 k2 => ?_
      have st2 := st.but k2 hIL hI0 (Ne.symm z1) (Ne.symm z2) offI
      refine ⟨_, st2.ns, fun h3 k3 => ?_⟩
      have k3 : Heap.SameBut C h2 h3 := k3
      have hr := st2.rows
      rw [hla, List.take_length] at hr
      refine ret D h3 tk ds nD nw (st2.fr.change k3 hCL hC0) (fun q hq => ⟨k3.extBut _ _ ?_ (st2.led q hq).1, (st2.led q hq).2⟩) st2.new (fun q hq => (st2.off q hq).2.2) hr
      rcases List.mem_cons.mp hq with rfl | hq
      · exact z3
      · exact (st2.off q hq).2.1
  exact codeAny_compStart_list (loop _ rfl) (wpAny_pyIter_listiter hit (loop _ rfl))
end
end Mine
set_option maxHeartbeats 4000000
namespace Mine
/-- what P says of the items, one by one -/
def Rels {α : Type} (P : α → Value → Prop) : List α → List Value → Prop
  | [], vs => vs = []
  | a :: r, vs => ∃ v us, vs = v :: us ∧ P a v ∧ Rels P r us
section
variable {α : Type} {P P' : α → Value → Prop}
theorem Rels.imp (h : ∀ a v, P a v → P' a v) : ∀ {as : List α} {vs : List Value}, Rels P as vs → Rels P' as vs
  | [], _, e => e
  | _ :: _, _, ⟨v, us, e, q, r⟩ => ⟨v, us, e, h _ _ q, Rels.imp h r⟩
theorem Rels.append {bs : List α} {ws : List Value} (h : Rels P bs ws) : ∀ {as : List α} {vs : List Value}, Rels P as vs → Rels P (as ++ bs) (vs ++ ws)
  | [], _, e => by subst e; exact h
  | _ :: _, _, ⟨u, us, e, q, r⟩ => by subst e; exact ⟨u, us ++ ws, rfl, q, Rels.append h r⟩
theorem Rels.length : ∀ {as : List α} {vs : List Value}, Rels P as vs → vs.length = as.length
  | [], _, e => by subst e; rfl
  | _ :: _, _, ⟨u, us, e, q, r⟩ => by subst e; simp [Rels.length r]
theorem Rels.take : ∀ {as : List α} {vs : List Value} (n : Nat), Rels P as vs → Rels P (as.take n) (vs.take n)
  | [], _, n, e => by subst e; cases n <;> exact rfl
  | _ :: _, _, 0, _ => rfl
  | _ :: _, _, n + 1, ⟨u, us, e, q, r⟩ => by subst e; exact ⟨u, us.take n, rfl, q, Rels.take n r⟩
theorem Rels.drop : ∀ {as : List α} {vs : List Value} (n : Nat), Rels P as vs → Rels P (as.drop n) (vs.drop n)
  | [], _, n, e => by subst e; cases n <;> exact rfl
  | _ :: _, _, 0, h => h
  | _ :: _, _, n + 1, ⟨u, us, e, q, r⟩ => by subst e; exact Rels.drop n r
theorem Rels.at : ∀ {as : List α} {vs : List Value} {i : Nat} {a : α}, Rels P as vs → as[i]? = some a → ∃ v, vs[i]? = some v ∧ P a v
  | [], _, _, _, _, h => by simp at h
  | _ :: _, _, 0, _, ⟨u, us, e, q, r⟩, h => by subst e; simp at h; subst h; exact ⟨u, rfl, q⟩
  | _ :: _, _, i + 1, _, ⟨u, us, e, q, r⟩, h => by subst e; simp at h; simpa using Rels.at r h
theorem Rels.one {a : α} {v : Value} (h : P a v) : Rels P [a] [v] := ⟨v, [], rfl, h, rfl⟩
end
abbrev TC := List Str × List (List (List Int))
def joined (x y : Str) (b : Bool) : Str := (⟨#[40]⟩ : Str) ++ x ++ (if b then (⟨#[124]⟩ : Str) else ⟨#[38]⟩) ++ y ++ (⟨#[41]⟩ : Str)
def clMade (c d : List (List Int)) (b : Bool) : List (List Int) := if b then c ++ d else c.flatMap fun x => d.map (x ++ ·)
def stepTC (p : TC) (k : Nat) (b : Bool) : TC :=
  (p.1.take k ++ [joined (p.1.getD k Str.empty) (p.1.getD (k + 1) Str.empty) b] ++ p.1.drop (k + 2), p.2.take k ++ [clMade (p.2.getD k []) (p.2.getD (k + 1) []) b] ++ p.2.drop (k + 2))
def fTurn (p : TC × Int) (sz : Int) : TC × Int := (stepTC p.1 (p.2.fmod sz).toNat ((p.2.fdiv sz).fmod 2 == 1), (p.2.fdiv sz).fdiv 2)
def tc0 : TC := ([⟨#[97]⟩, ⟨#[98]⟩, ⟨#[99]⟩, ⟨#[100]⟩], [[[0]], [[1]], [[2]], [[3]]])
def fAt (n : Int) : Nat → TC × Int
  | 0 => (tc0, n)
  | i + 1 => fTurn (fAt n i) (3 - (i : Int))
/-- what the turns ask of the texts and clauses -/
def okTC (p : TC) (n : Nat) : Bool := p.1.length == n && p.2.length == n && p.1.all (fun x => decide (x.length ≤ 100)) && p.2.all (fun c => decide (c.length ≤ 100) && c.all fun r => decide (r.length ≤ 1000))
theorem ok0 : okTC tc0 4 = true := by decide +kernel
theorem ok1 : ((List.range 3).all fun k => [true, false].all fun b => okTC (stepTC tc0 k b) 3) = true := by decide +kernel
theorem ok2 : ((List.range 3).all fun k => [true, false].all fun b => (List.range 2).all fun l => [true, false].all fun c => okTC (stepTC (stepTC tc0 k b) l c) 2) = true := by decide +kernel
theorem mem_bool (b : Bool) : b ∈ [true, false] := by cases b <;> simp
theorem fmod_mem {n : Int} {k : Nat} (hk : 0 < k) : (n.fmod (k : Int)).toNat ∈ List.range k := by
  have h1 := Int.fmod_nonneg_of_pos n (show (0 : Int) < (k : Int) by omega)
  have h2 := Int.fmod_lt_of_pos n (show (0 : Int) < (k : Int) by omega)
  rw [List.mem_range]
  omega
theorem okAt (n : Int) : ∀ i, i < 3 → okTC (fAt n i).1 (4 - i) = true
  | 0, _ => ok0
  | 1, _ => List.all_eq_true.mp (List.all_eq_true.mp ok1 _ (fmod_mem (n := n) (k := 3) (by decide))) _ (mem_bool _)
  | 2, _ => List.all_eq_true.mp (List.all_eq_true.mp (List.all_eq_true.mp (List.all_eq_true.mp ok2 _ (fmod_mem (n := n) (k := 3) (by decide))) _ (mem_bool _)) _ (fmod_mem (n := (fAt n 1).2) (k := 2) (by decide))) _ (mem_bool _)
  | i + 3, h => absurd h (by omega)
/-- the 48 ends of the three turns -/
def ends : List TC := (List.range 3).flatMap fun k => [true, false].flatMap fun b => (List.range 2).flatMap fun l => [true, false].flatMap fun c => [true, false].map fun d => stepTC (stepTC (stepTC tc0 k b) l c) 0 d
theorem fAt_end (n : Int) : (fAt n 3).1 ∈ ends := by
  have e1 : ∀ z : Int, z.fmod ((1 : Nat) : Int) = 0 := fun z => by
    have h1 := Int.fmod_nonneg_of_pos z (show (0 : Int) < 1 by omega)
    have h2 := Int.fmod_lt_of_pos z (show (0 : Int) < 1 by omega)
    show z.fmod 1 = 0
    omega
  refine List.mem_flatMap.mpr ⟨_, fmod_mem (n := n) (k := 3) (by decide), List.mem_flatMap.mpr ⟨(n.fdiv 3).fmod 2 == 1, mem_bool _, List.mem_flatMap.mpr ⟨_, fmod_mem (n := (fAt n 1).2) (k := 2) (by decide), List.mem_flatMap.mpr ⟨((fAt n 1).2.fdiv 2).fmod 2 == 1, mem_bool _, List.mem_map.mpr ⟨((fAt n 2).2.fdiv 1).fmod 2 == 1, mem_bool _, ?_⟩⟩⟩⟩⟩
  have e2 := e1 (fAt n 2).2
  show _ = stepTC _ ((fAt n 2).2.fmod ((1 : Nat) : Int)).toNat _
  rw [e2]
  rfl
/-- all of them are of one text and one list of clauses -/
theorem ends_one : (ends.all fun p => p.1.length == 1 && p.2.length == 1) = true := by decide +kernel
end Mine
set_option maxHeartbeats 4000000
namespace Mine
theorem fill17 : True := by
  w_top off
  exact True.intro
section
variable {w : World} {A : Around} {E : Value → Shared → Prop} {env : Env} {h₀ : Heap} {m₀ : Str → Option Value} {news : List (Addr × Obj)} {s₀ s : Shared} {x : Str} {body : List Stmt} {Q : Flow → Shared → Prop}
/-- a loop over a tuple that it leaves alone: the ledger may grow, the body may return -/
theorem tupG {l : Addr} {vs : List Value} (R : Nat → (Str → Option Value) → List (Addr × Obj) → Prop) (hh : A.handled = none) (hl' : s.heap.IsTuple l vs.toArray) (hlL : l ≠ env.locals) (S : Same s₀ s) (F : Fr h₀ env.locals s.heap m₀) (N : News h₀ env.locals s.heap news) (hR : R 0 m₀ news)
    (turn : ∀ i v m₁ nx s₁ own, vs[i]? = some v → (∀ p ∈ own, p.1 = l ∨ ∀ q ∈ nx, p.1 ≠ q.1) → Same s₀ s₁ → R i m₁ nx → Fr h₀ env.locals s₁.heap (fun z => if z = x then some v else m₁ z) → News h₀ env.locals s₁.heap (nx ++ own) →
      ∀ Q' : Flow → Shared → Prop, (∀ s₂ m' nx', Same s₀ s₂ → Fr h₀ env.locals s₂.heap m' → News h₀ env.locals s₂.heap (nx' ++ own) → (∀ p ∈ nx', p.1 ∈ nx.map (·.1) ∨ p.2.cls ≠ .type "tuple_iterator") → R (i + 1) m' nx' → Q' .next s₂) →
      (∀ v s₂, Q (.ret v) s₂ → Q' (.ret v) s₂) → wpAny (model Prg w) A (execs body env) Q' E s₁)
    (done : ∀ m₁ nx s₂, Same s₀ s₂ → R vs.length m₁ nx → Fr h₀ env.locals s₂.heap m₁ → News h₀ env.locals s₂.heap nx → Q .next s₂) :
    wpAny (model Prg w) A (pyIter (.ref l)) (fun it s₂ => LoopAtV Prg w A h₀ env x body Q E it s₂) E s := by
  have hlt : l < s.heap.objs.size := by
    obtain ⟨o, ho, r⟩ := hl'
    exact Heap.lt_size ho
  refine wpAny_pyIter_tuple hl' ?_
  refine ⟨s.heap.objs.size, [s.heap.objs.size, l], [s.heap.objs.size], vs.toArray.size, _, _, m₀, news, R, rfl, Walks.tuple hh _ l (Nat.ne_of_lt hlt) vs.toArray, ?_, ?_, ?_, ?_, F.push _, fun p hp => ⟨Heap.get?_push_of_some _ (N p hp).1, (N p hp).2⟩, hR, ?_, ?_⟩
  · intro hm
    rcases List.mem_cons.mp hm with e | hm
    · exact Nat.ne_of_lt F.ns.lt e
    · exact hlL (List.mem_singleton.mp hm).symm
  · intro b hb
    rw [List.mem_singleton.mp hb]
    exact next_is_new F
  · intro p hp hI
    exact absurd (Heap.lt_size (N p hp).1) ((List.mem_singleton.mp hI) ▸ Nat.lt_irrefl _)
  · refine ⟨⟨_, Heap.get?_push_size _ rfl, rfl, rfl⟩, ?_⟩
    obtain ⟨o, ho, r⟩ := hl'
    exact ⟨o, Heap.get?_push_of_some _ ho, r⟩
  · rintro i v m₁ nx s₁ own ⟨hh', tk', rfl⟩ hin hP hJ hoff hown _ hall hst F₁ N₁
    obtain ⟨⟨oI, hoI, hcI, _⟩, _⟩ := hst
    have hmem : (s.heap.objs.size, oI) ∈ own := hall _ (.head _) (next_is_new F) _ hoI
    have hapart : ∀ p ∈ own, p.1 = l ∨ ∀ q ∈ nx, p.1 ≠ q.1 := fun p hp => by
      rcases List.mem_cons.mp (hown p hp) with e | e
      · exact .inr fun q hq e' => hoff q hq (by rw [← e', e]; exact .head _)
      · exact .inl (List.mem_singleton.mp e)
    have S₁ : Same s₀ { s with heap := hh', toks := tk' } := S
    have N₂ : News h₀ env.locals hh' (nx ++ own) := fun p hp => N₁ p ((List.mem_append.mp hp).elim (fun h => List.mem_append.mpr (.inr h)) fun h => List.mem_append.mpr (.inl h))
    refine turn i v m₁ nx _ own (by rw [← List.getElem?_toArray]; exact hP) hapart S₁ hJ F₁ N₂ _ (fun s₂ m' nx' S₂ F₂ N₃ hcl hR' => ?_) fun v s₂ h => .ret h
    refine .next ⟨rfl, s₂.heap, s₂.toks, m', nx', ?_, F₂, fun p hp => N₃ p ((List.mem_append.mp hp).elim (fun h => List.mem_append.mpr (.inr h)) fun h => List.mem_append.mpr (.inl h)), fun p hp hI => ?_, hR'⟩
    · have e := S₂.is
      obtain ⟨q1, q2, q3⟩ := S₁
      rw [← q1, ← q2, ← q3] at e
      exact e
    · have hI := List.mem_singleton.mp hI
      rcases hcl p hp with h1 | h1
      · obtain ⟨q, hq1, hq2⟩ := List.mem_map.mp h1
        exact hoff q hq1 (by rw [hq2, hI]; exact .head _)
      · have h2 := (N₃ p (List.mem_append_left _ hp)).1
        rw [hI, (N₃ _ (List.mem_append_right _ hmem)).1] at h2
        exact h1 (by rw [← Option.some.inj h2]; exact hcI)
  · intro h' tk m' news' F' N' _ hJ
    exact done m' news' _ S (by simpa using hJ) F' N'
end
def StrIs (x : Str) (v : Value) : Prop := ∃ t, v = .str x t
def ClIs (nw : List (Addr × Obj)) (c : List (List Int)) (v : Value) : Prop := ∃ p us n, v = .ref p ∧ (p, listOf (List.toArray us) n) ∈ nw ∧ RowsAre nw c us
theorem ClIs.mono {nw nw' : List (Addr × Obj)} {c : List (List Int)} {v : Value} (h : ClIs nw c v) (hs : ∀ p ∈ nw, p ∈ nw') : ClIs nw' c v := by
  obtain ⟨p, us, n, e, q, r⟩ := h
  exact ⟨p, us, n, e, hs _ q, RowsAre.mono hs r⟩
def Off2 (L a : Nat) : Prop := a ≠ L + 1 + 1 ∧ a ≠ L + 1
def NeN (a b : Nat) : Prop := a ≠ b
def Off4 (L lt lc a : Nat) : Prop := a ≠ L + 1 + 1 ∧ a ≠ L + 1 ∧ a ≠ lt ∧ a ≠ lc
/-- a state amid a turn: texts T, clauses C, n and k -/
def FSt (s₀ : Shared) (g : Heap) (L lt lc : Addr) (sz : Int) (bs ow : List (Addr × Obj)) (p : TC) (n : Int) (k : Option Nat) (s : Shared) : Prop :=
  ∃ m tvs nt cvs nc oK oC tn tz ex, Same s₀ s ∧ Fr g L s.heap m ∧ News g L s.heap ((L + 1 + 1, oK) :: (L + 1, oC) :: (lt, listOf (List.toArray tvs) nt) :: (lc, listOf (List.toArray cvs) nc) :: (ex ++ (bs ++ ow))) ∧
    m (Str.ofString "n") = some (.int n tn) ∧ m (Str.ofString "texts") = some (.ref lt) ∧ m (Str.ofString "size") = some (.int sz tz) ∧ oC.data = .cell (some (.ref lc)) ∧ (∃ v, oK.data = .cell v) ∧ (∀ i, k = some i → ∃ t, oK.data = .cell (some (.int i t))) ∧
    Rels StrIs p.1 tvs ∧ Rels (ClIs (ex ++ bs)) p.2 cvs ∧ ∀ q ∈ ex, Off4 L lt lc q.1 ∧ q.2.cls ≠ .type "tuple_iterator"
theorem len_app (x y : Str) : (x ++ y).length = x.length + y.length := by
  show (x.cps ++ y.cps).size = _
  simp [Str.length]
theorem lenL : (Str.ofString "(").length = 1 := by decide +kernel
theorem lenR : (Str.ofString ")").length = 1 := by decide +kernel
theorem item_len (x : Str) (i : Int) : (Txt.item x i).length ≤ 1 := by
  exact Nat.le_refl 1
theorem join_eq (x y : Str) (z : Int) (h0 : 0 ≤ z) (h1 : z < 2) : Str.ofString "(" ++ x ++ Txt.item (Str.ofString "&|") z ++ y ++ Str.ofString ")" = joined x y (z == 1) := by
  have e1 : Str.ofString "(" = ⟨#[40]⟩ := by decide +kernel
  have e2 : Str.ofString ")" = ⟨#[41]⟩ := by decide +kernel
  have e3 : Txt.item (Str.ofString "&|") 0 = ⟨#[38]⟩ := by decide +kernel
  have e4 : Txt.item (Str.ofString "&|") 1 = ⟨#[124]⟩ := by decide +kernel
  rcases (show z = 0 ∨ z = 1 by omega) with rfl | rfl
  · rw [e1, e2, e3]; rfl
  · rw [e1, e2, e4]; rfl
/-- the first of five goes behind the others -/
theorem news_five {g h : Heap} {L : Addr} {x a b c d : Addr × Obj} {r : List (Addr × Obj)} (N : News g L h (x :: a :: b :: c :: d :: r)) : News g L h (a :: b :: c :: d :: (x :: r)) := fun q hq => N q (by
  simp only [List.mem_cons] at hq ⊢
  rcases hq with h | h | h | h | h | h <;> simp [h])
theorem news_six {g h : Heap} {L : Addr} {x y a b c d : Addr × Obj} {r : List (Addr × Obj)} (N : News g L h (x :: y :: a :: b :: c :: d :: r)) : News g L h (a :: b :: c :: d :: (x :: y :: r)) := fun q hq => N q (by
  simp only [List.mem_cons] at hq ⊢
  rcases hq with h | h | h | h | h | h | h <;> simp [h])
theorem okTC.facts {p : TC} {n : Nat} (h : okTC p n = true) : p.1.length = n ∧ p.2.length = n ∧ (∀ x ∈ p.1, x.length ≤ 100) ∧ ∀ c ∈ p.2, c.length ≤ 100 ∧ ∀ r ∈ c, r.length ≤ 1000 := by
  obtain ⟨h1, h2⟩ := Bool.and_eq_true_iff.mp h
  obtain ⟨h3, h4⟩ := Bool.and_eq_true_iff.mp h1
  obtain ⟨h5, h6⟩ := Bool.and_eq_true_iff.mp h3
  refine ⟨eq_of_beq h5, eq_of_beq h6, fun x hx => of_decide_eq_true (List.all_eq_true.mp h4 x hx), fun c hc => ?_⟩
  obtain ⟨h7, h8⟩ := Bool.and_eq_true_iff.mp (List.all_eq_true.mp h2 c hc)
  exact ⟨of_decide_eq_true h7, fun r hr => of_decide_eq_true (List.all_eq_true.mp h8 r hr)⟩
theorem formula_c (w : World) (news : List (Addr × Obj)) (n : Int) (t : Tok) :
    ConP w 1 125 [.int n t] (fun _ => True) news (fun tl v => ∃ D x t a c, v = .ref D ∧ (D, tupO [.str x t, .ref a]) ∈ tl ∧ ClIs tl c (.ref a) ∧ (([x], [c]) : TC) ∈ ends) := by
  refine' ConP.of (binds := [(Str.ofString "n", .int n t)]) ?hP ?ho ?hbd ?hsc ?hcd ?hb ?hkd ?hnd ?hco ?hg ?hk ?hbody
  case' hP => exact fun _ _ _ _ => trivial
  case' ho => k_is
  case' hbd => (conv => rhs; whnf)
  case' hsc => (conv => rhs; whnf)
  case' hcd => k_is
  case' hb => exact rfl
  case' hkd => exact rfl
  case' hnd => decide +kernel
  case' hco => exact rfl
  case' hg => exact rfl
  case' hk => exact rfl
  intro A g L s cells H hh S F N Y l1 G _ Q hQ
  have X := G.x
  obtain ⟨loose, mean, mg, mb, T⟩ := G.t
  k_cells Y
  simp only [List.cons_append, List.nil_append] at N
  rename_i oK0 oC0 dK0 dC0
  repeat' (first
    | (k_unfold; (try dsimp only))
    | ((with_reducible show wpAny _ _ (eval (Expr.Call (Expr.Name _ _) _ [] _) _) _ _ _); refine Call_ ?_)
    | ((with_reducible show wpAny _ _ (storeName _ (Str.ofString "clauses") _) _ _ _); k_dflt (refine' storeX_C ?sF ?sN ?sc ?sU ?sd ?_ ?sa ?sb; (case sa => rfl); (case sb => rfl); (case sF => k_asm); (case sN => k_asm); (case sc => rfl); (case sU => (repeat' (first | exact UpdF.head (fun p hp => Nat.ne_of_lt (Nat.lt_add_right _ (l1 p hp))) | (refine' UpdF.tail ?ua ?_; (case ua => k_ne))))); (case sd => k_asm); k_whole); intro h' o' F' N' d'; (try dsimp only at N'); walk_say "CELL")
    | ((fail_if_success (with_reducible show wpAny _ _ (exec (Stmt.For _ _ _ _ _) _) _ _ _)); walk1) | ((fail_if_success (with_reducible show wpAny _ _ (exec (Stmt.For _ _ _ _ _) _) _ _ _)); dsimp only; walk1) | fail "no step")
  refine For_invV g (by rfl) (by rfl) ?_ (fun _ => rfl) (by passes_own)
  repeat' (first
    | (k_unfold; (try dsimp only))
    | ((with_reducible show wpAny _ _ (eval (Expr.Call (Expr.Name _ _) _ [] _) _) _ _ _); refine Call_ ?_)
    | ((fail_if_success (with_reducible show wpAny _ _ (pyIter _) _ _ _)); walk1) | ((fail_if_success (with_reducible show wpAny _ _ (pyIter _) _ _ _)); dsimp only; walk1) | fail "no step")
  dsimp only
  rename Fr g L _ _ => lF
  rename News g L _ _ => lN
  rename_i lt9 hA l1A hB tkB c8 hC l1C c7 hD l1D c6 hE l1E c5 hF l1F c4 hG l1G c3 hH l1H c2 hI l1I c1 hJ l1J c0 hK l1K Dt hX lX
  refine tupG (s₀ := s) (fun i m₁ nx => ∃ lt lc p n' tvs nt cvs nc oK oC tn bs, fAt n i = (p, n') ∧ (∀ q ∈ (L + 1 + 1, oK) :: (L + 1, oC) :: (lt, listOf (List.toArray tvs) nt) :: (lc, listOf (List.toArray cvs) nc) :: bs, q ∈ nx) ∧ (∀ q ∈ bs, Off4 L lt lc q.1) ∧ Off4 L lt lc Dt ∧
      (Off2 L lt ∧ Off2 L lc ∧ NeN lt lc ∧ ∀ q ∈ news, q ∈ bs) ∧ m₁ (Str.ofString "n") = some (.int n' tn) ∧ m₁ (Str.ofString "texts") = some (.ref lt) ∧ oC.data = .cell (some (.ref lc)) ∧ (∃ v, oK.data = .cell v) ∧ Rels StrIs p.1 tvs ∧ Rels (ClIs bs) p.2 cvs)
    hh (vs := [.int 3 _, .int 2 _, .int 1 _]) ⟨_, (lN _ (List.Mem.head _)).1, rfl, _, rfl⟩ (lN _ (List.Mem.head _)).2.1 (by assumption) lF lN ?_ ?_ ?_
  · clear lF lN
    refine ⟨lt9, c0, tc0, n, [.str (Str.ofString "a") s.toks, .str (Str.ofString "b") (s.toks + 1), .str (Str.ofString "c") (s.toks + 1 + 1), .str (Str.ofString "d") (s.toks + 1 + 1 + 1)], 0, [.ref c7, .ref c5, .ref c3, .ref c1], 0, oK0, o', t,
      (c1, listOf #[.ref c2] 0) :: (c2, listOf #[.int 3 (tkB + 1 + 1 + 1)] 0) :: (c3, listOf #[.ref c4] 0) :: (c4, listOf #[.int 2 (tkB + 1 + 1)] 0) :: (c5, listOf #[.ref c6] 0) :: (c6, listOf #[.int 1 (tkB + 1)] 0) :: (c7, listOf #[.ref c8] 0) :: (c8, listOf #[.int 0 tkB] 0) :: news, rfl, ?_, ?_, ?_, ⟨?_, ?_, ?_, fun q hq => by (repeat (first | exact hq | apply List.Mem.tail))⟩, rfl, rfl, d', ⟨_, dK0⟩, ?_, ?_⟩
    · intro q hq
      rcases List.mem_cons.mp hq with rfl | hq
      · k_mem
      rcases List.mem_cons.mp hq with rfl | hq
      · k_mem
      rcases List.mem_cons.mp hq with rfl | hq
      · k_mem
      rcases List.mem_cons.mp hq with rfl | hq
      · k_mem
      refine List.Mem.tail _ (List.Mem.tail _ ?_)
      repeat (rcases List.mem_cons.mp hq with rfl | hq; · k_mem)
      repeat (first | exact hq | apply List.Mem.tail)
    · have hl := l1
      intro q hq
      (repeat (rcases List.mem_cons.mp hq with rfl | hq; · (refine ⟨?_, ?_, ?_, ?_⟩ <;> (try dsimp only) <;> omega)))
      have hq1 : (q.1 : Nat) < (L : Nat) := l1 q hq
      have hq2 : (q.1 : Nat) < L + 1 + 1 := Nat.lt_add_right 2 hq1
      exact ⟨Nat.ne_of_lt hq2, Nat.ne_of_lt (Nat.lt_add_right 1 hq1), Nat.ne_of_lt (Nat.lt_trans hq2 l1A.1), Nat.ne_of_lt (Nat.lt_trans hq2 l1K.2.2.2.2.2.2.2.2.2.1)⟩
    · exact ⟨by k_ne, by k_ne, by k_ne, by k_ne⟩
    · exact ⟨by k_ne, by k_ne⟩
    · exact ⟨by k_ne, by k_ne⟩
    · exact (by k_ne : lt9 ≠ c0)
    · rw [show Str.ofString "a" = ⟨#[97]⟩ by decide +kernel, show Str.ofString "b" = ⟨#[98]⟩ by decide +kernel, show Str.ofString "c" = ⟨#[99]⟩ by decide +kernel, show Str.ofString "d" = ⟨#[100]⟩ by decide +kernel]
      exact ⟨_, _, rfl, ⟨_, rfl⟩, _, _, rfl, ⟨_, rfl⟩, _, _, rfl, ⟨_, rfl⟩, _, _, rfl, ⟨_, rfl⟩, rfl⟩
    · refine ⟨_, _, rfl, ⟨c7, [.ref c8], 0, rfl, by k_mem, _, _, rfl, ⟨c8, [.int 0 _], 0, rfl, by k_mem, .cons _ _ .nil⟩, rfl⟩, _, _, rfl, ⟨c5, [.ref c6], 0, rfl, by k_mem, _, _, rfl, ⟨c6, [.int 1 _], 0, rfl, by k_mem, .cons _ _ .nil⟩, rfl⟩, _, _, rfl, ⟨c3, [.ref c4], 0, rfl, by k_mem, _, _, rfl, ⟨c4, [.int 2 _], 0, rfl, by k_mem, .cons _ _ .nil⟩, rfl⟩, _, _, rfl, ⟨c1, [.ref c2], 0, rfl, by k_mem, _, _, rfl, ⟨c2, [.int 3 _], 0, rfl, by k_mem, .cons _ _ .nil⟩, rfl⟩, rfl⟩
  · clear lF lN lX l1K l1J l1I l1H l1G l1F l1E l1D l1C l1A
    intro i v m1 nx s1 own hv hown S1 hR F1 N1 Q1 hQ1 _
    obtain ⟨lt, lc, p, n', tvs, nt, cvs, nc, oK, oC, tn, bs, hfa, hsub, hoff, hoD, ⟨z1, z2, z3, z4⟩, hm1, hm2, hoC, ⟨kv, hoK⟩, hT, hC⟩ := hR
    obtain ⟨hi3, tz, rfl⟩ : i < 3 ∧ ∃ tz, v = .int (3 - (i : Int)) tz := by
      rcases i with _ | _ | _ | i
      · exact ⟨by decide, _, by simpa using hv.symm⟩
      · exact ⟨by decide, _, by simpa using hv.symm⟩
      · exact ⟨by decide, _, by simpa using hv.symm⟩
      · simp at hv
    have hok : okTC p (4 - i) = true := by
      have q := okAt n i hi3
      rw [hfa] at q
      exact q
    have hsz0 : (3 - (i : Int)) ≠ 0 := by omega
    have hpl : ∀ a, Builtin.divisionGoesByPylong a (3 - (i : Int)) = false := fun a => by
      rcases (show i = 0 ∨ i = 1 ∨ i = 2 by omega) with rfl | rfl | rfl <;> exact PyProof.noPylong_of_log2 (by decide +kernel)
    obtain ⟨kk, hkk⟩ := Int.eq_ofNat_of_zero_le (Int.fmod_nonneg_of_pos n' (show (0 : Int) < 3 - (i : Int) by omega))
    have hkl := Int.fmod_lt_of_pos n' (show (0 : Int) < 3 - (i : Int) by omega)
    rw [hkk] at hkl
    have hoff' : ∀ q ∈ bs ++ own, Off4 L lt lc q.1 := fun q hq => by
      rcases List.mem_append.mp hq with hq | hq
      · exact hoff q hq
      rcases hown q hq with e | e
      · rw [e]; exact hoD
      · exact ⟨e _ (hsub _ (.head _)), e _ (hsub _ (.tail _ (.head _))), e _ (hsub _ (.tail _ (.tail _ (.head _)))), e _ (hsub _ (.tail _ (.tail _ (.tail _ (.head _)))))⟩
    have hN : News g L s1.heap ((L + 1 + 1, oK) :: (L + 1, oC) :: (lt, listOf (List.toArray tvs) nt) :: (lc, listOf (List.toArray cvs) nc) :: (bs ++ own)) := fun q hq => by
      apply N1
      rcases List.mem_cons.mp hq with rfl | hq
      · exact List.mem_append_left _ (hsub _ (.head _))
      rcases List.mem_cons.mp hq with rfl | hq
      · exact List.mem_append_left _ (hsub _ (.tail _ (.head _)))
      rcases List.mem_cons.mp hq with rfl | hq
      · exact List.mem_append_left _ (hsub _ (.tail _ (.tail _ (.head _))))
      rcases List.mem_cons.mp hq with rfl | hq
      · exact List.mem_append_left _ (hsub _ (.tail _ (.tail _ (.tail _ (.head _)))))
      rcases List.mem_append.mp hq with hq | hq
      · exact List.mem_append_left _ (hsub _ (.tail _ (.tail _ (.tail _ (.tail _ hq)))))
      · exact List.mem_append_right _ hq
    have st0 : FSt s g L lt lc (3 - (i : Int)) bs own p n' none s1 :=
      ⟨_, tvs, nt, cvs, nc, oK, oC, tn, tz, [], S1, F1, hN, (if_neg (by decide)).trans hm1, (if_neg (by decide)).trans hm2, if_pos rfl, hoC, ⟨_, hoK⟩, (fun _ e => by cases e), hT, hC, fun q hq => by cases hq⟩
    clear hN hT hC hoC hoK hm1 hm2 S1 F1 N1
    refine execs_cut (FSt s g L lt lc (3 - (i : Int)) bs own p n' (some kk)) (fun Q2 hQ2 => ?_) fun s2 h2 => ?_
    · obtain ⟨m2, tvs, nt, cvs, nc, oK, oC, tn, tz, ex, S2, F2, N2, hn, ht2, hs2, hoC, ⟨kv, hoK⟩, _, hT, hC, hex⟩ := st0
      have hK4 : ∀ q ∈ (L + 1, oC) :: (lt, listOf (List.toArray tvs) nt) :: (lc, listOf (List.toArray cvs) nc) :: (ex ++ (bs ++ own)), q.1 ≠ L + 1 + 1 := fun q hq => by
        rcases List.mem_cons.mp hq with rfl | hq
        · exact Nat.ne_of_lt (Nat.lt_succ_self _)
        rcases List.mem_cons.mp hq with rfl | hq
        · exact z1.1
        rcases List.mem_cons.mp hq with rfl | hq
        · exact z2.1
        rcases List.mem_append.mp hq with hq | hq
        · exact (hex q hq).1.1
        · exact (hoff' q hq).1
      repeat' (first
        | (k_unfold; (try dsimp only))
        | ((with_reducible show wpAny _ _ (eval (Expr.Call (Expr.Name _ _) _ [] _) _) _ _ _); refine Call_ ?_)
        | ((with_reducible show wpAny _ _ (eval (Expr.Name _ _) _) _ _ _); k_dflt (refine' nameX_L ?nmF ?nmv ?_ ?nma ?nmb; (case nmF => k_asm); (case nma => rfl); (case nmb => rfl); (case nmv => first | rfl | assumption); k_whole); walk_say "NAMEH")
        | ((with_reducible show wpAny _ _ (binaryOp Operator.Mod (Value.int _ _) (Value.int (_ - _) _)) _ _ _); refine mod_int' hsz0 ?_; (rw [hkk]); (try dsimp only); walk_say "MODS")
        | ((with_reducible show wpAny _ _ (storeName _ (Str.ofString "k") _) _ _ _); k_dflt (refine' storeX_C ?sF ?sN ?sc ?sU ?sd ?_ ?sa ?sb; (case sa => rfl); (case sb => rfl); (case sF => k_asm); (case sN => k_asm); (case sc => rfl); (case sU => exact UpdF.head hK4); (case sd => exact hoK); k_whole); intro h8 o8 F8 N8 d8; (try dsimp only at N8); walk_say "CELLK")
        | (walk1) | (dsimp only; walk1) | fail "no step")
      exact hQ2 _ ⟨_, tvs, nt, cvs, nc, _, oC, tn, tz, ex, by assumption, by assumption, by assumption, hn, ht2, hs2, hoC, ⟨_, d8⟩, (fun i e => ⟨_, by cases e; exact d8⟩), hT, hC, hex⟩
    clear st0
    refine execs_cut (FSt s g L lt lc (3 - (i : Int)) bs own p (n'.fdiv (3 - (i : Int))) (some kk)) (fun Q2 hQ2 => ?_) fun s3 h3 => ?_
    · obtain ⟨m2, tvs, nt, cvs, nc, oK, oC, tn, tz, ex, S2, F2, N2, hn, ht2, hs2, hoC, hoK, hoK2, hT, hC, hex⟩ := h2
      repeat' (first
        | (k_unfold; (try dsimp only))
        | ((with_reducible show wpAny _ _ (eval (Expr.Call (Expr.Name _ _) _ [] _) _) _ _ _); refine Call_ ?_)
        | ((with_reducible show wpAny _ _ (eval (Expr.Name _ _) _) _ _ _); k_dflt (refine' nameX_L ?nmF ?nmv ?_ ?nma ?nmb; (case nmF => k_asm); (case nma => rfl); (case nmb => rfl); (case nmv => first | rfl | assumption); k_whole); walk_say "NAMEH")
        | ((with_reducible show wpAny _ _ (binaryOp Operator.FloorDiv (Value.int _ _) (Value.int (_ - _) _)) _ _ _); refine floordiv_int hsz0 ?_ (.inl (hpl _)); (try dsimp only); walk_say "FDIVS")
        | (walk1) | (dsimp only; walk1) | fail "no step")
      rename Fr g L _ _ => lF9
      exact hQ2 _ ⟨_, tvs, nt, cvs, nc, oK, oC, _, tz, ex, by assumption, lF9, by assumption, if_pos rfl, (if_neg (by decide)).trans ht2, (if_neg (by decide)).trans hs2, hoC, hoK, hoK2, hT, hC, hex⟩
    clear h2
    generalize hn1 : n'.fdiv (3 - (i : Int)) = n1 at h3 ⊢
    obtain ⟨hTl, hCl, hTs, hCs⟩ := okTC.facts hok
    refine execs_cut (FSt s g L lt lc (3 - (i : Int)) bs own ((stepTC p kk (n1.fmod 2 == 1)).1, p.2) n1 (some kk)) (fun Q2 hQ2 => ?_) fun s4 h4 => ?_
    · obtain ⟨m2, tvs, nt, cvs, nc, oK, oC, tn, tz, ex, S2, F2, N2, hn, ht2, hs2, hoC, hoK, hoK2, hT, hC, hex⟩ := h3
      obtain ⟨tk2, hoK2⟩ := hoK2 kk rfl
      have hlt1 : kk < p.1.length := by omega
      have hlt2 : kk + 1 < p.1.length := by omega
      obtain ⟨_, hv0, t0, rfl⟩ := hT.at (List.getElem?_eq_getElem hlt1)
      obtain ⟨_, hv1, t1, rfl⟩ := hT.at (List.getElem?_eq_getElem hlt2)
      have hl0 := hTs _ (List.getElem_mem hlt1)
      have hl1 := hTs _ (List.getElem_mem hlt2)
      have e0 : p.1[kk] = p.1.getD kk Str.empty := by simp [hlt1]
      have e1 : p.1[kk + 1] = p.1.getD (kk + 1) Str.empty := by simp [hlt2]
      rw [e0] at hv0 hl0
      rw [e1] at hv1 hl1
      generalize hX0 : p.1.getD kk Str.empty = X0 at *
      generalize hX1 : p.1.getD (kk + 1) Str.empty = X1 at *
      have hk63 : (kk : Int) < 2 ^ 63 := by omega
      have hv0' : tvs[((kk : Int)).toNat]? = some (Value.str X0 t0) := hv0
      have hv1' : tvs[((kk : Int) + 1).toNat]? = some (Value.str X1 t1) := by rw [show ((kk : Int) + 1).toNat = kk + 1 by omega]; exact hv1
      have hf2 := Int.fmod_nonneg_of_pos n1 (show (0 : Int) < 2 by omega)
      have hf3 := Int.fmod_lt_of_pos n1 (show (0 : Int) < 2 by omega)
      repeat' (first
        | (k_unfold; (try dsimp only))
        | ((with_reducible show wpAny _ _ (eval (Expr.Call (Expr.Name _ _) _ [] _) _) _ _ _); refine Call_ ?_)
        | ((with_reducible show wpAny _ _ (eval (Expr.Name _ _) _) _ _ _); k_dflt (refine' nameX_L ?nmF ?nmv ?_ ?nma ?nmb; (case nmF => k_asm); (case nma => rfl); (case nmb => rfl); (case nmv => first | rfl | assumption); k_whole); walk_say "NAMEH")
        | ((with_reducible show wpAny _ _ (eval (Expr.Name (Str.ofString "k") _) _) _ _ _); k_dflt (refine' nameX_C (c := L + 1 + 1) (o := oK) ?ncN rfl ?ncm hoK2 ?_ rfl rfl (by decide); (case ncN => k_asm); (case ncm => (with_reducible (repeat (first | exact List.mem_cons_self | apply List.mem_cons_of_mem)))); k_whole); walk_say "NAMECK")
        | ((with_reducible show wpAny _ _ (subscriptTail _ _ (Value.ref lt) (Value.int _ _)) _ _ _); k_dflt (refine' item_litK (vs := tvs) ?k1 ?k2 ?k3 ?k4 ?_ ?k6; (case k1 => exact News.isList (n := nt) (by k_asm) (by (with_reducible (repeat (first | exact List.mem_cons_self | apply List.mem_cons_of_mem))))); (case k2 => omega); (case k3 => omega); (case k4 => assumption); (case k6 => with_unfolding_all rfl); k_whole); walk_say "ITEMT")
        | ((with_reducible show wpAny _ _ (exec (Stmt.Assign [Expr.Subscript _ (Expr.Slice _ _ _ _) _] _ _) _) _ _ _); refine wpAny_Assign_Subscript ?_ (by rfl); walk_say "ASLICE")
        | ((with_reducible show wpAny _ _ (binaryOp Operator.Add (Value.str _ _) (Value.str _ _)) _ _ _); refine PyProof.Rows.add_str ?_ ?hz9; (case hz9 => (have hi9 := item_len (Str.ofString "&|") (n1.fmod 2)); (rw [sizeLine_eq]; simp only [len_app, lenL, lenR]; omega)); intro t8 tk8; (try dsimp only); walk_say "ADDS")
        | ((fail_if_success (with_reducible show wpAny _ _ (setItem _ _ _) _ _ _)); walk1) | ((fail_if_success (with_reducible show wpAny _ _ (setItem _ _ _) _ _ _)); dsimp only; walk1) | fail "no step")
      have hT4 : ∀ q ∈ (lc, listOf (List.toArray cvs) nc) :: (ex ++ (bs ++ own)), q.1 ≠ lt := fun q hq => by
        rcases List.mem_cons.mp hq with rfl | hq
        · exact Ne.symm z3
        rcases List.mem_append.mp hq with hq | hq
        · exact (hex q hq).1.2.2.1
        · exact (hoff' q hq).2.2.1
      have hlv := Rels.length hT
      refine' slice_put (l := lt) (vs := tvs) (c := nt) (a := (kk : Int)) (b := (kk : Int) + 2) (by k_asm) (by k_asm) (UpdF.tail (by k_ne) (UpdF.tail (Ne.symm z1.1) (UpdF.tail (Ne.symm z1.2) (UpdF.head hT4)))) (List.Mem.head _) (by k_ne) (by omega) (by omega) (by omega) (by omega) (by simp) ?_
      intro h9 c9 F9 N9
      (try dsimp only at N9)
      rw [join_eq X0 X1 _ hf2 hf3, Int.toNat_natCast, show ((kk : Int) + 2).toNat = kk + 2 by omega] at N9
      obtain ⟨ln, N9, hln⟩ : ∃ ln, News g L h9 ((ln, listOf #[.str (joined X0 X1 (n1.fmod 2 == 1)) t8] 0) :: (L + 1 + 1, oK) :: (L + 1, oC) :: (lt, listOf (List.toArray (tvs.take kk ++ [.str (joined X0 X1 (n1.fmod 2 == 1)) t8] ++ tvs.drop (kk + 2))) c9) :: (lc, listOf (List.toArray cvs) nc) :: (ex ++ (bs ++ own))) ∧ Off4 L lt lc ln := by
        refine ⟨_, N9, ?_⟩
        exact ⟨by k_ne, by k_ne, by k_ne, by k_ne⟩
      exact hQ2 _ ⟨m2, _, c9, cvs, nc, oK, oC, tn, tz, (ln, listOf #[.str (joined X0 X1 (n1.fmod 2 == 1)) t8] 0) :: ex, by assumption, F9, (news_five N9), hn, ht2, hs2, hoC, hoK, (fun j e => ⟨tk2, by cases e; exact hoK2⟩),
        by
          show Rels StrIs (p.1.take kk ++ [joined (p.1.getD kk Str.empty) (p.1.getD (kk + 1) Str.empty) (n1.fmod 2 == 1)] ++ p.1.drop (kk + 2)) _
          rw [hX0, hX1]
          exact Rels.append (hT.drop (kk + 2)) (Rels.append (Rels.one ⟨_, rfl⟩) (hT.take kk)),
        Rels.imp (fun _ _ h => h.mono fun q hq => List.mem_cons_of_mem _ hq) hC, fun q hq => by
          rcases List.mem_cons.mp hq with rfl | hq
          · exact ⟨hln, by simp⟩
          · exact hex q hq⟩
    clear h3
    refine execs_cut (FSt s g L lt lc (3 - (i : Int)) bs own (stepTC p kk (n1.fmod 2 == 1)) n1 (some kk)) (fun Q2 hQ2 => ?_) fun s5 h5 => ?_
    · obtain ⟨m2, tvs, nt, cvs, nc, oK, oC, tn, tz, ex, S2, F2, N2, hn, ht2, hs2, hoC, hoK, hoK2, hT, hC, hex⟩ := h4
      dsimp only at hT hC
      obtain ⟨tk2, hoK2⟩ := hoK2 kk rfl
      have hlt1 : kk < p.2.length := by omega
      have hlt2 : kk + 1 < p.2.length := by omega
      obtain ⟨_, hv0, pa, ua, na, rfl, hpa, hra⟩ := hC.at (List.getElem?_eq_getElem hlt1)
      obtain ⟨_, hv1, pb, ub, nb, rfl, hpb, hrb⟩ := hC.at (List.getElem?_eq_getElem hlt2)
      have hl0 := hCs _ (List.getElem_mem hlt1)
      have hl1 := hCs _ (List.getElem_mem hlt2)
      have e0 : p.2[kk] = p.2.getD kk [] := by simp [hlt1]
      have e1 : p.2[kk + 1] = p.2.getD (kk + 1) [] := by simp [hlt2]
      rw [e0] at hra hl0
      rw [e1] at hrb hl1
      have hup : ∀ q ∈ ex ++ bs, q ∈ ex ++ (bs ++ own) := fun q hq => by rw [← List.append_assoc]; exact List.mem_append_left _ hq
      have hpa0 := hpa
      have hpb0 := hpb
      replace hpa := hup _ hpa
      replace hpb := hup _ hpb
      have hla := RowsAre.length hra
      have hlb := RowsAre.length hrb
      generalize hX0 : p.2.getD kk [] = X0 at *
      generalize hX1 : p.2.getD (kk + 1) [] = X1 at *
      have hk63 : (kk : Int) < 2 ^ 63 := by omega
      have hv0' : cvs[((kk : Int)).toNat]? = some (Value.ref pa) := hv0
      have hv1' : cvs[((kk : Int) + 1).toNat]? = some (Value.ref pb) := by rw [show ((kk : Int) + 1).toNat = kk + 1 by omega]; exact hv1
      have hC4 : ∀ q ∈ ex ++ (bs ++ own), q.1 ≠ lc := fun q hq => by
        rcases List.mem_append.mp hq with hq | hq
        · exact (hex q hq).1.2.2.2
        · exact (hoff' q hq).2.2.2
      have hlv := Rels.length hC
      have hlt4 : L + 1 + 1 < s4.heap.objs.size ∧ L + 1 < s4.heap.objs.size ∧ lt < s4.heap.objs.size ∧ lc < s4.heap.objs.size := ⟨Heap.lt_size (N2 _ List.mem_cons_self).1, Heap.lt_size (N2 _ (List.mem_cons_of_mem _ List.mem_cons_self)).1, Heap.lt_size (N2 _ (List.mem_cons_of_mem _ (List.mem_cons_of_mem _ List.mem_cons_self))).1, Heap.lt_size (N2 _ (List.mem_cons_of_mem _ (List.mem_cons_of_mem _ (List.mem_cons_of_mem _ List.mem_cons_self)))).1⟩
      repeat' (first
        | (k_unfold; (try dsimp only))
        | ((with_reducible show wpAny _ _ (eval (Expr.Call (Expr.Name _ _) _ [] _) _) _ _ _); refine Call_ ?_)
        | ((with_reducible show wpAny _ _ (eval (Expr.Name _ _) _) _ _ _); k_dflt (refine' nameX_L ?nmF ?nmv ?_ ?nma ?nmb; (case nmF => k_asm); (case nma => rfl); (case nmb => rfl); (case nmv => first | rfl | assumption); k_whole); walk_say "NAMEH")
        | ((with_reducible show wpAny _ _ (eval (Expr.Name (Str.ofString "k") _) _) _ _ _); k_dflt (refine' nameX_C (c := L + 1 + 1) (o := oK) ?ncN rfl ?ncm hoK2 ?_ rfl rfl (by decide); (case ncN => k_asm); (case ncm => (with_reducible (repeat (first | exact List.mem_cons_self | apply List.mem_cons_of_mem)))); k_whole); walk_say "NAMECK")
        | ((with_reducible show wpAny _ _ (eval (Expr.Name (Str.ofString "clauses") _) _) _ _ _); k_dflt (refine' nameX_C (c := L + 1) (o := oC) ?ncN rfl ?ncm hoC ?_ rfl rfl (by decide); (case ncN => k_asm); (case ncm => (with_reducible (repeat (first | exact List.mem_cons_self | apply List.mem_cons_of_mem)))); k_whole); walk_say "NAMECC")
        | ((with_reducible show wpAny _ _ (subscriptTail _ _ (Value.ref lc) (Value.int _ _)) _ _ _); k_dflt (refine' item_litK (vs := cvs) ?k1 ?k2 ?k3 ?k4 ?_ ?k6; (case k1 => exact News.isList (n := nc) (by k_asm) (by (with_reducible (repeat (first | exact List.mem_cons_self | apply List.mem_cons_of_mem))))); (case k2 => omega); (case k3 => omega); (case k4 => assumption); (case k6 => with_unfolding_all rfl); k_whole); walk_say "ITEMC")
        | ((with_reducible show wpAny _ _ (exec (Stmt.Assign [Expr.Subscript _ (Expr.Slice _ _ _ _) _] _ _) _) _ _ _); refine wpAny_Assign_Subscript ?_ (by rfl); walk_say "ASLICE")
        | ((with_reducible show wpAny _ _ (binaryOp Operator.Add (Value.ref _) (Value.ref _)) _ _ _); k_dflt (refine' add_lists (vs := ua) (ws := ub) ?aF ?aN ?al ?ab ?_ ?az; (case aF => k_asm); (case aN => k_asm); (case al => exact News.isList (n := na) (by k_asm) (by (repeat (first | exact hpa | apply List.mem_cons_of_mem)))); (case ab => exact News.isList (n := nb) (by k_asm) (by (repeat (first | exact hpb | apply List.mem_cons_of_mem)))); (case az => rw [sizeLine_eq]; omega)); intro h8 F8 N8; (try dsimp only); walk_say "ADDL")
        | ((fail_if_success (with_reducible show wpAny _ _ (setItem _ _ _) _ _ _)); (fail_if_success (with_reducible show wpAny _ _ (eval (Expr.ListComp _ _ _ _) _) _ _ _)); walk1) | ((fail_if_success (with_reducible show wpAny _ _ (setItem _ _ _) _ _ _)); (fail_if_success (with_reducible show wpAny _ _ (eval (Expr.ListComp _ _ _ _) _) _ _ _)); dsimp only; walk1) | fail "no step")
      · have hb : (n1.fmod 2 == 1) = true := by first | assumption | (simp; assumption)
        refine' slice_put (l := lc) (vs := cvs) (c := nc) (a := (kk : Int)) (b := (kk : Int) + 2) (by k_asm) (by k_asm) (UpdF.tail (by k_ne) (UpdF.tail (Ne.symm (Nat.ne_of_lt hlt4.2.2.2)) (UpdF.tail (Ne.symm z2.1) (UpdF.tail (Ne.symm z2.2) (UpdF.tail (fun e => z3 e) (UpdF.head hC4)))))) (List.Mem.head _) (by k_ne) (by omega) (by omega) (by omega) (by omega) (by simp) ?_
        intro h9 c9 F9 N9
        (try dsimp only at N9)
        rw [Int.toNat_natCast, show ((kk : Int) + 2).toNat = kk + 2 by omega] at N9
        obtain ⟨ln, N9, hln⟩ : ∃ ln, News g L h9 ((ln, listOf #[.ref s4.heap.objs.size] 0) :: (s4.heap.objs.size, listOf (List.toArray (ua ++ ub)) 0) :: (L + 1 + 1, oK) :: (L + 1, oC) :: (lt, listOf (List.toArray tvs) nt) :: (lc, listOf (List.toArray (cvs.take kk ++ [.ref s4.heap.objs.size] ++ cvs.drop (kk + 2))) c9) :: (ex ++ (bs ++ own))) ∧ Off4 L lt lc ln := by
          refine ⟨_, N9, ?_⟩
          exact ⟨by k_ne, by k_ne, by k_ne, by k_ne⟩
        have hmono : ∀ q ∈ ex ++ bs, q ∈ ((ln, listOf #[.ref s4.heap.objs.size] 0) :: (s4.heap.objs.size, listOf (List.toArray (ua ++ ub)) 0) :: ex) ++ bs := fun q hq => List.mem_cons_of_mem _ (List.mem_cons_of_mem _ hq)
        repeat' (first
          | (k_unfold; (try dsimp only))
          | ((with_reducible show wpAny _ _ (eval (Expr.Call (Expr.Name _ _) _ [] _) _) _ _ _); refine Call_ ?_)
          | (walk1) | (dsimp only; walk1) | fail "no step")
        exact hQ2 _ ⟨m2, tvs, nt, _, c9, oK, oC, tn, tz, (ln, listOf #[.ref s4.heap.objs.size] 0) :: (s4.heap.objs.size, listOf (List.toArray (ua ++ ub)) 0) :: ex, by assumption, F9, (news_six N9), hn, ht2, hs2, hoC, hoK, (fun j e => ⟨tk2, by cases e; exact hoK2⟩), hT,
          by
            show Rels _ (p.2.take kk ++ [clMade (p.2.getD kk []) (p.2.getD (kk + 1) []) (n1.fmod 2 == 1)] ++ p.2.drop (kk + 2)) _
            rw [hX0, hX1, hb]
            have hC' := Rels.imp (fun _ _ h => ClIs.mono h hmono) hC
            refine Rels.append (hC'.drop (kk + 2)) (Rels.append (Rels.one ⟨_, ua ++ ub, 0, rfl, List.mem_cons_of_mem _ List.mem_cons_self, ?_⟩) (hC'.take kk))
            exact RowsAre.append (RowsAre.mono hmono hrb) (RowsAre.mono hmono hra),
          fun q hq => by
            rcases List.mem_cons.mp hq with rfl | hq
            · exact ⟨hln, by simp⟩
            rcases List.mem_cons.mp hq with rfl | hq
            · exact ⟨⟨Ne.symm (Nat.ne_of_lt hlt4.1), Ne.symm (Nat.ne_of_lt hlt4.2.1), Ne.symm (Nat.ne_of_lt hlt4.2.2.1), Ne.symm (Nat.ne_of_lt hlt4.2.2.2)⟩, by simp⟩
            · exact hex q hq⟩
      · have hb : (n1.fmod 2 == 1) = false := by first | assumption | (simp; assumption)
        refine comp2 (m := m2) (news := (L + 1 + 1, oK) :: (L + 1, oC) :: (lt, listOf (List.toArray tvs) nt) :: (lc, listOf (List.toArray cvs) nc) :: (ex ++ (bs ++ own))) (a := pa) (b := pb) (va := ua) (vb := ub) (na := na) (nb := nb) (A1 := X0) (A2 := X1) hh (by rfl) (by decide) rfl (by decide) rfl rfl (by decide) rfl rfl (by k_asm) (by k_asm)
          (List.mem_cons_of_mem _ (List.mem_cons_of_mem _ (List.mem_cons_of_mem _ (List.mem_cons_of_mem _ hpa)))) (List.mem_cons_of_mem _ (List.mem_cons_of_mem _ (List.mem_cons_of_mem _ (List.mem_cons_of_mem _ hpb))))
          (RowsAre.mono (fun q hq => List.mem_cons_of_mem _ (List.mem_cons_of_mem _ (List.mem_cons_of_mem _ (List.mem_cons_of_mem _ (hup q hq))))) hra) (RowsAre.mono (fun q hq => List.mem_cons_of_mem _ (List.mem_cons_of_mem _ (List.mem_cons_of_mem _ (List.mem_cons_of_mem _ (hup q hq))))) hrb)
          (by rw [hla]; exact hl0.1) (by rw [hlb]; exact hl1.1) hl0.2 hl1.2 (fun Q9 hQ9 => ?_) (fun C h9 tk9 mc Q9 E9 hn9 F9 N9 hQ9 => ?_) (fun _ => rfl) (fun _ _ => rfl) fun D h9 tk9 ds nD xs F9 N9 hnew hD hrows => ?_
        · repeat' (first
   | (k_unfold; (try dsimp only))
   | ((with_reducible show wpAny _ _ (eval (Expr.Call (Expr.Name _ _) _ [] _) _) _ _ _); refine Call_ ?_)
   | ((with_reducible show wpAny _ _ (eval (Expr.Name (Str.ofString "k") _) _) _ _ _); k_dflt (refine' nameX_C (c := L + 1 + 1) (o := oK) ?ncN rfl ?ncm hoK2 ?_ rfl rfl (by decide); (case ncN => k_asm); (case ncm => (with_reducible (repeat (first | exact List.mem_cons_self | apply List.mem_cons_of_mem)))); k_whole); walk_say "NAMECK")
   | ((with_reducible show wpAny _ _ (eval (Expr.Name (Str.ofString "clauses") _) _) _ _ _); k_dflt (refine' nameX_C (c := L + 1) (o := oC) ?ncN rfl ?ncm hoC ?_ rfl rfl (by decide); (case ncN => k_asm); (case ncm => (with_reducible (repeat (first | exact List.mem_cons_self | apply List.mem_cons_of_mem)))); k_whole); walk_say "NAMECC")
   | ((with_reducible show wpAny _ _ (subscriptTail _ _ (Value.ref lc) (Value.int _ _)) _ _ _); k_dflt (refine' item_litK (vs := cvs) ?k1 ?k2 ?k3 ?k4 ?_ ?k6; (case k1 => exact News.isList (n := nc) (by k_asm) (by (with_reducible (repeat (first | exact List.mem_cons_self | apply List.mem_cons_of_mem))))); (case k2 => omega); (case k3 => omega); (case k4 => assumption); (case k6 => with_unfolding_all rfl); k_whole); walk_say "ITEMC")
   | (walk1) | (dsimp only; walk1) | fail "no step")
          exact hQ9 _
        · refine Subscript_ (wpAny_Name (wpAny_loadName_cell rfl rfl rfl ⟨oC, (N9 _ (List.mem_cons_of_mem _ List.mem_cons_self)).1, hoC⟩ ?_) (by decide))
          refine wpAny_BinOp (wpAny_Name (wpAny_loadName_cell rfl rfl rfl ⟨oK, (N9 _ List.mem_cons_self).1, hoK2⟩ ?_) (by decide))
          refine wpAny_Constant_int (PyProof.Rows.add_int ?_)
          refine item_litK (vs := cvs) (News.isList (n := nc) N9 (List.mem_cons_of_mem _ (List.mem_cons_of_mem _ (List.mem_cons_of_mem _ List.mem_cons_self)))) (by omega) (by omega) hv1' ?_ (by with_unfolding_all rfl)
          exact hQ9 _
        · have N9 : News g L h9 ((L + 1 + 1, oK) :: (L + 1, oC) :: (lt, listOf (List.toArray tvs) nt) :: (lc, listOf (List.toArray cvs) nc) :: (((D, listOf (List.toArray ds) nD) :: (xs ++ ex)) ++ (bs ++ own))) := fun q hq => N9 q (by
            simp only [List.mem_cons, List.mem_append] at hq ⊢
            rcases hq with h | h | h | h | (h | h | h) | h | h <;> simp [h])
          have in4 : ∀ q, q ∈ (L + 1 + 1, oK) :: (L + 1, oC) :: (lt, listOf (List.toArray tvs) nt) :: (lc, listOf (List.toArray cvs) nc) :: (ex ++ (bs ++ own)) → NeN q.1 D := fun q hq => hD q (List.mem_append_right _ hq)
          have offD : Off4 L lt lc D := ⟨Ne.symm (in4 _ List.mem_cons_self), Ne.symm (in4 _ (List.mem_cons_of_mem _ List.mem_cons_self)), Ne.symm (in4 _ (List.mem_cons_of_mem _ (List.mem_cons_of_mem _ List.mem_cons_self))), Ne.symm (in4 _ (List.mem_cons_of_mem _ (List.mem_cons_of_mem _ (List.mem_cons_of_mem _ List.mem_cons_self))))⟩
          have offX : ∀ q ∈ xs, Off4 L lt lc q.1 := fun q hq => ⟨(hnew q hq).1 _ List.mem_cons_self, (hnew q hq).1 _ (List.mem_cons_of_mem _ List.mem_cons_self), (hnew q hq).1 _ (List.mem_cons_of_mem _ (List.mem_cons_of_mem _ List.mem_cons_self)), (hnew q hq).1 _ (List.mem_cons_of_mem _ (List.mem_cons_of_mem _ (List.mem_cons_of_mem _ List.mem_cons_self)))⟩
          have hD4 : ∀ q ∈ ((D, listOf (List.toArray ds) nD) :: (xs ++ ex)) ++ (bs ++ own), q.1 ≠ lc := fun q hq => by
            rcases List.mem_append.mp hq with hq | hq
            · rcases List.mem_cons.mp hq with rfl | hq
              · exact offD.2.2.2
              rcases List.mem_append.mp hq with hq | hq
              · exact (offX q hq).2.2.2
              · exact hC4 q (List.mem_append_left _ hq)
            · exact hC4 q (List.mem_append_right _ hq)
          repeat' (first
            | (k_unfold; (try dsimp only))
            | ((with_reducible show wpAny _ _ (eval (Expr.Call (Expr.Name _ _) _ [] _) _) _ _ _); refine Call_ ?_)
            | ((with_reducible show wpAny _ _ (eval (Expr.Name _ _) _) _ _ _); k_dflt (refine' nameX_L ?nmF ?nmv ?_ ?nma ?nmb; (case nmF => k_asm); (case nma => rfl); (case nmb => rfl); (case nmv => first | rfl | assumption); k_whole); walk_say "NAMEH")
            | ((with_reducible show wpAny _ _ (eval (Expr.Name (Str.ofString "k") _) _) _ _ _); k_dflt (refine' nameX_C (c := L + 1 + 1) (o := oK) ?ncN rfl ?ncm hoK2 ?_ rfl rfl (by decide); (case ncN => k_asm); (case ncm => (with_reducible (repeat (first | exact List.mem_cons_self | apply List.mem_cons_of_mem)))); k_whole); walk_say "NAMECK")
            | ((with_reducible show wpAny _ _ (eval (Expr.Name (Str.ofString "clauses") _) _) _ _ _); k_dflt (refine' nameX_C (c := L + 1) (o := oC) ?ncN rfl ?ncm hoC ?_ rfl rfl (by decide); (case ncN => k_asm); (case ncm => (with_reducible (repeat (first | exact List.mem_cons_self | apply List.mem_cons_of_mem)))); k_whole); walk_say "NAMECC")
            | ((with_reducible show wpAny _ _ (subscriptTail _ _ (Value.ref lc) (Value.int _ _)) _ _ _); k_dflt (refine' item_litK (vs := cvs) ?k1 ?k2 ?k3 ?k4 ?_ ?k6; (case k1 => exact News.isList (n := nc) (by k_asm) (by (with_reducible (repeat (first | exact List.mem_cons_self | apply List.mem_cons_of_mem))))); (case k2 => omega); (case k3 => omega); (case k4 => assumption); (case k6 => with_unfolding_all rfl); k_whole); walk_say "ITEMC")
            | ((fail_if_success (with_reducible show wpAny _ _ (setItem _ _ _) _ _ _)); walk1) | ((fail_if_success (with_reducible show wpAny _ _ (setItem _ _ _) _ _ _)); dsimp only; walk1) | fail "no step")
          refine' slice_put (l := lc) (vs := cvs) (c := nc) (a := (kk : Int)) (b := (kk : Int) + 2) (by k_asm) (by k_asm) (UpdF.tail (by k_ne) (UpdF.tail (Ne.symm z2.1) (UpdF.tail (Ne.symm z2.2) (UpdF.tail (fun e => z3 e) (UpdF.head hD4))))) (List.Mem.head _) (by k_ne) (by omega) (by omega) (by omega) (by omega) (by simp) ?_
          intro h10 c10 F10 N10
          (try dsimp only at N10)
          rw [Int.toNat_natCast, show ((kk : Int) + 2).toNat = kk + 2 by omega] at N10
          obtain ⟨ln, N10, hln⟩ : ∃ ln, News g L h10 ((ln, listOf #[.ref D] 0) :: (L + 1 + 1, oK) :: (L + 1, oC) :: (lt, listOf (List.toArray tvs) nt) :: (lc, listOf (List.toArray (cvs.take kk ++ [.ref D] ++ cvs.drop (kk + 2))) c10) :: (((D, listOf (List.toArray ds) nD) :: (xs ++ ex)) ++ (bs ++ own))) ∧ Off4 L lt lc ln := by
            refine ⟨_, N10, ?_⟩
            exact ⟨by k_ne, by k_ne, by k_ne, by k_ne⟩
          have hmono : ∀ q ∈ ex ++ bs, q ∈ ((ln, listOf #[.ref D] 0) :: (D, listOf (List.toArray ds) nD) :: (xs ++ ex)) ++ bs := fun q hq => by
            simp only [List.mem_cons, List.mem_append] at hq ⊢
            rcases hq with h | h <;> simp [h]
          repeat' (first
            | (k_unfold; (try dsimp only))
            | ((with_reducible show wpAny _ _ (eval (Expr.Call (Expr.Name _ _) _ [] _) _) _ _ _); refine Call_ ?_)
            | (walk1) | (dsimp only; walk1) | fail "no step")
          exact hQ2 _ ⟨m2, tvs, nt, _, c10, oK, oC, tn, tz, (ln, listOf #[.ref D] 0) :: (D, listOf (List.toArray ds) nD) :: (xs ++ ex), by assumption, F10, (news_five N10), hn, ht2, hs2, hoC, hoK, (fun j e => ⟨tk2, by cases e; exact hoK2⟩), hT,
            by
              show Rels _ (p.2.take kk ++ [clMade (p.2.getD kk []) (p.2.getD (kk + 1) []) (n1.fmod 2 == 1)] ++ p.2.drop (kk + 2)) _
              rw [hX0, hX1, hb]
              have hC' := Rels.imp (fun _ _ h => ClIs.mono h hmono) hC
              refine Rels.append (hC'.drop (kk + 2)) (Rels.append (Rels.one ⟨D, ds, nD, rfl, List.mem_cons_of_mem _ List.mem_cons_self, ?_⟩) (hC'.take kk))
              exact RowsAre.mono (fun q hq => List.mem_cons_of_mem _ (List.mem_cons_of_mem _ (List.mem_append_left _ (List.mem_append_left _ hq)))) hrows,
            fun q hq => by
              rcases List.mem_cons.mp hq with rfl | hq
              · exact ⟨hln, by simp⟩
              rcases List.mem_cons.mp hq with rfl | hq
              · exact ⟨offD, by simp⟩
              rcases List.mem_append.mp hq with hq | hq
              · exact ⟨offX q hq, (hnew q hq).2⟩
              · exact hex q hq⟩
    clear h4
    refine execs_cut (FSt s g L lt lc (3 - (i : Int)) bs own (stepTC p kk (n1.fmod 2 == 1)) (n1.fdiv 2) (some kk)) (fun Q2 hQ2 => ?_) fun s6 h6 => ?_
    · obtain ⟨m2, tvs, nt, cvs, nc, oK, oC, tn, tz, ex, S2, F2, N2, hn, ht2, hs2, hoC, hoK, hoK2, hT, hC, hex⟩ := h5
      repeat' (first
        | (k_unfold; (try dsimp only))
        | ((with_reducible show wpAny _ _ (eval (Expr.Call (Expr.Name _ _) _ [] _) _) _ _ _); refine Call_ ?_)
        | ((with_reducible show wpAny _ _ (eval (Expr.Name _ _) _) _ _ _); k_dflt (refine' nameX_L ?nmF ?nmv ?_ ?nma ?nmb; (case nmF => k_asm); (case nma => rfl); (case nmb => rfl); (case nmv => first | rfl | assumption); k_whole); walk_say "NAMEH")
        | (walk1) | (dsimp only; walk1) | fail "no step")
      rename Fr g L _ _ => lF9
      exact hQ2 _ ⟨_, tvs, nt, cvs, nc, oK, oC, _, tz, ex, by assumption, lF9, by assumption, if_pos rfl, (if_neg (by decide)).trans ht2, (if_neg (by decide)).trans hs2, hoC, hoK, hoK2, hT, hC, hex⟩
    clear h5
    obtain ⟨m2, tvs', nt', cvs', nc', oK', oC', tn', tz', ex, S2, F2, N2, hn, ht2, hs2, hoC', hoK', hoK2', hT', hC', hex⟩ := h6
    refine wpAny_execs_nil (hQ1 s6 m2 ((L + 1 + 1, oK') :: (L + 1, oC') :: (lt, listOf (List.toArray tvs') nt') :: (lc, listOf (List.toArray cvs') nc') :: (ex ++ bs)) S2 F2 (fun q hq => N2 q (by
      simp only [List.mem_cons, List.mem_append] at hq ⊢
      rcases hq with (h | h | h | h | h | h) | h <;> simp [h])) (fun q hq => ?_) ⟨lt, lc, _, _, tvs', nt', cvs', nc', oK', oC', tn', ex ++ bs, ?_, fun q hq => hq, fun q hq => ?_, hoD, ⟨z1, z2, z3, fun q hq => List.mem_append_right _ (z4 q hq)⟩, hn, ht2, hoC', hoK', hT', hC'⟩)
    · have inx : ∀ o, o ∈ (L + 1 + 1, oK) :: (L + 1, oC) :: (lt, listOf (List.toArray tvs) nt) :: (lc, listOf (List.toArray cvs) nc) :: bs → o.1 ∈ nx.map (·.1) := fun o ho => List.mem_map.mpr ⟨o, hsub o ho, rfl⟩
      rcases List.mem_cons.mp hq with rfl | hq
      · exact .inl (inx (L + 1 + 1, oK) List.mem_cons_self)
      rcases List.mem_cons.mp hq with rfl | hq
      · exact .inl (inx (L + 1, oC) (List.mem_cons_of_mem _ List.mem_cons_self))
      rcases List.mem_cons.mp hq with rfl | hq
      · exact .inl (inx (lt, listOf (List.toArray tvs) nt) (List.mem_cons_of_mem _ (List.mem_cons_of_mem _ List.mem_cons_self)))
      rcases List.mem_cons.mp hq with rfl | hq
      · exact .inl (inx (lc, listOf (List.toArray cvs) nc) (List.mem_cons_of_mem _ (List.mem_cons_of_mem _ (List.mem_cons_of_mem _ List.mem_cons_self))))
      rcases List.mem_append.mp hq with hq | hq
      · exact .inr (hex q hq).2
      · exact .inl (inx _ (List.mem_cons_of_mem _ (List.mem_cons_of_mem _ (List.mem_cons_of_mem _ (List.mem_cons_of_mem _ hq)))))
    · show fTurn (fAt n i) (3 - (i : Int)) = _
      rw [hfa]
      show (stepTC p (n'.fmod (3 - (i : Int))).toNat ((n'.fdiv (3 - (i : Int))).fmod 2 == 1), (n'.fdiv (3 - (i : Int))).fdiv 2) = _
      rw [hkk, hn1]
      rfl
    · rcases List.mem_append.mp hq with hq | hq
      · exact (hex q hq).1
      · exact hoff q hq
  · clear lF lN lX l1K l1J l1I l1H l1G l1F l1E l1D l1C l1A
    intro m1 nx s1 S1 hR F1 N1
    obtain ⟨lt, lc, p, n', tvs, nt, cvs, nc, oK, oC, tn, bs, hfa, hsub, hoff, hoD, ⟨z1, z2, z3, z4⟩, hm1, hm2, hoC, ⟨kv, hoK⟩, hT, hC⟩ := hR
    have hfa : fAt n 3 = (p, n') := hfa
    have hend := fAt_end n
    rw [hfa] at hend
    have h1 := List.all_eq_true.mp ends_one _ hend
    obtain ⟨p1, p2⟩ := p
    obtain ⟨q1, q2⟩ := Bool.and_eq_true_iff.mp h1
    obtain ⟨x, rfl⟩ : ∃ x, p1 = [x] := List.length_eq_one_iff.mp (eq_of_beq q1)
    obtain ⟨c, rfl⟩ : ∃ c, p2 = [c] := List.length_eq_one_iff.mp (eq_of_beq q2)
    obtain ⟨_, _, rfl, ⟨t0, rfl⟩, rfl⟩ := hT
    obtain ⟨_, _, rfl, ⟨pa, ua, na, rfl, hpa, hra⟩, rfl⟩ := hC
    have N2 : News g L s1.heap ((L + 1 + 1, oK) :: (L + 1, oC) :: (lt, listOf (List.toArray [.str x t0]) nt) :: (lc, listOf (List.toArray [.ref pa]) nc) :: bs) := fun q hq => N1 q (hsub q hq)
    clear N1
    repeat' (first
      | (k_unfold; (try dsimp only))
      | ((with_reducible show wpAny _ _ (eval (Expr.Call (Expr.Name _ _) _ [] _) _) _ _ _); refine Call_ ?_)
      | ((with_reducible show wpAny _ _ (eval (Expr.Name _ _) _) _ _ _); k_dflt (refine' nameX_L ?nmF ?nmv ?_ ?nma ?nmb; (case nmF => k_asm); (case nma => rfl); (case nmb => rfl); (case nmv => first | rfl | assumption); k_whole); walk_say "NAMEH")
      | ((with_reducible show wpAny _ _ (eval (Expr.Name (Str.ofString "clauses") _) _) _ _ _); k_dflt (refine' nameX_C (c := L + 1) (o := oC) ?ncN rfl ?ncm hoC ?_ rfl rfl (by decide); (case ncN => k_asm); (case ncm => (with_reducible (repeat (first | exact List.mem_cons_self | apply List.mem_cons_of_mem)))); k_whole); walk_say "NAMECC")
      | ((with_reducible show wpAny _ _ (subscriptTail _ _ (Value.ref _) (Value.int _ _)) _ _ _); k_dflt (refine' item_litK ?k1 ?k2 ?k3 ?k4 ?_ ?k6; (case k1 => exact News.isList (by k_asm) (by k_mem)); (case k2 => first | assumption | decide | omega); (case k3 => first | assumption | decide | omega); (case k4 => first | rfl | assumption); (case k6 => with_unfolding_all rfl); k_whole); walk_say "ITEM")
      | (walk1) | (dsimp only; walk1) | fail "no step")
    rename News g L _ _ => lN9
    have hmono : ∀ o : Addr × Obj, ∀ q ∈ bs, q ∈ o :: (L + 1 + 1, oK) :: (L + 1, oC) :: (lt, listOf (List.toArray [.str x t0]) nt) :: (lc, listOf (List.toArray [.ref pa]) nc) :: bs := fun o q hq => List.mem_cons_of_mem _ (List.mem_cons_of_mem _ (List.mem_cons_of_mem _ (List.mem_cons_of_mem _ (List.mem_cons_of_mem _ hq))))
    refine hQ _ _ _ (_ :: (L + 1 + 1, oK) :: (L + 1, oC) :: (lt, listOf (List.toArray [.str x t0]) nt) :: (lc, listOf (List.toArray [.ref pa]) nc) :: bs) (by assumption) (by assumption) (fun q hq => ?_) ⟨_, x, t0, pa, c, rfl, List.mem_cons_self, ⟨pa, ua, na, rfl, hmono _ _ hpa, RowsAre.mono (hmono _) hra⟩, hend⟩
    rcases List.mem_append.mp hq with hq | hq
    · exact lN9 q hq
    · exact lN9 q (hmono _ q (z4 q hq))
end Mine
set_option maxHeartbeats 4000000
namespace Mine
theorem fill18 : True := by
  w_top off
  exact True.intro
local macro_rules | `(tactic| k_mem) => `(tactic| ((repeat (first | assumption | exact List.Mem.head _ | apply List.Mem.tail)); done))
def pickG (gs : List G) (k : Int) : Option G := if 0 ≤ k then gs[k.toNat]? else none
/-- what is made of a clause's games from the left -/
def partFrom (gs : List G) (g : G) : List Int → Option G
  | [] => some g
  | k :: r => (pickG gs k).bind fun x => partFrom gs (madeG 0 g x) r
def partG (gs : List G) : List Int → Option G
  | [] => none
  | k :: r => (pickG gs k).bind fun x => partFrom gs x r
def partsG (gs : List G) : List (List Int) → Option (List G)
  | [] => some []
  | c :: r => (partG gs c).bind fun x => (partsG gs r).map (x :: ·)
/-- what is made of the parts, the last first -/
def joinG : List G → Option G
  | [] => none
  | x :: r => some (r.foldl (madeG 18) x)
theorem Rels.last {α : Type} {P : α → Value → Prop} : ∀ {as : List α} {vs : List Value}, Rels P as vs → 0 < vs.length → ∃ l a us v, as = l ++ [a] ∧ vs = us ++ [v] ∧ Rels P l us ∧ P a v
  | [], _, e, h => by subst e; cases h
  | [a], _, ⟨u, us, e, q, r⟩, _ => by obtain rfl : us = [] := r; subst e; exact ⟨[], a, [], u, rfl, rfl, rfl, q⟩
  | a :: b :: as, _, ⟨u, us, e, q, r⟩, _ => by
    obtain ⟨u2, us2, e2, q2, r2⟩ := id r
    obtain ⟨l, a', us', v, h1, h2, h3, h4⟩ := Rels.last r (by subst e2; exact Nat.succ_pos _)
    subst e h2
    exact ⟨a :: l, a', u :: us', v, by rw [h1]; rfl, rfl, ⟨u, us', rfl, q, h3⟩, h4⟩
def GIs (nw : List (Addr × Obj)) (x : G) (v : Value) : Prop := ∃ a, v = .ref a ∧ GameIn nw a x
theorem spread_c (w : World) (news : List (Addr × Obj)) (gs parts : List G) (x : G) (c : List (List Int)) (ac ag tb : Addr) (uc : List Value) (nc : Nat) (hlc : (ac, listOf (List.toArray uc) nc) ∈ news) (hrc : RowsAre news c uc) (hg : Games news ag gs) (htb : Tabs news tb) (hcl : c.length ≤ 100) (hgl : gs.length ≤ 5) (hrl : ∀ r ∈ c, r.length ≤ 100)
    (hp : partsG gs c = some parts) (hj : joinG parts.reverse = some x) : Con w 3 174 [.ref ac, .ref ag, .ref tb] news (fun tl v => ∃ a, v = .ref a ∧ GameIn (tl ++ news) a x) := by
  refine' Con.of (binds := [(Str.ofString "clauses", .ref ac), (Str.ofString "games", .ref ag), (Str.ofString "tables", .ref tb)]) ?ho ?hbd ?hsc ?hcd ?hb ?hl ?hco ?hg ?hk ?hc ?hbody
  case' ho => k_is
  case' hbd => (conv => rhs; whnf)
  case' hsc => (conv => rhs; whnf)
  case' hcd => k_is
  case' hb => exact rfl
  case' hl => exact locs rfl
  case' hco => exact rfl
  case' hg => exact rfl
  case' hk => exact rfl
  case' hc => decide
  intro A g L s H hh S F N G ht Q hQ
  have X := G.x
  obtain ⟨loose, mean, mg, mb, T⟩ := G.t
  (try dsimp only)
  repeat' (first
    | (k_unfold; (try dsimp only))
    | ((with_reducible show wpAny _ _ (eval (Expr.Call (Expr.Name _ _) _ [] _) _) _ _ _); refine Call_ ?_)
    | ((fail_if_success (with_reducible show wpAny _ _ (exec (Stmt.For _ _ _ _ _) _) _ _ _)); walk1) | ((fail_if_success (with_reducible show wpAny _ _ (exec (Stmt.For _ _ _ _ _) _) _ _ _)); dsimp only; walk1) | fail "no step")
  refine For_invV g (by rfl) (by rfl) ?_ (fun _ => rfl) (by passes_own)
  repeat' (first
    | (k_unfold; (try dsimp only))
    | ((with_reducible show wpAny _ _ (eval (Expr.Call (Expr.Name _ _) _ [] _) _) _ _ _); refine Call_ ?_)
    | ((fail_if_success (with_reducible show wpAny _ _ (pyIter _) _ _ _)); walk1) | ((fail_if_success (with_reducible show wpAny _ _ (pyIter _) _ _ _)); dsimp only; walk1) | fail "no step")
  rename_i Dw hA lD hB lF lN
  refine' listG (s₀ := s) (vs := uc) (fun i m nx => ∃ ws nw done base, nx = (Dw, listOf (List.toArray ws) nw) :: base ∧ (∀ q ∈ news, q ∈ base) ∧ (∀ q ∈ base, q.1 ≠ Dw) ∧ Rels (GIs base) done ws ∧ ws.length = i ∧ i ≤ c.length ∧ (partsG gs (c.drop i)).map (done ++ ·) = some parts ∧
      m (Str.ofString "whole") = some (.ref Dw) ∧ m (Str.ofString "games") = some (.ref ag) ∧ m (Str.ofString "tables") = some (.ref tb)) hh (News.isList lN (List.Mem.tail _ hlc)) (lN _ (List.Mem.tail _ hlc)).2.1 (by assumption) lF lN
    ⟨[], 0, [], news, rfl, fun q hq => hq, fun q hq => Nat.ne_of_lt (lD q hq), rfl, rfl, Nat.zero_le _, by rw [List.drop_zero, hp]; rfl, rfl, rfl, rfl⟩ ?_ ?_
  · clear lN lF
    intro i v m1 nx s1 own hv hown S1 hR F1 N1 Q1 hQ1 _
    obtain ⟨ws, nw, done, base, rfl, hsub, hoff, hW, hwl, hile, hpt, hm1, hm2, hm3⟩ := hR
    obtain ⟨l, hl, p, its, n1, rfl, hpm, hits⟩ := hrc.get hv
    have hdrop : c.drop i = l :: c.drop (i + 1) := by
      obtain ⟨hlt, e⟩ := List.getElem?_eq_some_iff.mp hl
      rw [← e]
      exact List.drop_eq_getElem_cons hlt
    have hlm : l ∈ c := List.mem_of_getElem? hl
    have hll := hrl l hlm
    have hil : i < c.length := (List.getElem?_eq_some_iff.mp hl).1
    rw [hdrop] at hpt
    obtain ⟨qs, hq1, hq2⟩ := Option.map_eq_some_iff.mp hpt
    obtain ⟨y, hy, hq1⟩ := Option.bind_eq_some_iff.mp hq1
    obtain ⟨rs, hrs, rfl⟩ := Option.map_eq_some_iff.mp hq1
    obtain ⟨k0, rest, rfl⟩ : ∃ k0 rest, l = k0 :: rest := by
      cases l with
      | nil => cases hy
      | cons a b => exact ⟨a, b, rfl⟩
    obtain ⟨g0, hg0, hfr⟩ := Option.bind_eq_some_iff.mp hy
    obtain ⟨hk0, hgk⟩ : 0 ≤ k0 ∧ gs[k0.toNat]? = some g0 := by
      unfold pickG at hg0
      split at hg0
      · exact ⟨by assumption, hg0⟩
      · cases hg0
    obtain ⟨tk0, its', rfl, hits'⟩ := hits.cons_inv
    have hoff' : ∀ q ∈ base ++ own, q.1 ≠ Dw := fun q hq => by
      rcases List.mem_append.mp hq with hq | hq
      · exact hoff q hq
      rcases hown q hq with e | e
      · rw [e]; exact hoff _ (hsub _ hlc)
      · exact e _ (.head _)
    have hsub' : ∀ q ∈ news, q ∈ base ++ own := fun q hq => List.mem_append_left _ (hsub q hq)
    have hg' := hg.mono hsub
    have htb' := htb.mono hsub'
    obtain ⟨vg, ng, hgm, hgi⟩ := hg'
    obtain ⟨b0, hb0, hgb0⟩ := hgi _ _ hgk
    have hgm' := List.mem_append_left own hgm
    have hpm' := hsub' _ hpm
    have hk63 : k0 < 2 ^ 63 := by
      have := (List.getElem?_eq_some_iff.mp hgk).1
      omega
    rw [List.cons_append] at N1
    repeat' (first
      | (k_unfold; (try dsimp only))
      | ((with_reducible show wpAny _ _ (eval (Expr.Call (Expr.Name _ _) _ [] _) _) _ _ _); refine Call_ ?_)
      | ((with_reducible show wpAny _ _ (eval (Expr.Name _ _) _) _ _ _); k_dflt (refine' nameX_L ?nmF ?nmv ?_ ?nma ?nmb; (case nmF => k_asm); (case nma => rfl); (case nmb => rfl); (case nmv => first | rfl | assumption); k_whole); walk_say "NAMEH")
      | ((with_reducible show wpAny _ _ (subscriptTail _ _ (Value.ref _) (Value.int _ _)) _ _ _); k_dflt (refine' item_litK ?k1 ?k2 ?k3 ?k4 ?_ ?k6; (case k1 => exact News.isList (by k_asm) (by k_mem)); (case k2 => first | assumption | decide | omega); (case k3 => first | assumption | decide | omega); (case k4 => first | rfl | assumption); (case k6 => with_unfolding_all rfl); k_whole); walk_say "ITEM")
      | ((fail_if_success (with_reducible show wpAny _ _ (exec (Stmt.For _ _ _ _ _) _) _ _ _)); (fail_if_success (with_reducible show wpAny _ _ (execs (Stmt.For _ _ _ _ _ :: _) _) _ _ _)); walk1) | ((fail_if_success (with_reducible show wpAny _ _ (exec (Stmt.For _ _ _ _ _) _) _ _ _)); (fail_if_success (with_reducible show wpAny _ _ (execs (Stmt.For _ _ _ _ _ :: _) _) _ _ _)); dsimp only; walk1) | fail "no step")
    refine execs_cut (fun s' => ∃ m' ex a, Same s s' ∧ Fr g L s'.heap m' ∧ News g L s'.heap ((Dw, listOf (List.toArray ws) nw) :: (ex ++ (base ++ own))) ∧ (∀ q ∈ ex, q.1 ≠ Dw ∧ q.2.cls ≠ .type "list_iterator") ∧ m' (Str.ofString "part") = some (.ref a) ∧ GameIn (ex ++ base) a y ∧
        m' (Str.ofString "whole") = some (.ref Dw) ∧ m' (Str.ofString "games") = some (.ref ag) ∧ m' (Str.ofString "tables") = some (.ref tb)) (fun Q2 hQ2 => ?_) fun s5 h5 => ?_
    · refine For_invV g (by rfl) (by rfl) ?_ (fun _ => rfl) (by passes_own)
      repeat' (first
        | (k_unfold; (try dsimp only))
        | ((with_reducible show wpAny _ _ (eval (Expr.Call (Expr.Name _ _) _ [] _) _) _ _ _); refine Call_ ?_)
        | ((with_reducible show wpAny _ _ (eval (Expr.Name _ _) _) _ _ _); k_dflt (refine' nameX_L ?nmF ?nmv ?_ ?nma ?nmb; (case nmF => k_asm); (case nma => rfl); (case nmb => rfl); (case nmv => first | rfl | assumption); k_whole); walk_say "NAMEH")
        | ((fail_if_success (with_reducible show wpAny _ _ (pyIter _) _ _ _)); walk1) | ((fail_if_success (with_reducible show wpAny _ _ (pyIter _) _ _ _)); dsimp only; walk1) | fail "no step")
      rename News g L _ _ => lN
      rename Fr g L _ _ => lF
      rename IntsAre _ (List.drop 1 _) => hI0
      rename_i Ds wsv hX hC1 hL1 lX
      have hI : IntsAre wsv rest := hI0
      refine' listG (s₀ := s) (vs := wsv) (fun j m nx => ∃ ex a gc, nx = (Dw, listOf (List.toArray ws) nw) :: (ex ++ (base ++ own)) ∧ (∀ q ∈ ex, q.1 ≠ Dw ∧ q.2.cls ≠ .type "list_iterator") ∧ m (Str.ofString "part") = some (.ref a) ∧ GameIn (ex ++ base) a gc ∧ partFrom gs gc (rest.drop j) = some y ∧ j ≤ rest.length ∧
          m (Str.ofString "whole") = some (.ref Dw) ∧ m (Str.ofString "games") = some (.ref ag) ∧ m (Str.ofString "tables") = some (.ref tb)) hh (News.isList lN (List.Mem.head _)) (lN _ (List.Mem.head _)).2.1 (by assumption) lF (news := (Dw, listOf (List.toArray ws) nw) :: ([(Ds, listOf (List.toArray wsv) 0)] ++ (base ++ own))) (fun q hq => lN q (by
            simp only [List.mem_cons, List.mem_append, List.cons_append, List.nil_append] at hq ⊢
            rcases hq with h | h | h | h <;> simp [h])) ⟨[(Ds, listOf (List.toArray wsv) 0)], b0, g0, rfl, fun q hq => by
              rw [List.mem_singleton.mp hq]
              exact ⟨Ne.symm (Nat.ne_of_lt lX.1), by simp⟩, rfl, hgb0.mono fun q hq => List.mem_cons_of_mem _ hq, by rw [List.drop_zero]; exact hfr, Nat.zero_le _, hm1, hm2, hm3⟩ ?_ ?_
      · clear lN lF
        intro j v5 m5 nx5 s5 own5 hv5 hown5 S5 hR5 F5 N5 Q5 hQ5 _
        obtain ⟨ex, a, gc, rfl, hex, e1, hgc, hpf, hj, e2, e3, e4⟩ := hR5
        obtain ⟨k, tk5, hk5, rfl⟩ := int_at hI hv5
        obtain ⟨hjl, hje⟩ := List.getElem?_eq_some_iff.mp hk5
        rw [List.drop_eq_getElem_cons hjl, hje] at hpf
        obtain ⟨gk, hpk, hpf⟩ := Option.bind_eq_some_iff.mp hpf
        obtain ⟨hk1, hgk1⟩ : 0 ≤ k ∧ gs[k.toNat]? = some gk := by
          unfold pickG at hpk
          split at hpk
          · exact ⟨by assumption, hpk⟩
          · cases hpk
        obtain ⟨bk, hbk, hgbk⟩ := hgi _ _ hgk1
        have hk2 : k < 2 ^ 63 := by
          have := (List.getElem?_eq_some_iff.mp hgk1).1
          omega
        rw [List.cons_append] at N5
        have up2 : ∀ q ∈ ex ++ base, q ∈ (ex ++ (base ++ own)) ++ own5 := fun q hq => by
          simp only [List.mem_append] at hq ⊢
          rcases hq with h | h <;> simp [h]
        have up3 : ∀ q ∈ base, q ∈ (ex ++ (base ++ own)) ++ own5 := fun q hq => up2 q (List.mem_append_right _ hq)
        have htb2 := htb.mono fun q hq => up3 q (hsub q hq)
        have hgc2 := hgc.mono up2
        have hgk2 := hgbk.mono up3
        have hgm2 := up3 _ hgm
        repeat' (first
          | (k_unfold; (try dsimp only))
          | ((with_reducible show wpAny _ _ (eval (Expr.Call (Expr.Name _ _) _ [] _) _) _ _ _); refine Call_ ?_)
          | ((with_reducible show wpAny _ _ (eval (Expr.Name _ _) _) _ _ _); k_dflt (refine' nameX_L ?nmF ?nmv ?_ ?nma ?nmb; (case nmF => k_asm); (case nma => rfl); (case nmb => rfl); (case nmv => first | rfl | assumption); k_whole); walk_say "NAMEH")
          | ((with_reducible show wpAny _ _ (subscriptTail _ _ (Value.ref _) (Value.int _ _)) _ _ _); k_dflt (refine' item_litK ?k1 ?k2 ?k3 ?k4 ?_ ?k6; (case k1 => exact News.isList (by k_asm) (by k_mem)); (case k2 => first | assumption | decide | omega); (case k3 => first | assumption | decide | omega); (case k4 => first | rfl | assumption); (case k6 => with_unfolding_all rfl); k_whole); walk_say "ITEM")
          | ((with_reducible show wpAny _ _ (call (Value.ref 153) _ _) _ _ _); k_dflt (refine' Con.use (made_c _ _ _ _ _ _ _ _ _ ?g1 ?g2 ?g3) ?k1 ?k2 ?k0 ?k3 ?k4 ?k5 ?_; (case k1 => assumption); (case k2 => decide); (case k3 => k_asm); (case k4 => k_asm); (case k5 => assumption); (case k0 => assumption); (case g1 => first | assumption | exact GameIn.mono (by assumption) (by (intro p hp; repeat (first | assumption | apply List.Mem.tail))) | exact Tabs.mono (by assumption) (by (intro p hp; repeat (first | assumption | apply List.Mem.tail))) | exact ⟨_, (by k_mem), (by assumption)⟩ | exact ⟨_, (by k_mem), _, _, _, _, rfl⟩); (case g2 => first | assumption | exact GameIn.mono (by assumption) (by (intro p hp; repeat (first | assumption | apply List.Mem.tail))) | exact Tabs.mono (by assumption) (by (intro p hp; repeat (first | assumption | apply List.Mem.tail))) | exact ⟨_, (by k_mem), (by assumption)⟩ | exact ⟨_, (by k_mem), _, _, _, _, rfl⟩); (case g3 => first | assumption | exact GameIn.mono (by assumption) (by (intro p hp; repeat (first | assumption | apply List.Mem.tail))) | exact Tabs.mono (by assumption) (by (intro p hp; repeat (first | assumption | apply List.Mem.tail))) | exact ⟨_, (by k_mem), (by assumption)⟩ | exact ⟨_, (by k_mem), _, _, _, _, rfl⟩); intro r9 tl9 s9 S9 F9 N9 hR9; (obtain ⟨a9, o9, e8, e9, hG9⟩ := hR9); subst e8; subst e9; (rw [List.singleton_append] at N9); (try dsimp only)); walk_say "CALL made_c")
          | (walk1) | (dsimp only; walk1) | fail "no step")
        rename News g L _ _ => lN
        have c9 := GO.cls hG9
        have hne : a9 ≠ Dw := cls_ne lN (List.Mem.head _) (.tail _ (.head _)) c9
        refine hQ5 _ _ ((Dw, listOf (List.toArray ws) nw) :: (((a9, o9) :: ex) ++ (base ++ own))) (by assumption) (by assumption) ?_ (fun q hq => ?_) ⟨(a9, o9) :: ex, a9, madeG 0 gc gk, rfl, fun q hq => ?_, rfl, ⟨o9, List.mem_cons_self, hG9⟩, hpf, hjl, by assumption, by assumption, by assumption⟩
        · exact fun q hq => lN q (by
            simp only [List.mem_cons, List.mem_append, List.cons_append] at hq ⊢
            rcases hq with h | h | (h | h | h) | h <;> simp [h])
        · rcases List.mem_cons.mp hq with rfl | hq
          · exact .inl (by simp)
          rcases List.mem_cons.mp hq with rfl | hq
          · exact .inr (by rw [c9]; simp)
          · exact .inl (List.mem_map.mpr ⟨q, List.mem_cons_of_mem _ hq, rfl⟩)
        · rcases List.mem_cons.mp hq with rfl | hq
          · exact ⟨hne, by rw [c9]; simp⟩
          · exact hex q hq
      · intro m5 nx5 s5 S5 hR5 F5 N5
        obtain ⟨ex, a, gc, rfl, hex, e1, hgc, hpf, hj, e2, e3, e4⟩ := hR5
        rw [hI.length, List.drop_length] at hpf
        obtain rfl : gc = y := Option.some.inj hpf
        exact hQ2 _ ⟨m5, ex, a, S5, F5, N5, hex, e1, hgc, e2, e3, e4⟩
    · obtain ⟨m6, ex, a, S6, F6, N6, hex, e1, hgc, e2, e3, e4⟩ := h5
      have hDn : ∀ q ∈ ex ++ (base ++ own), q.1 ≠ Dw := fun q hq => by
        rcases List.mem_append.mp hq with hq | hq
        · exact (hex q hq).1
        · exact hoff' q hq
      have hwz : ws.length ≤ 1000 := by omega
      repeat' (first
        | (k_unfold; (try dsimp only))
        | ((with_reducible show wpAny _ _ (eval (Expr.Call (Expr.Name _ _) _ [] _) _) _ _ _); refine Call_ ?_)
        | ((with_reducible show wpAny _ _ (eval (Expr.Name _ _) _) _ _ _); k_dflt (refine' nameX_L ?nmF ?nmv ?_ ?nma ?nmb; (case nmF => k_asm); (case nma => rfl); (case nmb => rfl); (case nmv => first | rfl | assumption); k_whole); walk_say "NAMEH")
        | ((with_reducible show wpAny _ _ (call (Value.builtin "list.append") [Value.ref _, _]) _ _ _); k_dflt (refine' append_K ?apF ?apN ?apU ?_ ?apz; (case apF => k_asm); (case apN => k_asm); (case apU => first | exact Upd.head hDn | exact Upd.tail (cls_ne (by k_asm) (.head _) (.tail _ (.head _)) (GO.cls (by assumption))) (Upd.head hDn)); (case apz => exact len_room (by assumption))); intro h' F' N'; (rw [List.push_toArray] at N'); (try dsimp only); walk_say "APP1")
        | (walk1) | (dsimp only; walk1) | fail "no step")
      rename News g L _ _ => lN
      refine hQ1 _ _ ((Dw, listOf (List.toArray (ws ++ [Value.ref a])) (nw + 1)) :: (ex ++ base)) (by assumption) (by assumption) (fun q hq => lN q ?_) (fun q hq => ?_) ⟨_, _, done ++ [y], ex ++ base, rfl, fun q hq => List.mem_append_right _ (hsub q hq), fun q hq => ?_, ?_, ?_, hil, ?_, by assumption, by assumption, by assumption⟩
      · rw [List.cons_append, List.append_assoc] at hq
        exact hq
      · rcases List.mem_cons.mp hq with rfl | hq
        · exact .inl (by simp)
        rcases List.mem_append.mp hq with hq | hq
        · exact .inr (hex q hq).2
        · exact .inl (List.mem_map.mpr ⟨q, List.mem_cons_of_mem _ hq, rfl⟩)
      · rcases List.mem_append.mp hq with hq | hq
        · exact (hex q hq).1
        · exact hoff q hq
      · exact Rels.append (Rels.one ⟨a, rfl, hgc⟩) (hW.imp fun _ _ h => by
          obtain ⟨b, e, h⟩ := h
          exact ⟨b, e, h.mono fun q hq => List.mem_append_right _ hq⟩)
      · simp [hwl]
      · rw [hrs]
        show some (done ++ [y] ++ rs) = some parts
        rw [List.append_assoc]
        exact congrArg some hq2
  · clear lN lF
    intro m1 nx s1 S1 hR F1 N1
    obtain ⟨ws, nw, done, base, rfl, hsub, hoff, hW, hwl, hile, hpt, hm1, hm2, hm3⟩ := hR
    rw [hrc.length, List.drop_length] at hpt
    obtain rfl : done = parts := by
      have h9 : some (done ++ []) = some parts := hpt
      rw [List.append_nil] at h9
      exact Option.some.inj h9
    (try dsimp only)
    repeat' (first
      | (k_unfold; (try dsimp only))
      | ((with_reducible show wpAny _ _ (eval (Expr.Call (Expr.Name _ _) _ [] _) _) _ _ _); refine Call_ ?_)
      | ((with_reducible show wpAny _ _ (eval (Expr.Name _ _) _) _ _ _); k_dflt (refine' nameX_L ?nmF ?nmv ?_ ?nma ?nmb; (case nmF => k_asm); (case nma => rfl); (case nmb => rfl); (case nmv => first | rfl | assumption); k_whole); walk_say "NAMEH")
      | ((fail_if_success (with_reducible show wpAny _ _ (exec (Stmt.While _ _ _ _) _) _ _ _)); walk1) | ((fail_if_success (with_reducible show wpAny _ _ (exec (Stmt.While _ _ _ _) _) _ _ _)); dsimp only; walk1) | fail "no step")
    refine whileS (s₀ := s) (n₀ := ws.length) (fun n m₁ nx => ∃ ws nw done base, nx = (Dw, listOf (List.toArray ws) nw) :: base ∧ (∀ q ∈ news, q ∈ base) ∧ (∀ q ∈ base, q.1 ≠ Dw) ∧ Rels (GIs base) done ws ∧ ws.length = n ∧ n ≤ 100 ∧ joinG done.reverse = some x ∧
      m₁ (Str.ofString "whole") = some (.ref Dw) ∧ m₁ (Str.ofString "tables") = some (.ref tb)) (by assumption) F1 N1 ⟨ws, nw, done, base, rfl, hsub, hoff, hW, rfl, by rw [hwl, hrc.length]; exact hcl, hj, hm1, hm3⟩ ?_ (by passes_own)
    clear hoff hW hwl hj hsub hile hpt hp
    intro n m2 nx2 s2 S2 F2 N2 hJ Q2 hQ2
    obtain ⟨ws, nw, done, base, rfl, hsub, hoff, hW, rfl, hn, hjn, hm1, hm2⟩ := hJ
    have hDn := hoff
    have hwz : ws.length ≤ 1000 := by omega
    have htb2 := htb.mono hsub
    repeat' (first
      | (k_unfold; (try dsimp only))
      | ((with_reducible show wpAny _ _ (eval (Expr.Call (Expr.Name _ _) _ [] _) _) _ _ _); refine Call_ ?_)
      | ((with_reducible show wpAny _ _ (eval (Expr.Name _ _) _) _ _ _); k_dflt (refine' nameX_L ?nmF ?nmv ?_ ?nma ?nmb; (case nmF => k_asm); (case nma => rfl); (case nmb => rfl); (case nmv => first | rfl | assumption); k_whole); walk_say "NAMEH")
      | ((with_reducible show wpAny _ _ (call (Value.builtin "len") [Value.ref _]) _ _ _); k_dflt (refine KM.len_K (its := List.toArray ws) (c := nw) (n := ws.length) (by k_asm) List.mem_cons_self List.size_toArray (by omega) ?_); (try dsimp only); walk_say "LENW")
      | ((fail_if_success (with_reducible show wpAny _ _ (execs (_ :: _) _) _ _ _)); walk1) | ((fail_if_success (with_reducible show wpAny _ _ (execs (_ :: _) _) _ _ _)); dsimp only; walk1) | fail "no step")
    · rename (1 : Int) < _ => hlt
      have hlt' : 1 < ws.length := by omega
      obtain ⟨d1, g1, us1, v1, rfl, rfl, hW1, b1, rfl, hG1⟩ := Rels.last hW (by omega)
      rw [List.length_append, List.length_singleton] at hlt'
      obtain ⟨d2, g2, us, v2, rfl, rfl, hW2, b2, rfl, hG2⟩ := Rels.last hW1 (by omega)
      have hlp := hwz
      have hl2 := len_pre hwz
      have hl3 := len_pre hl2
      have hj2 : joinG ((d2 ++ [madeG 18 g1 g2]).reverse) = some x := by
        rw [List.reverse_append] at hjn ⊢
        rw [List.reverse_append] at hjn
        exact hjn
      rw [List.length_append, List.length_append, List.length_singleton, List.length_singleton] at hn
      have hl4 : us.length ≤ 1000 := by omega
      repeat' (first
        | (k_unfold; (try dsimp only))
        | ((with_reducible show wpAny _ _ (eval (Expr.Call (Expr.Name _ _) _ [] _) _) _ _ _); refine Call_ ?_)
        | ((with_reducible show wpAny _ _ (eval (Expr.Name _ _) _) _ _ _); k_dflt (refine' nameX_L ?nmF ?nmv ?_ ?nma ?nmb; (case nmF => k_asm); (case nma => rfl); (case nmb => rfl); (case nmv => first | rfl | assumption); k_whole); walk_say "NAMEH")
        | ((with_reducible show wpAny _ _ (call (Value.builtin _) (Prod.snd _)) _ _ _); dsimp only)
        | ((with_reducible show wpAny _ _ (call (Value.builtin _) [Value.ref _]) _ _ _); k_dflt (refine' kl_pop ?poF ?poN ?poe ?poU ?poz ?_; (case poF => k_asm); (case poN => k_asm); (case poU => exact Upd.head hDn); (case poe => exact kpa_last _ _); (case poz => first | exact len_roomL hlp | exact len_roomL hl2)); intro h' F' N'; (try dsimp only); walk_say "POPD")
        | ((with_reducible show wpAny _ _ (call (Value.builtin "list.append") [Value.ref _, _]) _ _ _); k_dflt (refine' append_K ?apF ?apN ?apU ?_ ?apz; (case apF => k_asm); (case apN => k_asm); (case apU => first | exact Upd.head hDn | exact Upd.tail (cls_ne (by k_asm) (.head _) (.tail _ (.head _)) (GO.cls (by assumption))) (Upd.head hDn)); (case apz => exact len_room (by assumption))); intro h' F' N'; (rw [List.push_toArray] at N'); (try dsimp only); walk_say "APP1")
        | ((with_reducible show wpAny _ _ (call (Value.ref 153) _ _) _ _ _); k_dflt (refine' Con.use (made_c _ _ _ _ _ _ _ _ _ ?g1 ?g2 ?g3) ?k1 ?k2 ?k0 ?k3 ?k4 ?k5 ?_; (case k1 => assumption); (case k2 => decide); (case k3 => k_asm); (case k4 => k_asm); (case k5 => assumption); (case k0 => assumption); (case g1 => first | assumption | exact GameIn.mono (by assumption) (by (intro p hp; repeat (first | assumption | apply List.Mem.tail))) | exact Tabs.mono (by assumption) (by (intro p hp; repeat (first | assumption | apply List.Mem.tail))) | exact ⟨_, (by k_mem), (by assumption)⟩ | exact ⟨_, (by k_mem), _, _, _, _, rfl⟩); (case g2 => first | assumption | exact GameIn.mono (by assumption) (by (intro p hp; repeat (first | assumption | apply List.Mem.tail))) | exact Tabs.mono (by assumption) (by (intro p hp; repeat (first | assumption | apply List.Mem.tail))) | exact ⟨_, (by k_mem), (by assumption)⟩ | exact ⟨_, (by k_mem), _, _, _, _, rfl⟩); (case g3 => first | assumption | exact GameIn.mono (by assumption) (by (intro p hp; repeat (first | assumption | apply List.Mem.tail))) | exact Tabs.mono (by assumption) (by (intro p hp; repeat (first | assumption | apply List.Mem.tail))) | exact ⟨_, (by k_mem), (by assumption)⟩ | exact ⟨_, (by k_mem), _, _, _, _, rfl⟩); intro r9 tl9 s9 S9 F9 N9 hR9; (obtain ⟨a9, o9, e8, e9, hG9⟩ := hR9); subst e8; subst e9; (rw [List.singleton_append] at N9); (try dsimp only)); walk_say "CALL made_c")
        | (walk1) | (dsimp only; walk1) | fail "no step")
      rename News g L _ _ => lN
      have c9 := GO.cls hG9
      have hne : a9 ≠ Dw := cls_ne lN (.head _) (.tail _ (.head _)) c9
      refine hQ2 _ _ ((Dw, listOf (List.toArray (us ++ [Value.ref a9])) (nw + 1 + 1 + 1)) :: (a9, o9) :: base) (us.length + 1) (by assumption) (by assumption) (fun q hq => lN q ?_) (by rw [List.length_append, List.length_append, List.length_singleton, List.length_singleton]; omega)
        ⟨_, _, d2 ++ [madeG 18 g1 g2], (a9, o9) :: base, rfl, fun q hq => List.mem_cons_of_mem _ (hsub q hq), fun q hq => ?_, ?_, by rw [List.length_append]; rfl, by omega, hj2, by assumption, by assumption⟩
      · rcases List.mem_cons.mp hq with h | hq
        · exact .tail _ (h ▸ .head _)
        rcases List.mem_cons.mp hq with h | hq
        · exact h ▸ .head _
        · exact .tail _ (.tail _ hq)
      · rcases List.mem_cons.mp hq with rfl | hq
        · exact hne
        · exact hDn q hq
      · exact Rels.append (Rels.one ⟨a9, rfl, o9, List.mem_cons_self, hG9⟩) (hW2.imp fun _ _ h => by
          obtain ⟨b, e, h⟩ := h
          exact ⟨b, e, h.mono fun q hq => List.mem_cons_of_mem _ hq⟩)
    · rename ¬ (1 : Int) < _ => hge
      have hge' : ¬ 1 < ws.length := by omega
      obtain ⟨g1, rfl⟩ : ∃ g1, done = [g1] := by
        have hz := hW.length
        match done, hz, hjn with
        | [g1], _, _ => exact ⟨g1, rfl⟩
        | _ :: _ :: _, hz, _ => exact absurd hz (by simp only [List.length_cons]; omega)
      obtain ⟨v1, us, rfl, ⟨b1, rfl, hG1⟩, rfl⟩ := hW
      obtain rfl : g1 = x := Option.some.inj hjn
      repeat' (first
        | (k_unfold; (try dsimp only))
        | ((with_reducible show wpAny _ _ (eval (Expr.Call (Expr.Name _ _) _ [] _) _) _ _ _); refine Call_ ?_)
        | ((with_reducible show wpAny _ _ (eval (Expr.Name _ _) _) _ _ _); k_dflt (refine' nameX_L ?nmF ?nmv ?_ ?nma ?nmb; (case nmF => k_asm); (case nma => rfl); (case nmb => rfl); (case nmv => first | rfl | assumption); k_whole); walk_say "NAMEH")
        | ((with_reducible show wpAny _ _ (subscriptTail _ _ (Value.ref _) (Value.int _ _)) _ _ _); k_dflt (refine' item_litK ?k1 ?k2 ?k3 ?k4 ?_ ?k6; (case k1 => exact News.isList (by k_asm) (by k_mem)); (case k2 => first | assumption | decide | omega); (case k3 => first | assumption | decide | omega); (case k4 => first | rfl | assumption); (case k6 => with_unfolding_all rfl); k_whole); walk_say "ITEM")
        | (walk1) | (dsimp only; walk1) | fail "no step")
      refine hQ _ _ _ ((Dw, listOf (List.toArray [Value.ref b1]) nw) :: base) (by assumption) (by assumption) (fun q hq => ?_) ⟨b1, rfl, hG1.mono fun q hq => List.mem_append_left _ (List.mem_cons_of_mem _ hq)⟩
      rename News g L _ _ => lN
      refine lN q ?_
      rcases List.mem_append.mp hq with hq | hq
      · exact hq
      · exact List.mem_cons_of_mem _ (hsub q hq)
end Mine
set_option maxHeartbeats 4000000
namespace Mine
def updL : (Str → Option Value) → List Str → List Value → Str → Option Value
  | m, x :: xs, v :: vs => updL (fun z => if z = x then some v else m z) xs vs
  | m, _, _ => m
section
variable {w : World} {A : Around} {E : Value → Shared → Prop} {s : Shared} {env : Env}
/-- names stored one by one in a display's own names -/
theorem inOrder_C {C : Addr} {Q : Unit → Shared → Prop} : ∀ (ps : List (Str × Pos)) (vs : List Value) (s : Shared) (mc : Str → Option Value), ps.length = vs.length → (∀ p ∈ ps, env.kindOf p.1 = some .local) → env.scope.kind = .function → env.locals = C → s.heap.Ns C mc →
    (∀ h' tk, Heap.SameBut C s.heap h' → h'.Ns C (updL mc (ps.map (·.1)) vs) → Q () { s with heap := h', toks := tk }) → wpAny (model Prg w) A (assignInOrder (ps.map fun p => assign (.Name p.1 p.2) env) vs) Q E s := by
  intro ps
  induction ps with
  | nil =>
    intro vs s mc hl _ _ _ n h
    obtain rfl := List.eq_nil_of_length_eq_zero hl.symm
    exact wpAny_assignInOrder_none (h s.heap s.toks (Heap.SameBut.refl _ _) n)
  | cons p ps ih =>
    intro vs s mc hl hk hf hC n h
    obtain ⟨v, vs, rfl⟩ := List.exists_cons_of_length_eq_add_one hl.symm
    subst hC
    refine wpAny_assignInOrder_more (wpAny_assign_Name (wpAny_storeName_local (hk p (.head _)) n (fun h1 n1 k1 => ?_) (by rw [hf]; rfl)))
    exact ih vs { s with heap := h1, toks := s.toks + 1 } _ (Nat.succ.inj hl) (fun q hq => hk q (.tail _ hq)) hf rfl n1 fun h2 tk k2 n2 => h h2 tk (Heap.SameBut.trans k1 k2) n2
end
section
variable {w : World} {A : Around} {R : Result → Shared → Prop} {s : Shared}
theorem loop_t {elt iter : Ex} {elts : List Ex} {ct} {pt : Pos} {ifs : List Ex} {scope : Scope} {pos : Pos} {I : Addr} {acc : Value} {env : Env} (J : Nat → Shared → Prop)
    (turn : ∀ n s, J n s → wpAny (model Prg w) A (pyNext (.ref I)) (fun r s₁ => match r with
      | none => R (.ok .next) s₁
      | some v => ∃ T l i, v = .ref T ∧ s₁.heap.IsListIter I l i ∧ wpAny (model Prg w) A (assign (.Tuple elts ct pt) env v) (fun _ s₂ =>
          wpAny (model Prg w) A (forIn ifs true fun c r => if r = true then do let ok ← isTrue c env (eval c env); pure (ForInStep.yield ok) else pure (ForInStep.yield r)) (fun ok s₃ =>
            if ok = true then wpAny (model Prg w) A (eval elt env) (fun x s₄ =>
              wpAny (model Prg w) A (call (.builtin "list.append") [acc, x]) (fun _ s₅ => ∃ m, m < n ∧ J m s₅) (notedBy (model Prg w) A env fun e s' => R (.error e) s') s₄) (notedBy (model Prg w) A env fun e s' => R (.error e) s') s₃
            else ∃ m, m < n ∧ J m s₃) (notedBy (model Prg w) A env fun e s' => R (.error e) s') s₂) (notedBy (model Prg w) A env fun e s' => R (.error e) s') s₁) (notedBy (model Prg w) A env fun e s' => R (.error e) s') s)
    (n : Nat) (h : J n s) :
    codeAny (model Prg w) A (.compLoop (.ListComp elt [⟨.Tuple elts ct pt, iter, ifs, 0⟩] scope pos) 0 (.ref I) acc env) R s := by
  refine codeAny_loop rfl J (fun n s hI => ?_) n h
  show wpAny _ A ((compTurn (.ListComp elt [⟨.Tuple elts ct pt, iter, ifs, 0⟩] scope pos) 0 (.ref I) acc env).onRaise (fun x => do noteFrame x env; theTreesLotGoes x)) _ _ s
  refine wpAny_noted ?_
  rw [compTurn_list]
  refine wpAny_bind (wpAny_standAt (wpAny_bind (wpAny_mono (turn n s hI) (fun r s₁ h₁ => ?_) fun _ _ h' => h')))
  cases r with
  | none => exact wpAny_pure h₁
  | some v =>
    obtain ⟨T, l, i, rfl, hit, h₁⟩ := h₁
    refine wpAny_bind (wpAny_letOwnedTupleGo_listiter hit ?_)
    refine wpAny_bind (wpAny_mono h₁ (fun _ s₂ h₂ => wpAny_bind (wpAny_mono h₂ (fun ok s₃ h₃ => ?_) fun _ _ h' => h')) fun _ _ h' => h')
    cases ok with
    | false => exact wpAny_pure ⟨rfl, h₃⟩
    | true =>
      exact wpAny_bind (wpAny_bind (wpAny_mono h₃ (fun x s₄ h₄ => wpAny_bind (wpAny_mono h₄ (fun _ s₅ h₅ => wpAny_pure (wpAny_pure ⟨rfl, h₅⟩)) fun _ _ h' => h')) fun _ _ h' => h'))
end
section
variable {w : World} {A : Around} {E : Value → Shared → Prop} {s : Shared} {h₀ : Heap} {L : Addr} {m : Str → Option Value} {news : List (Addr × Obj)} {env : Env}
/-- the state of one loop of a list display: C the names, D what is made, I the iterator -/
structure In1 (h₀ : Heap) (L : Addr) (m : Str → Option Value) (I C D : Addr) (h : Heap) (mc : Str → Option Value) (ys : List Value) (nx : List (Addr × Obj)) : Prop where
  fr : Fr h₀ L h m
  ns : h.Ns C mc
  led : News h₀ L h ((D, LCg.lst ys) :: nx)
  off : ∀ q ∈ nx, q.1 ≠ I ∧ q.1 ≠ C ∧ q.1 ≠ D
theorem In1.but {I C D X : Addr} {h h' : Heap} {mc : Str → Option Value} {ys : List Value} {nx : List (Addr × Obj)} (st : In1 h₀ L m I C D h mc ys nx) (hk : Heap.ExtBut X h h') (hXL : X ≠ L) (hX0 : h₀.get? X = none) (hXC : C ≠ X) (hXD : D ≠ X) (hXn : ∀ q ∈ nx, q.1 ≠ X) :
    In1 h₀ L m I C D h' mc ys nx where
  fr := ⟨st.fr.ns.at' fun o e => hk L o (Ne.symm hXL) e, fun b o e => hk b o (fun q => by rw [q, hX0] at e; cases e) (st.fr.keep b o e), st.fr.above⟩
  ns := st.ns.at' fun o e => hk C o hXC e
  led := fun q hq => ⟨hk _ _ (by
    rcases List.mem_cons.mp hq with rfl | hq
    · exact hXD
    · exact hXn q hq) (st.led q hq).1, (st.led q hq).2⟩
  off := st.off
theorem In1.put {I C D : Addr} {h h' : Heap} {mc mc' : Str → Option Value} {ys : List Value} {nx : List (Addr × Obj)} (st : In1 h₀ L m I C D h mc ys nx) (hn : h'.Ns C mc') (hs : Heap.SameBut C h h') (hCL : C ≠ L) (hC0 : h₀.get? C = none) (hCD : C ≠ D) :
    In1 h₀ L m I C D h' mc' ys nx where
  fr := st.fr.change hs hCL hC0
  ns := hn
  led := fun q hq => ⟨hs.extBut _ _ (by
    rcases List.mem_cons.mp hq with rfl | hq
    · exact Ne.symm hCD
    · exact (st.off q hq).2.1) (st.led q hq).1, (st.led q hq).2⟩
  off := st.off
abbrev tgtOf (ps : List (Str × Pos)) : List Ex := ps.map fun p => .Name p.1 p.2
theorem each_names (ps : List (Str × Pos)) (env : Env) : assignEach (tgtOf ps) env = ps.map fun p => (false, assign (.Name p.1 p.2) env) := by
  induction ps with
  | nil => rfl
  | cons p r ih => rw [List.map_cons, ← ih]; rfl
theorem names_none (ps : List (Str × Pos)) (env : Env) : (assignEach (tgtOf ps) env).findIdx? (·.1) = none := by
  rw [each_names, List.findIdx?_eq_none_iff]
  intro x hx
  obtain ⟨p, _, rfl⟩ := List.mem_map.mp hx
  rfl
/-- [elt for a, b in l if ..]: R says what holds after so many turns -/
theorem compT {elt iter : Ex} {ps : List (Str × Pos)} {ct} {pt pos : Pos} {ifs : List Ex} {scope : Scope} {cl : List (Str × Addr)} {a : Addr} {va : List Value} {na : Nat} {Q : Value → Shared → Prop} (R : Nat → List Value → List (Addr × Obj) → Prop)
    (hh : A.handled = none) (hclos : closureFor scope env = pure cl) (hcell : ∀ z ∈ scope.names, z.2 ≠ .cell) (hkind : scope.kind = .function) (hnames : ∀ z ∈ scope.names, z.2 = .local → scope.names.lookup z.1 = some .local)
    (hps : ∀ p ∈ ps, scope.names.lookup p.1 = some .local)
    (F : Fr h₀ L s.heap m) (N : News h₀ L s.heap news) (hsz : va.length ≤ 1000)
    (it1 : ∀ Q' : Value → Shared → Prop, (∀ tk, Q' (.ref a) { s with toks := tk }) → wpAny (model Prg w) A (eval iter env) Q' E s)
    (hf1 : ∀ v, foldedSetIterable iter env v = pure v)
    (hR : R 0 [] news) (hsrc : ∀ i ys nx, R i ys nx → (a, listOf (List.toArray va) na) ∈ nx ∧ (∀ v, va[i]? = some v → ∃ T items, v = .ref T ∧ (T, tupO items) ∈ nx ∧ items.length = ps.length))
    (turn : ∀ i T items I oI C oC D mc ys nx h tk, va[i]? = some (.ref T) → (T, tupO items) ∈ nx → R i ys nx → oI.cls = .type "list_iterator" → LCg.NsObj oC (updL mc (ps.map (·.1)) items) → Fr h₀ L h m → News h₀ L h ((I, oI) :: (C, oC) :: (D, LCg.lst ys) :: nx) → LCg.Off3 I C D nx → ((@Ne Nat I C) ∧ (@Ne Nat I D) ∧ (@Ne Nat C D)) →
      wpAny (model Prg w) A (forIn ifs true fun c r => if r = true then do let ok ← isTrue c (compEnvC scope cl C env) (eval c (compEnvC scope cl C env)); pure (ForInStep.yield ok) else pure (ForInStep.yield r)) (fun ok s₃ =>
        if ok = true then wpAny (model Prg w) A (eval elt (compEnvC scope cl C env)) (LCg.CompEnd h₀ L m { s with heap := h, toks := tk } I oI C oC D (LCg.lst ys) (fun _ => True) (fun y nx' => R (i + 1) (ys ++ [y]) nx')) (fun _ _ => False) s₃
        else LCg.CompEnd h₀ L m { s with heap := h, toks := tk } I oI C oC D (LCg.lst ys) (fun _ => True) (fun _ nx' => R (i + 1) ys nx') .none s₃) (fun _ _ => False) { s with heap := h, toks := tk })
    (ret : ∀ D h' tk ys nx, Fr h₀ L h' m → News h₀ L h' ((D, LCg.lst ys) :: nx) → (∀ q ∈ nx, q.1 ≠ D) → R va.length ys nx → Q (.ref D) { s with heap := h', toks := tk }) :
    wpAny (model Prg w) A (eval (.ListComp elt [⟨.Tuple (tgtOf ps) ct pt, iter, ifs, 0⟩] scope pos) env) Q E s := by
  rw [eval_ListComp]
  refine wpAny_comprehension_free (use := none) rfl hf1 hclos hkind hnames (it1 _ fun tk0 => ?_)
  have ha := (hsrc _ _ _ hR).1
  refine wpAny_pyIter_list (items := va.toArray) (News.isList N ha) ?_
  refine wpAny_newObj_type (wpAny_newFunctionEnv hcell (by intro z hz; simp at hz) (fun h1 ns1 k1 => ?_) hkind)
  dsimp only at ns1 k1 ⊢
  generalize hH1 : s.heap.push { cls := .type "list_iterator", data := .fields #[.ref a, .int 0 0] } = H1 at ns1 k1 ⊢
  generalize hH2 : H1.push { cls := .type "list", dict := none, data := .seq ([] : List Value).toArray } = H2 at ns1 k1 ⊢
  have hD : H1.objs.size = s.heap.objs.size + 1 := by rw [← hH1, Heap.size_push]
  have hC : H2.objs.size = s.heap.objs.size + 2 := by rw [← hH2, Heap.size_push, hD]
  have z1 : s.heap.objs.size ≠ H2.objs.size := by rw [hC]; exact Nat.ne_of_lt (Nat.lt_add_of_pos_right (by decide))
  have z2 : s.heap.objs.size ≠ H1.objs.size := by rw [hD]; exact Nat.ne_of_lt (Nat.lt_succ_self _)
  have z3 : H1.objs.size ≠ H2.objs.size := by rw [hC, hD]; exact Nat.ne_of_lt (Nat.lt_succ_self _)
  have below : ∀ b, b < s.heap.objs.size → b ≠ s.heap.objs.size ∧ b ≠ H2.objs.size ∧ b ≠ H1.objs.size := fun b hb =>
    ⟨Nat.ne_of_lt hb, by rw [hC]; exact Nat.ne_of_lt (Nat.lt_of_lt_of_le hb (Nat.le_add_right _ _)), by rw [hD]; exact Nat.ne_of_lt (Nat.lt_succ_of_lt hb)⟩
  have up : ∀ b o, H1.get? b = some o → b ≠ H2.objs.size → h1.get? b = some o := fun b o e hb => k1.extBut b o hb (Heap.get?_push_of_some _ (hH2 ▸ Heap.get?_push_of_some _ e))
  have old : ∀ b o, s.heap.get? b = some o → h1.get? b = some o := fun b o e => up b o (hH1 ▸ Heap.get?_push_of_some _ e) (below b (Heap.lt_size e)).2.1
  have hit : h1.IsListIter s.heap.objs.size a 0 := ⟨_, up _ _ (hH1 ▸ Heap.get?_push_size _ rfl) z1, rfl, rfl⟩
  have hacc : h1.get? H1.objs.size = some (LCg.lst []) := k1.extBut _ _ z3 (Heap.get?_push_of_some _ (hH2 ▸ Heap.get?_push_size _ rfl))
  have fresh0 : ∀ c, s.heap.objs.size ≤ c → h₀.get? c = none := fun c hc => by
    cases e : h₀.get? c with
    | none => rfl
    | some o' => exact absurd (Heap.lt_size (F.keep c o' e)) (Nat.not_lt.mpr hc)
  have lL : L < s.heap.objs.size := F.ns.lt
  have hI0 := fresh0 _ (Nat.le_refl _)
  have hD0 : h₀.get? H1.objs.size = none := fresh0 _ (by rw [hD]; exact Nat.le_succ _)
  have hC0 : h₀.get? H2.objs.size = none := fresh0 _ (by rw [hC]; exact Nat.le_add_right _ _)
  have st0 : In1 h₀ L m s.heap.objs.size H2.objs.size H1.objs.size h1 (fun x => ([] : List (Str × Value)).reverse.lookup x) [] news :=
    ⟨F.keeps old, ns1, fun q hq => by
      rcases List.mem_cons.mp hq with rfl | hq
      · exact ⟨hacc, Ne.symm (below L lL).2.2, hD0⟩
      · exact ⟨old _ _ (N q hq).1, (N q hq).2⟩, fun q hq => below _ (Heap.lt_size (N q hq).1)⟩
  have hIL : s.heap.objs.size ≠ L := Ne.symm (below L lL).1
  have hCL : H2.objs.size ≠ L := Ne.symm (below L lL).2.1
  have hDL : H1.objs.size ≠ L := Ne.symm (below L lL).2.2
  clear k1 ns1 up old hacc below lL hD hC hH1 hH2
  generalize s.heap.objs.size = I at *
  generalize H1.objs.size = D at *
  generalize H2.objs.size = C at *
  have hkC : ∀ p ∈ ps, (compEnvC scope cl C env).kindOf p.1 = some .local := fun p hp => lookup_relabel_local (hps p hp)
  have loop : ∀ s₃ : Shared, s₃ = { s with heap := h1, toks := tk0 + ([] : List (Str × Value)).length } →
      codeAny (model Prg w) A (.compLoop (.ListComp elt [⟨.Tuple (tgtOf ps) ct pt, iter, ifs, 0⟩] scope pos) 0 (.ref I) (.ref D) (compEnvC scope cl C env)) (compPost (model Prg w) A E none Q (.ref D) C) s₃ := by
    rintro s₃ rfl
    refine loop_t (fun k s' => ∃ h' tk i mc ys nx, s' = { s with heap := h', toks := tk } ∧ i ≤ va.length ∧ k = va.length + 1 - i ∧ ys.length ≤ i ∧ In1 h₀ L m I C D h' mc ys nx ∧ h'.IsListIter I a i ∧ R i ys nx) ?_ (va.length + 1)
      ⟨h1, _, 0, _, [], news, rfl, Nat.zero_le _, rfl, Nat.le_refl _, st0, hit, hR⟩
    rintro k s' ⟨h', tk, i, mc, ys, nx, rfl, hi, rfl, hyl, st, hI', hRi⟩
    obtain ⟨ha', hitem⟩ := hsrc _ _ _ hRi
    have hlA : h'.IsList a va.toArray := News.isList st.led (List.Mem.tail _ ha')
    have offI : ∀ q ∈ nx, q.1 ≠ I := fun q hq => (st.off q hq).1
    by_cases hlt : i < va.length
    · obtain ⟨v, hv⟩ : ∃ v, va[i]? = some v := ⟨va[i], List.getElem?_eq_getElem hlt⟩
      obtain ⟨T, items, rfl, hT, hlen⟩ := hitem v hv
      refine wpAny_pyNext_list_item hI' hlA (by simpa using hv) fun h2 I2 k2 => ?_
      have k2 : Heap.SameBut I h' h2 := k2
      have st2 := st.but k2.extBut hIL hI0 (Ne.symm z1) (Ne.symm z2) offI
      refine ⟨T, a, _, rfl, I2, ?_⟩
      obtain ⟨oI, hoI, hcI, hdI⟩ := I2
      obtain ⟨oC, heC, hoC⟩ := LCg.ns_obj st2.ns
      have N2 : News h₀ L h2 ((I, oI) :: (C, oC) :: (D, LCg.lst ys) :: nx) := fun r hr => by
        rcases List.mem_cons.mp hr with rfl | hr
        · exact ⟨hoI, hIL, hI0⟩
        rcases List.mem_cons.mp hr with rfl | hr
        · exact ⟨heC, hCL, hC0⟩
        · exact st2.led r hr
      refine unpackN_ st2.fr N2 (News.isTup N2 (List.Mem.tail _ (List.Mem.tail _ (List.Mem.tail _ hT)))) hh (by rw [each_names, List.length_map, List.size_toArray, hlen]) (names_none ps _) fun h3 F3 N3 => ?_
      rw [each_names, List.map_map]
      have eI3 := (N3 (I, oI) (.head _)).1
      refine inOrder_C (C := C) ps items _ mc hlen.symm hkC hkind rfl (hoC.ns (N3 (C, oC) (.tail _ (.head _))).1) fun h4 tk4 k4 n4 => ?_
      have k4 : Heap.SameBut C h3 h4 := k4
      obtain ⟨oC4, heC4, hoC4⟩ := LCg.ns_obj n4
      have F4 := F3.change k4 hCL hC0
      have N4 : News h₀ L h4 ((I, oI) :: (C, oC4) :: (D, LCg.lst ys) :: nx) := fun r hr => by
        rcases List.mem_cons.mp hr with rfl | hr
        · exact ⟨k4.extBut _ _ z1 eI3, hIL, hI0⟩
        rcases List.mem_cons.mp hr with rfl | hr
        · exact ⟨heC4, hCL, hC0⟩
        · have z := N3 r (.tail _ (.tail _ hr))
          refine ⟨k4.extBut _ _ ?_ z.1, z.2⟩
          rcases List.mem_cons.mp hr with rfl | hr
          · exact z3
          · exact (st.off r hr).2.1
      refine wpAny_mono (turn i T items I oI C oC4 D mc ys nx h4 tk4 hv hT hRi hcI hoC4 F4 N4 (LCg.Off3.of st.off) ⟨z1, z2, Ne.symm z3⟩) (fun ok s5 h5 => ?_) fun _ _ e => e.elim
      have fin : ∀ h6 tk6 nx6 ys6 (oD : Obj), Fr h₀ L h6 m → News h₀ L h6 ((I, oI) :: (C, oC4) :: (D, LCg.lst ys6) :: nx6) → LCg.Off3 I C D nx6 → R (i + 1) ys6 nx6 → ys6.length ≤ i + 1 →
          ∃ m_1 < va.length + 1 - i, ∃ h' tk i mc ys nx, ({ s with heap := h6, toks := tk6 } : Shared) = { s with heap := h', toks := tk } ∧ i ≤ va.length ∧ m_1 = va.length + 1 - i ∧ ys.length ≤ i ∧ In1 h₀ L m I C D h' mc ys nx ∧ h'.IsListIter I a i ∧ R i ys nx := fun h6 tk6 nx6 ys6 oD F6 N6 off6 R6 l6 =>
        ⟨va.length + 1 - (i + 1), by omega, h6, tk6, i + 1, _, ys6, nx6, rfl, hlt, rfl, l6, ⟨F6, hoC4.ns (N6 (C, oC4) (.tail _ (.head _))).1, fun q hq => N6 q (.tail _ (.tail _ hq)), off6.mem⟩, ⟨oI, (N6 (I, oI) (.head _)).1, hcI, hdI⟩, R6⟩
      cases ok with
      | false =>
        obtain ⟨h6, tk6, nx6, rfl, F6, N6, off6, _, R6⟩ := h5
        exact fin h6 tk6 nx6 ys oI F6 N6 off6 R6 (Nat.le_succ_of_le hyl)
      | true =>
        refine wpAny_mono h5 (fun y s6 h6 => ?_) fun _ _ e => e.elim
        obtain ⟨h6, tk6, nx6, rfl, F6, N6, off6, _, R6⟩ := h6
        have zD := (N6 (D, LCg.lst ys) (.tail _ (.tail _ (.head _)))).1
        refine append_at (hsz := by show ys.toArray.size ≤ sizeLine; rw [List.size_toArray, sizeLine_eq]; omega) zD fun h7 k7 hD7 => ?_
        have k7 : Heap.SameBut D h6 h7 := k7
        refine fin h7 tk6 nx6 (ys ++ [y]) oI (F6.change k7 hDL hD0) (fun q hq => ?_) off6 R6 (by rw [List.length_append, List.length_singleton]; omega)
        have off7 := off6.mem
        rcases List.mem_cons.mp hq with rfl | hq
        · have z := N6 (I, oI) (.head _)
          exact ⟨k7.extBut _ _ z2 z.1, z.2⟩
        rcases List.mem_cons.mp hq with rfl | hq
        · have z := N6 (C, oC4) (.tail _ (.head _))
          exact ⟨k7.extBut _ _ (Ne.symm z3) z.1, z.2⟩
        rcases List.mem_cons.mp hq with rfl | hq
        · exact ⟨hD7.trans (congrArg some (LCg.lst_snoc ys y)), hDL, hD0⟩
        · have z := N6 q (.tail _ (.tail _ (.tail _ hq)))
          exact ⟨k7.extBut _ _ (off7 q hq).2.2 z.1, z.2⟩
    · obtain rfl : i = va.length := by omega
      refine wpAny_pyNext_list_end hh hI' hlA (by simp) fun h2 k2 => ?_
      have st2 := st.but k2 hIL hI0 (Ne.symm z1) (Ne.symm z2) offI
      refine ⟨_, st2.ns, fun h3 k3 => ?_⟩
      have k3 : Heap.SameBut C h2 h3 := k3
      refine ret D h3 tk ys nx (st2.fr.change k3 hCL hC0) (fun q hq => ⟨k3.extBut _ _ ?_ (st2.led q hq).1, (st2.led q hq).2⟩) (fun q hq => (st2.off q hq).2.2) hRi
      rcases List.mem_cons.mp hq with rfl | hq
      · exact z3
      · exact (st2.off q hq).2.1
  exact codeAny_compStart_list (loop _ rfl) (wpAny_pyIter_listiter hit (loop _ rfl))
/-- a display over a list by LCg: R says what holds after so many turns -/
theorem rest_of {elt : Ex} {x : Str} {scope : Scope} {cl : List (Str × Addr)} {S : List (Addr × Obj) → Prop} {P : Nat → Value → Prop} {Fin : List Value → List (Addr × Obj) → Prop} (R : Nat → List Value → List (Addr × Obj) → Prop) {n : Nat} (hR : R 0 [] news)
    (turn : ∀ i v I oI C oC D mc ys nx h tk (E' : Value → Shared → Prop), i < n → P i v → R i ys nx → LCg.NsObj oC mc → mc x = some v → Fr h₀ L h m → News h₀ L h ((I, oI) :: (C, oC) :: (D, LCg.lst ys) :: nx) → LCg.Off3 I C D nx → ((@Ne Nat I C) ∧ (@Ne Nat I D) ∧ (@Ne Nat C D)) →
      wpAny (model Prg w) A (eval elt (compEnvC scope cl C env)) (LCg.CompEnd h₀ L m { s with heap := h, toks := tk } I oI C oC D (LCg.lst ys) S (fun y nx' => R (i + 1) (ys ++ [y]) nx')) E' { s with heap := h, toks := tk })
    (fin : ∀ ys nx, R n ys nx → Fin ys nx) : LCg.CompRest Prg w A h₀ L m env elt x scope cl s S P Fin n 0 [] news := by
  have key : ∀ (j i : Nat) (ys : List Value) (nx : List (Addr × Obj)), i + j = n → R i ys nx → LCg.CompRest Prg w A h₀ L m env elt x scope cl s S P Fin j i ys nx := by
    intro j
    induction j with
    | zero =>
      intro i ys nx hi hr
      obtain rfl : i = n := by omega
      exact LCg.CompRest.zero (fin ys nx hr)
    | succ j ih =>
      intro i ys nx hi hr
      refine LCg.CompRest.succ fun v I oI C oC D mc h tk E' hv hC hx F N off ne => ?_
      refine wpAny_mono (turn i v I oI C oC D mc ys nx h tk E' (by omega) hv hr hC hx F N off ne) (fun y s2 hq => ?_) fun _ _ e => e
      obtain ⟨h', tk', nx', e, F', N', off', hS, hr'⟩ := hq
      exact ⟨h', tk', nx', e, F', N', off', hS, ih (i + 1) _ nx' (by omega) hr'⟩
  exact key n 0 [] news (Nat.zero_add n) hR
end
end Mine
set_option maxHeartbeats 4000000
namespace Mine
theorem fill20 : True := by
  w_top off
  exact True.intro
theorem law_of {body : List Stmt} {scope : Scope} (hbd : body = dLaw.body) (hsc : scope = dLaw.scope)
    (h : ∀ (w : World) (A : Around) (g : Heap) (L fa lS : Addr) (cdv : Value) (s : Shared) (c1 c2 : Obj) (vs : List Value) (ns : List Int), Here A g L 6 → A.handled = none → Same s s → Fr g L s.heap (fun y => if y = Str.ofString "script" then some (.ref lS) else none) → News g L s.heap [(L + 1 + 1, c1), (L + 1, c2)] →
      c1.data = .cell none → c2.data = .cell none → Gnd w g → g.IsList lS vs.toArray → IntsAre vs ns → ns.length ≤ 63 →
      ∀ (Q : Flow → Shared → Prop), (∀ s' m', Same s s' → Fr g L s'.heap m' → Q (.ret (.bool true)) s') →
      wpAny (model Prg w) A (execs body (envOfC (Str.ofString "law") scope L fa cdv)) Q (fun _ _ => False) s) : PySem.Challenge.rw_to0017_01.Holds := hd (by
  subst hbd hsc
  k_go0
  rename Fr _ _ _ _ => F
  rename News _ _ _ _ => N
  rename Top _ _ _ _ _ _ => T
  rename (KK _).In _ => X
  rename Below _ _ _ _ => B
  rename IntsAre _ _ => hi
  rename Heap.IsList _ _ _ => hl
  rename ¬ (_ < _) => hlen
  rename_i c1 c2 e1 e2 _
  refine wpAny_mono (h _ _ _ _ _ _ _ _ c1 c2 _ _ ⟨_, _, _, _, _, _, _, _, [], callerA, _, rfl, B, rfl, by decide +kernel, by decide +kernel⟩ rfl Same.rfl F N e1 e2 ⟨X, _, _, _, _, T⟩ hl hi (by omega) (fun f s' => f = .ret (.bool true) ∧ Same _ s' ∧ ∃ m', Fr _ _ s'.heap m') (fun s' m' S' F' => ⟨rfl, S', m', F'⟩)) (fun f s' q => ?_) (fun _ _ e => e.elim)
  obtain ⟨rfl, S', m', F'⟩ := q
  rw [S'.is]
  dsimp only
  refine goodW_bool F' (by assumption) (raisesW_false ?_) ?_
  · wrow_none_raised
  · wrow_post)
end Mine
set_option maxHeartbeats 4000000
namespace Mine
/-- the kinds of games by what isn't at most and what isn't at least -/
def CL : List (Int × Int) := [(0, 11), (0, 15), (4, 11), (4, 15), (5, 3), (5, 11), (5, 15), (12, 10), (12, 11), (12, 15), (13, 0), (13, 2), (13, 3), (13, 10), (13, 11), (13, 15), (15, 0), (15, 2), (15, 3), (15, 10), (15, 11), (15, 15)]
def PX : List (Int × Int × Int) := [(0, 12, 10), (0, 13, 0), (0, 15, 0), (1, 0, 11), (1, 4, 11), (1, 5, 3), (1, 12, 11), (1, 13, 3), (1, 15, 3), (2, 12, 10), (2, 13, 2), (2, 15, 2), (3, 0, 11), (3, 4, 11), (3, 5, 3), (3, 12, 11), (3, 13, 3), (3, 15, 3), (4, 0, 15), (4, 4, 15), (4, 5, 15), (4, 12, 15), (4, 13, 15), (4, 15, 15), (5, 0, 15), (5, 4, 15), (5, 5, 15), (5, 12, 15), (5, 13, 15), (5, 15, 15), (6, 0, 15), (6, 4, 15), (6, 5, 15), (6, 12, 15), (6, 13, 15), (6, 15, 15), (7, 0, 15), (7, 4, 15), (7, 5, 15), (7, 12, 15), (7, 13, 15), (7, 15, 15), (8, 12, 10), (8, 13, 10), (8, 15, 10), (9, 0, 11), (9, 4, 11), (9, 5, 11), (9, 12, 11), (9, 13, 11), (9, 15, 11), (10, 12, 10), (10, 13, 10), (10, 15, 10), (11, 0, 11), (11, 4, 11), (11, 5, 11), (11, 12, 11), (11, 13, 11), (11, 15, 11), (12, 0, 15), (12, 4, 15), (12, 5, 15), (12, 12, 15), (12, 13, 15), (12, 15, 15), (13, 0, 15), (13, 4, 15), (13, 5, 15), (13, 12, 15), (13, 13, 15), (13, 15, 15), (14, 0, 15), (14, 4, 15), (14, 5, 15), (14, 12, 15), (14, 13, 15), (14, 15, 15), (15, 0, 15), (15, 4, 15), (15, 5, 15), (15, 12, 15), (15, 13, 15), (15, 15, 15)]
def PY : List (Int × Int × Int) := [(0, 0, 11), (0, 0, 15), (0, 12, 10), (1, 5, 3), (1, 5, 11), (1, 5, 15), (1, 13, 0), (1, 13, 2), (1, 13, 10), (2, 15, 0), (2, 15, 2), (2, 15, 3), (2, 15, 10), (2, 15, 11), (2, 15, 15), (3, 15, 0), (3, 15, 2), (3, 15, 3), (3, 15, 10), (3, 15, 11), (3, 15, 15), (4, 4, 11), (4, 4, 15), (4, 12, 10), (5, 5, 3), (5, 5, 11), (5, 5, 15), (5, 13, 0), (5, 13, 2), (5, 13, 10), (6, 15, 0), (6, 15, 2), (6, 15, 3), (6, 15, 10), (6, 15, 11), (6, 15, 15), (7, 15, 0), (7, 15, 2), (7, 15, 3), (7, 15, 10), (7, 15, 11), (7, 15, 15), (8, 12, 10), (8, 12, 11), (8, 12, 15), (9, 13, 0), (9, 13, 2), (9, 13, 3), (9, 13, 10), (9, 13, 11), (9, 13, 15), (10, 15, 0), (10, 15, 2), (10, 15, 3), (10, 15, 10), (10, 15, 11), (10, 15, 15), (11, 15, 0), (11, 15, 2), (11, 15, 3), (11, 15, 10), (11, 15, 11), (11, 15, 15), (12, 12, 10), (12, 12, 11), (12, 12, 15), (13, 13, 0), (13, 13, 2), (13, 13, 3), (13, 13, 10), (13, 13, 11), (13, 13, 15), (14, 15, 0), (14, 15, 2), (14, 15, 3), (14, 15, 10), (14, 15, 11), (14, 15, 15), (15, 15, 0), (15, 15, 2), (15, 15, 3), (15, 15, 10), (15, 15, 11), (15, 15, 15)]
def R16 : List Int := [0, 1, 2, 3, 4, 5, 6, 7, 8, 9, 10, 11, 12, 13, 14, 15]
/-- a game of four kinds of piece -/
def InS (x : G) : Prop := ∃ l ∈ R16, ∃ r ∈ R16, x = mkG l r
def subB (a b : Int) : Bool := Builtin.bitAnd a (Builtin.bitNot b) == 0
theorem cl_all : (R16.all fun l => R16.all fun r => CL.contains (overOf l r, underOf l r) && PX.contains (r, overOf l r, underOf l r) && PY.contains (l, overOf l r, underOf l r)) = true := by decide +kernel
theorem cl_made : (CL.all fun a => CL.all fun b => R16.contains (Builtin.bitOr a.1 b.1) && R16.contains (Builtin.bitAnd a.2 b.2) && R16.contains (Builtin.bitAnd a.1 b.1) && R16.contains (Builtin.bitOr a.2 b.2) &&
    overOf (Builtin.bitOr a.1 b.1) (Builtin.bitAnd a.2 b.2) == Builtin.bitOr a.1 b.1 && underOf (Builtin.bitOr a.1 b.1) (Builtin.bitAnd a.2 b.2) == Builtin.bitAnd a.2 b.2 &&
    overOf (Builtin.bitAnd a.1 b.1) (Builtin.bitOr a.2 b.2) == Builtin.bitAnd a.1 b.1 && underOf (Builtin.bitAnd a.1 b.1) (Builtin.bitOr a.2 b.2) == Builtin.bitOr a.2 b.2 &&
    subB a.1 (Builtin.bitOr a.1 b.1) && subB b.1 (Builtin.bitOr a.1 b.1) && subB (Builtin.bitAnd a.2 b.2) a.2 && subB (Builtin.bitAnd a.2 b.2) b.2 &&
    subB (Builtin.bitAnd a.1 b.1) a.1 && subB (Builtin.bitAnd a.1 b.1) b.1 && subB a.2 (Builtin.bitOr a.2 b.2) && subB b.2 (Builtin.bitOr a.2 b.2) && subB a.1 a.1 && subB a.2 a.2) = true := by decide +kernel
theorem cl_least : (PX.all fun x => PY.all fun y => (subB x.1 y.2.2 && subB y.1 x.2.1) == (subB y.2.1 x.2.1 && subB x.2.2 y.2.2)) = true := by decide +kernel
theorem cl_three : (CL.all fun a => CL.all fun b => CL.all fun e =>
    (subB (Builtin.bitOr a.1 b.1) e.1 && subB e.2 (Builtin.bitAnd a.2 b.2)) == ((subB a.1 e.1 && subB e.2 a.2) && (subB b.1 e.1 && subB e.2 b.2)) &&
    (subB e.1 (Builtin.bitAnd a.1 b.1) && subB (Builtin.bitOr a.2 b.2) e.2) == ((subB e.1 a.1 && subB a.2 e.2) && (subB e.1 b.1 && subB b.2 e.2))) = true := by decide +kernel
/-- one of eight lights of a game -/
def bitG (x : G) (i : Nat) : Bool := if i < 4 then x.o.toNat.testBit i else !(x.u.toNat.testBit (i - 4))
def bitP (p : Int × Int) (i : Nat) : Bool := if i < 4 then p.1.toNat.testBit i else !(p.2.toNat.testBit (i - 4))
theorem cl_bits : (CL.all fun a => CL.all fun b => (List.range 8).all fun i => bitP (Builtin.bitOr a.1 b.1, Builtin.bitAnd a.2 b.2) i == (bitP a i || bitP b i) && bitP (Builtin.bitAnd a.1 b.1, Builtin.bitOr a.2 b.2) i == (bitP a i && bitP b i)) = true := by decide +kernel
theorem cl_ext : (CL.all fun a => CL.all fun b => (a == b) || (List.range 8).any fun i => bitP a i != bitP b i) = true := by decide +kernel
theorem InS.facts {x : G} (h : InS x) : (x.o, x.u) ∈ CL ∧ (x.r, x.o, x.u) ∈ PX ∧ (x.l, x.o, x.u) ∈ PY := by
  obtain ⟨l, hl, r, hr, rfl⟩ := h
  have q := List.all_eq_true.mp (List.all_eq_true.mp cl_all l hl) r hr
  simp only [Bool.and_eq_true, List.contains_iff_mem] at q
  exact ⟨q.1.1, q.1.2, q.2⟩
theorem least_of {x y : G} (hx : InS x) (hy : InS y) : leastG x y = (subB y.o x.o && subB x.u y.u) := by
  have q := List.all_eq_true.mp (List.all_eq_true.mp cl_least _ hx.facts.2.1) _ hy.facts.2.2
  exact eq_of_beq q
theorem made_facts {x y : G} (hx : InS x) (hy : InS y) : InS (madeG 18 x y) ∧ (madeG 18 x y).l = (madeG 18 x y).o ∧ (madeG 18 x y).r = (madeG 18 x y).u ∧ (madeG 18 x y).o = Builtin.bitOr x.o y.o ∧ (madeG 18 x y).u = Builtin.bitAnd x.u y.u ∧
    leastG (madeG 18 x y) x = true ∧ leastG (madeG 18 x y) y = true := by
  have q := List.all_eq_true.mp (List.all_eq_true.mp cl_made _ hx.facts.1) _ hy.facts.1
  simp only [Bool.and_eq_true, List.contains_iff_mem, beq_iff_eq] at q
  obtain ⟨⟨⟨⟨⟨⟨⟨⟨⟨⟨⟨⟨⟨⟨⟨⟨⟨q1, q2⟩, q3⟩, q4⟩, q5⟩, q6⟩, q7⟩, q8⟩, q9⟩, q10⟩, q11⟩, q12⟩, q13⟩, q14⟩, q15⟩, q16⟩, q17⟩, q18⟩ := q
  have e : madeG 18 x y = mkG (Builtin.bitOr x.o y.o) (Builtin.bitAnd x.u y.u) := if_pos rfl
  have hz : InS (madeG 18 x y) := ⟨_, q1, _, q2, e⟩
  have eo : (madeG 18 x y).o = Builtin.bitOr x.o y.o := by rw [e]; exact q5
  have eu : (madeG 18 x y).u = Builtin.bitAnd x.u y.u := by rw [e]; exact q6
  refine ⟨hz, by rw [eo, e]; rfl, by rw [eu, e]; rfl, eo, eu, ?_, ?_⟩
  · rw [least_of hz hx, eo, eu, q9, q11]; rfl
  · rw [least_of hz hy, eo, eu, q10, q12]; rfl
theorem made_facts' {k : Int} (hk : k ≠ 18) {x y : G} (hx : InS x) (hy : InS y) : InS (madeG k x y) ∧ (madeG k x y).l = (madeG k x y).o ∧ (madeG k x y).r = (madeG k x y).u ∧ (madeG k x y).o = Builtin.bitAnd x.o y.o ∧ (madeG k x y).u = Builtin.bitOr x.u y.u ∧
    leastG x (madeG k x y) = true ∧ leastG y (madeG k x y) = true := by
  have q := List.all_eq_true.mp (List.all_eq_true.mp cl_made _ hx.facts.1) _ hy.facts.1
  simp only [Bool.and_eq_true, List.contains_iff_mem, beq_iff_eq] at q
  obtain ⟨⟨⟨⟨⟨⟨⟨⟨⟨⟨⟨⟨⟨⟨⟨⟨⟨q1, q2⟩, q3⟩, q4⟩, q5⟩, q6⟩, q7⟩, q8⟩, q9⟩, q10⟩, q11⟩, q12⟩, q13⟩, q14⟩, q15⟩, q16⟩, q17⟩, q18⟩ := q
  have e : madeG k x y = mkG (Builtin.bitAnd x.o y.o) (Builtin.bitOr x.u y.u) := if_neg hk
  have hz : InS (madeG k x y) := ⟨_, q3, _, q4, e⟩
  have eo : (madeG k x y).o = Builtin.bitAnd x.o y.o := by rw [e]; exact q7
  have eu : (madeG k x y).u = Builtin.bitOr x.u y.u := by rw [e]; exact q8
  refine ⟨hz, by rw [eo, e]; rfl, by rw [eu, e]; rfl, eo, eu, ?_, ?_⟩
  · rw [least_of hx hz, eo, eu, q13, q15]; rfl
  · rw [least_of hy hz, eo, eu, q14, q16]; rfl
theorem InS.made {k : Int} {x y : G} (hx : InS x) (hy : InS y) : InS (madeG k x y) := by
  by_cases h : k = 18
  · subst h; exact (made_facts hx hy).1
  · exact (made_facts' h hx hy).1
theorem fits_all {k : Int} {x y e : G} (hx : InS x) (hy : InS y) (he : InS e) : fitsG (k == 18) x y (madeG k x y) e := by
  have q := List.all_eq_true.mp (List.all_eq_true.mp (List.all_eq_true.mp cl_three _ hx.facts.1) _ hy.facts.1) _ he.facts.1
  simp only [Bool.and_eq_true, beq_iff_eq] at q
  by_cases h : k = 18
  · subst h
    obtain ⟨hz, z1, z2, eo, eu, z3, z4⟩ := made_facts hx hy
    refine ⟨z1, z2, fun _ => ⟨z3, z4, ?_⟩, fun hf => absurd hf (by decide)⟩
    rw [least_of he hz, least_of he hx, least_of he hy, eo, eu]
    exact q.1
  · obtain ⟨hz, z1, z2, eo, eu, z3, z4⟩ := made_facts' h hx hy
    refine ⟨z1, z2, fun hf => absurd (eq_of_beq hf) h, fun _ => ⟨z3, z4, ?_⟩⟩
    rw [least_of hz he, least_of hx he, least_of hy he, eo, eu]
    exact q.2
theorem bit_or {x y : G} (hx : InS x) (hy : InS y) {i : Nat} (hi : i < 8) : bitG (madeG 18 x y) i = (bitG x i || bitG y i) := by
  have q := List.all_eq_true.mp (List.all_eq_true.mp (List.all_eq_true.mp cl_bits _ hx.facts.1) _ hy.facts.1) i (List.mem_range.mpr hi)
  simp only [Bool.and_eq_true, beq_iff_eq] at q
  obtain ⟨_, _, _, eo, eu, _⟩ := made_facts hx hy
  show bitP ((madeG 18 x y).o, (madeG 18 x y).u) i = _
  rw [eo, eu]
  exact q.1
theorem bit_and {k : Int} (hk : k ≠ 18) {x y : G} (hx : InS x) (hy : InS y) {i : Nat} (hi : i < 8) : bitG (madeG k x y) i = (bitG x i && bitG y i) := by
  have q := List.all_eq_true.mp (List.all_eq_true.mp (List.all_eq_true.mp cl_bits _ hx.facts.1) _ hy.facts.1) i (List.mem_range.mpr hi)
  simp only [Bool.and_eq_true, beq_iff_eq] at q
  obtain ⟨_, _, _, eo, eu, _⟩ := made_facts' hk hx hy
  show bitP ((madeG k x y).o, (madeG k x y).u) i = _
  rw [eo, eu]
  exact q.2
theorem same_least {x y : G} (hx : InS x) (hy : InS y) (h : ∀ i, i < 8 → bitG x i = bitG y i) : leastG x y = true := by
  have q := List.all_eq_true.mp (List.all_eq_true.mp cl_ext _ hx.facts.1) _ hy.facts.1
  have e : (x.o, x.u) = (y.o, y.u) := by
    rcases Bool.or_eq_true_iff.mp q with q | q
    · exact eq_of_beq q
    · obtain ⟨i, hi, hne⟩ := List.any_eq_true.mp q
      exact absurd (show bitP (x.o, x.u) i = bitP (y.o, y.u) i from h i (List.mem_range.mp hi)) (by simpa using hne)
  have e1 : x.o = y.o := congrArg Prod.fst e
  have e2 : x.u = y.u := congrArg Prod.snd e
  have q2 := List.all_eq_true.mp (List.all_eq_true.mp cl_made _ hx.facts.1) _ hx.facts.1
  simp only [Bool.and_eq_true, beq_iff_eq] at q2
  rw [least_of hx hy, ← e1, ← e2, q2.1.2, q2.2]
  rfl
end Mine
set_option maxHeartbeats 4000000
namespace Mine
theorem ints6 {vs : List Value} {f : Int → Int} (h : IntsAre vs ((rangeKs 0 6).map f)) : ∃ t0 t1 t2 t3 t4 t5, vs = [.int (f 0) t0, .int (f 1) t1, .int (f 2) t2, .int (f 3) t3, .int (f 4) t4, .int (f 5) t5] := by
  have e : (rangeKs 0 6).map f = [f 0, f 1, f 2, f 3, f 4, f 5] := rfl
  rw [e] at h
  obtain ⟨t0, _, rfl, h1⟩ := h.cons_inv
  obtain ⟨t1, _, rfl, h2⟩ := h1.cons_inv
  obtain ⟨t2, _, rfl, h3⟩ := h2.cons_inv
  obtain ⟨t3, _, rfl, h4⟩ := h3.cons_inv
  obtain ⟨t4, _, rfl, h5⟩ := h4.cons_inv
  obtain ⟨t5, _, rfl, h6⟩ := h5.cons_inv
  cases h6
  exact ⟨_, _, _, _, _, _, rfl⟩
theorem ConP.use {w : World} {k : Nat} {f : Addr} {vs : List Value} {P : Heap → Prop} {news : List (Addr × Obj)} {R : List (Addr × Obj) → Value → Prop} (C : ConP w k f vs P news R) {j : Nat} {A : Around} {h₀ : Heap} {L : Addr} {m : Str → Option Value} {s₀ s : Shared} {Q E : Value → Shared → Prop}
    (H : Here A h₀ L j) (hj : k ≤ j) (S : Same s₀ s) (F : Fr h₀ L s.heap m) (N : News h₀ L s.heap news) (G : Gnd w h₀) (hp : P h₀)
    (ret : ∀ r tl s', Same s₀ s' → Fr h₀ L s'.heap m → News h₀ L s'.heap (tl ++ news) → R tl r → Q r s') : wpAny (model Prg w) A (call (.ref f) vs) Q E s := C A h₀ L m s Q E (H.le hj) F N G hp fun r tl s' S' => ret r tl s' (S.trans S')
/-- the object is no cell -/
def ncb (o : Obj) : Bool := match o.data with
  | .cell _ => false
  | _ => true
/-- what is no cell stays -/
def Sub (l l' : List (Addr × Obj)) : Prop := ∀ p ∈ l, ncb p.2 = true → p ∈ l'
theorem Sub.of {l l' : List (Addr × Obj)} (h : ∀ p ∈ l, p ∈ l') : Sub l l' := fun p hp _ => h p hp
theorem Sub.trans {l l' l'' : List (Addr × Obj)} (h : Sub l l') (k : Sub l' l'') : Sub l l'' := fun p hp hn => k p (h p hp hn) hn
/-- two ints in a tuple -/
def PairIs (nw : List (Addr × Obj)) (p : Int × Int) (v : Value) : Prop := ∃ a t u, v = .ref a ∧ (a, tupO [.int p.1 t, .int p.2 u]) ∈ nw
theorem PairIs.mono {nw nw' : List (Addr × Obj)} {p : Int × Int} {v : Value} (h : PairIs nw p v) (hs : ∀ q ∈ nw, q ∈ nw') : PairIs nw' p v := by
  obtain ⟨a, t, u, e, q⟩ := h
  exact ⟨a, t, u, e, hs _ q⟩
theorem PairIs.sub {nw nw' : List (Addr × Obj)} {p : Int × Int} {v : Value} (h : PairIs nw p v) (hs : Sub nw nw') : PairIs nw' p v := by
  obtain ⟨a, t, u, e, q⟩ := h
  exact ⟨a, t, u, e, hs _ q rfl⟩
theorem GameIn.sub {nw nw' : List (Addr × Obj)} {a : Addr} {x : G} (h : GameIn nw a x) (hs : Sub nw nw') : GameIn nw' a x := by
  obtain ⟨o, h1, t0, t1, t2, t3, rfl⟩ := h
  exact ⟨_, hs _ h1 rfl, _, _, _, _, rfl⟩
theorem Tabs.sub {nw nw' : List (Addr × Obj)} {a : Addr} (h : Tabs nw a) (hs : Sub nw nw') : Tabs nw' a := by
  obtain ⟨la, lb, va, vb, na, nb, h1, h2, h3, h4, h5⟩ := h
  exact ⟨la, lb, va, vb, na, nb, hs _ h1 rfl, hs _ h2 rfl, h3, hs _ h4 rfl, h5⟩
def pairOf (n : Int) : Int × Int := (n.fmod 16, (n.fdiv 16).fmod 16)
/-- after so many turns: a list of the first pairs -/
def PR (nw : List (Addr × Obj)) (ps : List (Int × Int)) (i : Nat) (ys : List Value) (nx : List (Addr × Obj)) : Prop := (∀ p ∈ nw, p ∈ nx) ∧ Rels (PairIs nx) (ps.take i) ys
theorem PR.zero (nw : List (Addr × Obj)) (ps : List (Int × Int)) : PR nw ps 0 [] nw := ⟨fun _ h => h, by rw [List.take_zero]; rfl⟩
theorem take_snoc {α : Type} {l : List α} {i : Nat} {x : α} (h : l[i]? = some x) : l.take (i + 1) = l.take i ++ [x] := by
  rw [List.take_add_one, h]; rfl
theorem PR.succ {nw nx nx' : List (Addr × Obj)} {ps : List (Int × Int)} {i : Nat} {ys : List Value} {v : Value} {p : Int × Int} (h : PR nw ps i ys nx) (hp : ps[i]? = some p) (hs : ∀ q ∈ nx, q ∈ nx') (hv : PairIs nx' p v) : PR nw ps (i + 1) (ys ++ [v]) nx' :=
  ⟨fun q hq => hs q (h.1 q hq), by rw [take_snoc hp]; exact Rels.append (Rels.one hv) (h.2.imp fun _ _ k => k.mono hs)⟩
theorem int_in {n0 n1 n2 n3 n4 : Int} {t0 t1 t2 t3 t4 : Tok} {i : Nat} {v : Value} (h : (#[.int n0 t0, .int n1 t1, .int n2 t2, .int n3 t3, .int n4 t4] : Array Value)[i]? = some v) : ∃ nn tt, v = .int nn tt ∧ [pairOf n0, pairOf n1, pairOf n2, pairOf n3, pairOf n4][i]? = some (pairOf nn) := by
  match i, h with
  | 0, h => exact ⟨n0, t0, (Option.some.inj h).symm, rfl⟩
  | 1, h => exact ⟨n1, t1, (Option.some.inj h).symm, rfl⟩
  | 2, h => exact ⟨n2, t2, (Option.some.inj h).symm, rfl⟩
  | 3, h => exact ⟨n3, t3, (Option.some.inj h).symm, rfl⟩
  | 4, h => exact ⟨n4, t4, (Option.some.inj h).symm, rfl⟩
  | i + 5, h => cases h
/-- the law's state: m the names, oT and oG the cells of tables and of games -/
structure LS (s₀ : Shared) (g : Heap) (L : Addr) (m : Str → Option Value) (oT oG : Obj) (nw : List (Addr × Obj)) (s : Shared) : Prop where
  same : Same s₀ s
  fr : Fr g L s.heap m
  led : News g L s.heap nw
  hT : (L + 1, oT) ∈ nw
  hG : (L + 1 + 1, oG) ∈ nw
theorem reads_pairs {h : Heap} {nw : List (Addr × Obj)} (hN : ∀ p ∈ nw, h.get? p.1 = some p.2) : ∀ {ps : List (Int × Int)} {ys : List Value}, Rels (PairIs nw) ps ys → ∃ as, ReadsAll h ys (ps.map fun p => .tuple [.int p.1, .int p.2]) as := by
  intro ps
  induction ps with
  | nil =>
    intro ys hr
    obtain rfl : ys = [] := hr
    exact ⟨_, .nil⟩
  | cons p ps ih =>
    intro ys hr
    obtain ⟨v, us, rfl, ⟨a, t, u, rfl, hm⟩, hr⟩ := hr
    obtain ⟨as, ha⟩ := ih hr
    exact ⟨_, .cons (reads_tuple_at (hN _ hm) rfl rfl (readsAll_cons_val (.int _ _) (readsAll_cons_val (.int _ _) .nil))) ha⟩
section
variable {w : World} {A : Around} {E : Value → Shared → Prop} {s : Shared} {g : Heap} {L : Addr} {news : List (Addr × Obj)}
/-- two lists of the same five pairs: x != y is False -/
theorem pairs_ne {a b : Addr} {xs ys : List Value} {p0 p1 p2 p3 p4 : Int × Int} {n k : Nat} {Q : Value → Shared → Prop} (N : News g L s.heap news) (qa : (a, listOf xs.toArray n) ∈ news) (qb : (b, listOf ys.toArray k) ∈ news) (ra : Rels (PairIs news) [p0, p1, p2, p3, p4] xs) (rb : Rels (PairIs news) [p0, p1, p2, p3, p4] ys)
    (hu : A.units + 64 < cLine) (h : Q (.bool false) s) : wpAny (model Prg w) A (compareOp .NotEq (.ref a) (.ref b)) Q E s := by
  obtain ⟨as, ha⟩ := reads_pairs (fun p hp => (N p hp).1) ra
  obtain ⟨bs, hb⟩ := reads_pairs (fun p hp => (N p hp).1) rb
  refine ne_dataH (reads_list_at (N.get qa) rfl rfl ha) (reads_list_at (N.get qb) rfl rfl hb) rfl rfl hu ?_
  have e : (!PyData.eqv (.list ([p0, p1, p2, p3, p4].map fun p => .tuple [.int p.1, .int p.2])) (.list ([p0, p1, p2, p3, p4].map fun p => .tuple [.int p.1, .int p.2]))) = false := by simp [PyData.eqv, PyData.eqvAll]
  rw [e]
  exact h
/-- two empty lists: x != y is False -/
theorem nils_ne {a b : Addr} {n k : Nat} {Q : Value → Shared → Prop} (N : News g L s.heap news) (qa : (a, listOf (List.toArray []) n) ∈ news) (qb : (b, listOf (List.toArray []) k) ∈ news)
    (hu : A.units + 64 < cLine) (h : Q (.bool false) s) : wpAny (model Prg w) A (compareOp .NotEq (.ref a) (.ref b)) Q E s := by
  refine ne_dataH (reads_list_at (N.get qa) rfl rfl .nil) (reads_list_at (N.get qb) rfl rfl .nil) rfl rfl hu ?_
  have e : (!PyData.eqv (.list []) (.list [])) = false := by simp [PyData.eqv, PyData.eqvAll]
  rw [e]
  exact h
end
/-- all but what lies at c -/
def nfA (c : Addr) (l : List (Addr × Obj)) : List (Addr × Obj) := l.filter fun p => Nat.beq p.1 c == false
theorem nfA_mem {c : Addr} {l : List (Addr × Obj)} {p : Addr × Obj} (h : p ∈ l) (hc : p.1 ≠ c) : p ∈ nfA c l := List.mem_filter.mpr ⟨h, by
  have e : Nat.beq p.1 c = false := Bool.eq_false_iff.mpr fun e => hc (Nat.eq_of_beq_eq_true e)
  show (Nat.beq p.1 c == false) = true
  rw [e]; rfl⟩
theorem nfA_ne {c : Addr} {l : List (Addr × Obj)} : ∀ p ∈ nfA c l, p.1 ≠ c := fun p hp => by
  have h := (List.mem_filter.mp hp).2
  have h' : (Nat.beq p.1 c == false) = true := h
  exact fun e => by rw [e, Nat.beq_refl] at h'; cases h'
theorem nfA_in {c : Addr} {l : List (Addr × Obj)} : ∀ p ∈ nfA c l, p ∈ l := fun _ hp => (List.mem_filter.mp hp).1
theorem sub_nfA {g h : Heap} {L c : Addr} {o : Obj} {l : List (Addr × Obj)} {v : Option Value} (N : News g L h l) (hm : (c, o) ∈ l) (hd : o.data = .cell v) : Sub l (nfA c l) := fun p hp hn => nfA_mem hp fun e => by
  have h1 := (N p hp).1
  have h2 := (N _ hm).1
  rw [e] at h1
  rw [h1] at h2
  have h3 : p.2 = o := Option.some.inj h2
  rw [h3] at hn
  unfold ncb at hn
  rw [hd] at hn
  cases hn
theorem Same.between {s₀ a b : Shared} (h : Same s₀ a) (k : Same s₀ b) : Same a b := ⟨k.1.trans h.1.symm, k.2.1.trans h.2.1.symm, k.2.2.trans h.2.2.symm⟩
/-- a turn's end where one object was made -/
theorem cend {s₀ s1 s9 : Shared} {g : Heap} {L I C D T : Addr} {m : Str → Option Value} {oI oC oD oT : Obj} {nx : List (Addr × Obj)} {S : List (Addr × Obj) → Prop} {rest : Value → List (Addr × Obj) → Prop} {v : Value} (S1 : Same s₀ s1) (S9 : Same s₀ s9) (F9 : Fr g L s9.heap m)
    (N9 : News g L s9.heap ((T, oT) :: (I, oI) :: (C, oC) :: (D, oD) :: nx)) (hI : T ≠ I) (hC : T ≠ C) (hD : T ≠ D) (off : LCg.Off3 I C D nx) (hS : S ((T, oT) :: nx)) (hr : rest v ((T, oT) :: nx)) : LCg.CompEnd g L m s1 I oI C oC D oD S rest v s9 := by
  refine ⟨s9.heap, s9.toks, (T, oT) :: nx, (S1.between S9).is, F9, fun q hq => N9 q ?_, ⟨⟨hI, hC, hD⟩, off⟩, hS, hr⟩
  simp only [List.mem_cons] at hq ⊢
  rcases hq with h | h | h | h | h <;> simp [h]
theorem cend_lt {s₀ s1 s9 : Shared} {g : Heap} {L I C D T : Addr} {m : Str → Option Value} {oI oC oD oT : Obj} {nx : List (Addr × Obj)} {S : List (Addr × Obj) → Prop} {rest : Value → List (Addr × Obj) → Prop} {v : Value} {X : Prop} (S1 : Same s₀ s1) (S9 : Same s₀ s9) (F9 : Fr g L s9.heap m)
    (N9 : News g L s9.heap ((T, oT) :: (I, oI) :: (C, oC) :: (D, oD) :: nx)) (lt : I < T ∧ C < T ∧ D < T ∧ X) (off : LCg.Off3 I C D nx) (hS : S ((T, oT) :: nx)) (hr : rest v ((T, oT) :: nx)) : LCg.CompEnd g L m s1 I oI C oC D oD S rest v s9 :=
  cend S1 S9 F9 N9 (Nat.ne_of_gt lt.1) (Nat.ne_of_gt lt.2.1) (Nat.ne_of_gt lt.2.2.1) off hS hr
theorem Rels.ta {α : Type} {P : α → Value → Prop} : ∀ {as : List α} {vs : List Value} {i : Nat} {v : Value}, Rels P as vs → vs[i]? = some v → ∃ a, as[i]? = some a ∧ P a v := by
  intro as
  induction as with
  | nil =>
    intro vs i v hr hv
    obtain rfl : vs = [] := hr
    cases hv
  | cons a as ih =>
    intro vs i v hr hv
    obtain ⟨u, us, rfl, hp, hr⟩ := hr
    cases i with
    | zero => exact ⟨a, rfl, Option.some.inj hv ▸ hp⟩
    | succ i => exact ih hr hv
theorem ne_cls {g h : Heap} {L a b : Addr} {oa ob : Obj} {l : List (Addr × Obj)} (N : News g L h l) (ha : (a, oa) ∈ l) (hb : (b, ob) ∈ l) (hne : oa.cls ≠ ob.cls) : a ≠ b := fun e => by
  have h1 := (N _ ha).1
  have h2 := (N _ hb).1
  dsimp only at h1 h2
  rw [e, h2] at h1
  exact hne (congrArg Obj.cls (Option.some.inj h1).symm)
theorem ne_data {g h : Heap} {L a b : Addr} {oa ob : Obj} {l : List (Addr × Obj)} (N : News g L h l) (ha : (a, oa) ∈ l) (hb : (b, ob) ∈ l) (hne : oa.data ≠ ob.data) : a ≠ b := fun e => by
  have h1 := (N _ ha).1
  have h2 := (N _ hb).1
  dsimp only at h1 h2
  rw [e, h2] at h1
  exact hne (congrArg Obj.data (Option.some.inj h1).symm)
theorem tup_one {g h : Heap} {L a : Addr} {xs ys : List Value} {l : List (Addr × Obj)} (N : News g L h l) (ha : (a, tupO xs) ∈ l) (hb : (a, tupO ys) ∈ l) : xs = ys := by
  have h1 := (N _ ha).1
  have h2 := (N _ hb).1
  dsimp only at h1 h2
  rw [h2] at h1
  have h3 := congrArg Obj.data (Option.some.inj h1)
  injection h3 with h4
  exact (congrArg Array.toList h4).symm
theorem cls_ti : (Value.type "tuple") ≠ (Value.type "list_iterator") := by intro h; injection h with h; exact absurd h (by decide)
theorem cls_tl : (Value.type "tuple") ≠ (Value.type "list") := by intro h; injection h with h; exact absurd h (by decide)
theorem games_of {nw : List (Addr × Obj)} {D : Addr} {gs : List G} {ys : List Value} (h : Rels (GIs nw) gs ys) (hm : (D, LCg.lst ys) ∈ nw) : Games nw D gs :=
  ⟨ys, _, hm, fun _ _ hx => by
    obtain ⟨v, hv, b, rfl, hb⟩ := h.at hx
    exact ⟨b, hv, hb⟩⟩
theorem Games.sub {nw nw' : List (Addr × Obj)} {a : Addr} {gs : List G} (h : Games nw a gs) (hs : Sub nw nw') : Games nw' a gs := by
  obtain ⟨vs, n, hm, h⟩ := h
  exact ⟨vs, n, hs _ hm rfl, fun i x hx => by
    obtain ⟨b, e, hb⟩ := h i x hx
    exact ⟨b, e, hb.sub hs⟩⟩
theorem GIs.mono {nw nw' : List (Addr × Obj)} {x : G} {v : Value} (h : GIs nw x v) (hs : ∀ p ∈ nw, p ∈ nw') : GIs nw' x v := by
  obtain ⟨b, e, h⟩ := h
  exact ⟨b, e, h.mono hs⟩
end Mine
set_option maxHeartbeats 4000000
namespace Mine
theorem fill21 : True := by
  w_top off
  exact True.intro
local macro_rules | `(tactic| k_mem) => `(tactic| ((repeat (first | assumption | exact List.Mem.head _ | apply List.Mem.tail)); done))
section
variable {w : World} {A : Around} {E : Value → Shared → Prop} {g : Heap} {L fa : Addr} {cdv : Value} {s₀ s : Shared} {oT oG : Obj} {m : Str → Option Value} {nw : List (Addr × Obj)} {scope : Scope} {st : Stmt} {Q : Flow → Shared → Prop}
theorem law_s1 (hst : some st = (dLaw.body.drop 0).head?) (hsc : scope = dLaw.scope) (H : Here A g L 6) (hh : A.handled = none) (Gd : Gnd w g) (ls : LS s₀ g L m oT oG nw s) {lS : Addr} {vs : List Value} {ns : List Int} (hm : m (Str.ofString "script") = some (.ref lS)) (hls : g.IsList lS vs.toArray) (hi : IntsAre vs ns) (hlen : ns.length ≤ 63)
    (k : ∀ s' m' nw' lN n0 n1 n2 n3 n4 n5 t0 t1 t2 t3 t4 t5, LS s₀ g L m' oT oG nw' s' → m' (Str.ofString "numbers") = some (.ref lN) → (lN, LCg.lst [.int n0 t0, .int n1 t1, .int n2 t2, .int n3 t3, .int n4 t4, .int n5 t5]) ∈ nw' → Q .next s') : wpAny (model Prg w) A (exec st (envOfC (Str.ofString "law") scope L fa cdv)) Q E s := by
  (conv at hsc => rhs; whnf)
  (conv at hst => rhs; whnf)
  obtain rfl := Option.some.inj hst
  subst hsc
  obtain ⟨S, F, N, hT, hG⟩ := ls
  have X := Gd.x
  obtain ⟨loose, mean, mg, mb, T⟩ := Gd.t
  repeat' (first
    | (k_unfold; (try dsimp only))
    | ((with_reducible show wpAny _ _ (eval (Expr.Call (Expr.Name _ _) _ [] _) _) _ _ _); refine Call_ ?_)
    | ((with_reducible show wpAny _ _ (eval (Expr.Name _ _) _) _ _ _); k_dflt (refine' nameX_L ?nmF ?nmv ?_ ?nma ?nmb; (case nmF => k_asm); (case nma => rfl); (case nmb => rfl); (case nmv => first | rfl | assumption); k_whole); walk_say "NAMEH")
    | ((with_reducible show wpAny _ _ (call (Value.ref 113) _ _) _ _ _); k_dflt (refine' ConP.use (num_c _ _ _ _ _ _ _ _ _ _ _ _ _ hi hlen ?kq) ?k1 ?k2 ?k0 ?k3 ?k4 ?k5 ?kp ?_; (case k1 => assumption); (case k2 => decide); (case k3 => k_asm); (case k4 => k_asm); (case k5 => assumption); (case kp => exact hls); (case k0 => assumption); (case kq => k_mem); intro r9 tl9 s9 S9 F9 N9 hR9; (obtain ⟨DN, ys9, e8, e9, hI9⟩ := hR9); subst e8; subst e9; (rw [List.singleton_append] at N9); (try dsimp only)); walk_say "NUMC")
    | (walk1) | (dsimp only; walk1) | fail "no step")
  rename News g L _ _ => lN
  obtain ⟨t0, t1, t2, t3, t4, t5, rfl⟩ := ints6 hI9
  exact k _ _ _ _ _ _ _ _ _ _ _ _ _ _ _ _ ⟨by assumption, by assumption, lN, by k_mem, by k_mem⟩ rfl (by k_mem)
end
end Mine
set_option maxHeartbeats 4000000
namespace Mine
theorem fill22 : True := by
  w_top off
  exact True.intro
local macro_rules | `(tactic| k_mem) => `(tactic| ((repeat (first | assumption | exact List.Mem.head _ | apply List.Mem.tail)); done))
section
variable {w : World} {A : Around} {E : Value → Shared → Prop} {g : Heap} {L fa : Addr} {cdv : Value} {s₀ s : Shared} {oT oG : Obj} {m : Str → Option Value} {nw : List (Addr × Obj)} {scope : Scope} {st : Stmt} {Q : Flow → Shared → Prop}
theorem law_s2 (hst : some st = (dLaw.body.drop 1).head?) (hsc : scope = dLaw.scope) (H : Here A g L 6) (hh : A.handled = none) (Gd : Gnd w g) (ls : LS s₀ g L m oT oG nw s) {lN : Addr} {n0 n1 n2 n3 n4 n5 : Int} {t0 t1 t2 t3 t4 t5 : Tok} (hm : m (Str.ofString "numbers") = some (.ref lN)) (hn : (lN, LCg.lst [.int n0 t0, .int n1 t1, .int n2 t2, .int n3 t3, .int n4 t4, .int n5 t5]) ∈ nw)
    (k : ∀ s' m' nw' D ys, LS s₀ g L m' oT oG nw' s' → (∀ p ∈ nw, p ∈ nw') → (∀ z, z ≠ Str.ofString "drawn" → m' z = m z) → m' (Str.ofString "drawn") = some (.ref D) → (D, LCg.lst ys) ∈ nw' → Rels (PairIs nw') [pairOf n0, pairOf n1, pairOf n2, pairOf n3, pairOf n4] ys → Q .next s') : wpAny (model Prg w) A (exec st (envOfC (Str.ofString "law") scope L fa cdv)) Q E s := by
  (conv at hsc => rhs; whnf)
  (conv at hst => rhs; whnf)
  obtain rfl := Option.some.inj hst
  subst hsc
  obtain ⟨S, F, N, hT, hG⟩ := ls
  have X := Gd.x
  obtain ⟨loose, mean, mg, mb, T⟩ := Gd.t
  repeat' (first
    | (k_unfold; (try dsimp only))
    | ((with_reducible show wpAny _ _ (eval (Expr.Call (Expr.Name _ _) _ [] _) _) _ _ _); refine Call_ ?_)
    | ((fail_if_success (with_reducible show wpAny _ _ (exec (Stmt.Assign [Expr.Name _ _] (Expr.ListComp _ _ _ _) _) _) _ _ _)); walk1) | ((fail_if_success (with_reducible show wpAny _ _ (exec (Stmt.Assign [Expr.Name _ _] (Expr.ListComp _ _ _ _) _) _) _ _ _)); dsimp only; walk1) | fail "no step")
  refine LCg.Assign_ListComp_U (F₀ := by k_asm) (by rfl) (by with_unfolding_all rfl) (by rfl) (by decide) (by rfl) (by decide) (by rfl) (by rfl) (by rfl) ?_
  repeat' (first
    | (k_unfold; (try dsimp only))
    | ((with_reducible show wpAny _ _ (eval (Expr.Call (Expr.Name _ _) _ [] _) _) _ _ _); refine Call_ ?_)
    | ((with_reducible show wpAny _ _ (eval (Expr.Name _ _) _) _ _ _); k_dflt (refine' nameX_L ?nmF ?nmv ?_ ?nma ?nmb; (case nmF => k_asm); (case nma => rfl); (case nmb => rfl); (case nmv => first | rfl | assumption); k_whole); walk_say "NAMEH")
    | ((fail_if_success (with_reducible show LCg.CompSrc _ _ _ _ _ _ _ _ _ _ _ _ _ _)); walk1) | ((fail_if_success (with_reducible show LCg.CompSrc _ _ _ _ _ _ _ _ _ _ _ _ _ _)); dsimp only; walk1) | fail "no step")
  refine LCg.CompSrc.ledger hh (by k_asm) (by k_asm) (List.Mem.head _) (Nat.le_of_ble_eq_true rfl) ?_
  intro g8
  refine rest_of (PR _ [pairOf n0, pairOf n1, pairOf n2, pairOf n3, pairOf n4]) (PR.zero _ _) (fun i v I oI C oC D mc ys nx h tk E' hlt hv hR hC hx F2 N2 off ne => ?_) (fun ys nx hR => ?_)
  · have hv' : ∃ nn tt, v = .int nn tt ∧ [pairOf n0, pairOf n1, pairOf n2, pairOf n3, pairOf n4][i]? = some (pairOf nn) := int_in hv
    obtain ⟨nn, tt, rfl, hnn⟩ := hv'
    clear hv
    repeat' (first
      | (k_unfold; (try dsimp only))
      | ((with_reducible show wpAny _ _ (eval (Expr.Call (Expr.Name _ _) _ [] _) _) _ _ _); refine Call_ ?_)
      | ((fail_if_success (with_reducible show LCg.CompEnd _ _ _ _ _ _ _ _ _ _ _ _ _)); walk1) | ((fail_if_success (with_reducible show LCg.CompEnd _ _ _ _ _ _ _ _ _ _ _ _ _)); dsimp only; walk1) | fail "no step")
    rename News g L _ _ => lN
    rename _ ∧ _ ∧ _ ∧ AllLt _ _ => lt
    rename Fr g L _ m => lF
    refine cend_lt S (s₀ := s₀) ?_ lF lN lt off (.inr ⟨_, .tail _ (hR.1 _ (.head _)), rfl, _, rfl⟩) (PR.succ hR hnn (fun _ hq => .tail _ hq) ⟨_, _, _, rfl, .head _⟩)
    assumption
  · unfold LCg.FinA
    intro D h5 tk5 F5 N5 o5
    obtain ⟨p1, p3⟩ := hR
    exact k _ _ ((D, LCg.lst ys) :: nx) D ys ⟨S, F5, N5, .tail _ (p1 _ (.tail _ hT)), .tail _ (p1 _ (.tail _ hG))⟩ (fun p hp => .tail _ (p1 _ (.tail _ hp))) (fun z hz => if_neg hz) (if_pos rfl) (.head _) (p3.imp fun p v hv => hv.mono fun q hq => .tail _ hq)
end
end Mine
set_option maxHeartbeats 4000000
namespace Mine
theorem fill23 : True := by
  w_top off
  exact True.intro
local macro_rules | `(tactic| k_mem) => `(tactic| ((repeat (first | assumption | exact List.Mem.head _ | apply List.Mem.tail)); done))
section
variable {w : World} {A : Around} {E : Value → Shared → Prop} {g : Heap} {L fa : Addr} {cdv : Value} {s₀ s : Shared} {oT oG : Obj} {m : Str → Option Value} {nw : List (Addr × Obj)} {scope : Scope} {st : Stmt} {Q : Flow → Shared → Prop}
theorem law_s3 (hst : some st = (dLaw.body.drop 2).head?) (hsc : scope = dLaw.scope) (H : Here A g L 6) (hh : A.handled = none) (Gd : Gnd w g) (ls : LS s₀ g L m oT oG nw s) {lN : Addr} {n0 n1 n2 n3 n4 n5 : Int} {t0 t1 t2 t3 t4 t5 : Tok} (hm : m (Str.ofString "numbers") = some (.ref lN)) (hn : (lN, LCg.lst [.int n0 t0, .int n1 t1, .int n2 t2, .int n3 t3, .int n4 t4, .int n5 t5]) ∈ nw)
    (k : ∀ s' m' nw' D ys, LS s₀ g L m' oT oG nw' s' → (∀ p ∈ nw, p ∈ nw') → (∀ z, z ≠ Str.ofString "seen" → m' z = m z) → m' (Str.ofString "seen") = some (.ref D) → (D, LCg.lst ys) ∈ nw' → Rels (PairIs nw') [pairOf n0, pairOf n1, pairOf n2, pairOf n3, pairOf n4] ys → Q .next s') : wpAny (model Prg w) A (exec st (envOfC (Str.ofString "law") scope L fa cdv)) Q E s := by
  (conv at hsc => rhs; whnf)
  (conv at hst => rhs; whnf)
  obtain rfl := Option.some.inj hst
  subst hsc
  obtain ⟨S, F, N, hT, hG⟩ := ls
  have X := Gd.x
  obtain ⟨loose, mean, mg, mb, T⟩ := Gd.t
  repeat' (first
    | (k_unfold; (try dsimp only))
    | ((with_reducible show wpAny _ _ (eval (Expr.Call (Expr.Name _ _) _ [] _) _) _ _ _); refine Call_ ?_)
    | ((fail_if_success (with_reducible show wpAny _ _ (exec (Stmt.Assign [Expr.Name _ _] (Expr.ListComp _ _ _ _) _) _) _ _ _)); walk1) | ((fail_if_success (with_reducible show wpAny _ _ (exec (Stmt.Assign [Expr.Name _ _] (Expr.ListComp _ _ _ _) _) _) _ _ _)); dsimp only; walk1) | fail "no step")
  refine LCg.Assign_ListComp_U (F₀ := by k_asm) (by rfl) (by with_unfolding_all rfl) (by rfl) (by decide) (by rfl) (by decide) (by rfl) (by rfl) (by rfl) ?_
  repeat' (first
    | (k_unfold; (try dsimp only))
    | ((with_reducible show wpAny _ _ (eval (Expr.Call (Expr.Name _ _) _ [] _) _) _ _ _); refine Call_ ?_)
    | ((with_reducible show wpAny _ _ (eval (Expr.Name _ _) _) _ _ _); k_dflt (refine' nameX_L ?nmF ?nmv ?_ ?nma ?nmb; (case nmF => k_asm); (case nma => rfl); (case nmb => rfl); (case nmv => first | rfl | assumption); k_whole); walk_say "NAMEH")
    | ((fail_if_success (with_reducible show LCg.CompSrc _ _ _ _ _ _ _ _ _ _ _ _ _ _)); walk1) | ((fail_if_success (with_reducible show LCg.CompSrc _ _ _ _ _ _ _ _ _ _ _ _ _ _)); dsimp only; walk1) | fail "no step")
  refine LCg.CompSrc.ledger hh (by k_asm) (by k_asm) (List.Mem.head _) (Nat.le_of_ble_eq_true rfl) ?_
  intro g8
  refine rest_of (PR _ [pairOf n0, pairOf n1, pairOf n2, pairOf n3, pairOf n4]) (PR.zero _ _) (fun i v I oI C oC D mc ys nx h tk E' hlt hv hR hC hx F2 N2 off ne => ?_) (fun ys nx hR => ?_)
  · have hv' : ∃ nn tt, v = .int nn tt ∧ [pairOf n0, pairOf n1, pairOf n2, pairOf n3, pairOf n4][i]? = some (pairOf nn) := int_in hv
    obtain ⟨nn, tt, rfl, hnn⟩ := hv'
    clear hv
    repeat' (first
      | (k_unfold; (try dsimp only))
      | ((with_reducible show wpAny _ _ (eval (Expr.Call (Expr.Name _ _) _ [] _) _) _ _ _); refine Call_ ?_)
      | ((with_reducible show wpAny _ _ (call (Value.ref 132) _ _) _ _ _); k_dflt (refine' Con.use (seen_c _ _ _ _ _ _ (Int.fmod_nonneg_of_pos _ (by decide)) (Int.fmod_lt_of_pos _ (by decide))) ?k1 ?k2 ?k0 ?k3 ?k4 ?k5 ?_; (case k1 => assumption); (case k2 => decide); (case k3 => k_asm); (case k4 => k_asm); (case k5 => assumption); (case k0 => assumption); intro r9 tl9 s9 S9 F9 N9 hR9; (obtain ⟨e8, t9, e9⟩ := hR9); subst e8; subst e9; (rw [List.nil_append] at N9); (try dsimp only)); walk_say "CALL seen_c")
      | ((fail_if_success (with_reducible show LCg.CompEnd _ _ _ _ _ _ _ _ _ _ _ _ _)); walk1) | ((fail_if_success (with_reducible show LCg.CompEnd _ _ _ _ _ _ _ _ _ _ _ _ _)); dsimp only; walk1) | fail "no step")
    rename News g L _ _ => lN
    rename _ ∧ _ ∧ _ ∧ AllLt _ _ => lt
    rename Fr g L _ m => lF
    refine cend_lt S (s₀ := s₀) ?_ lF lN lt off (.inr ⟨_, .tail _ (hR.1 _ (.head _)), rfl, _, rfl⟩) (PR.succ hR hnn (fun _ hq => .tail _ hq) ⟨_, _, _, rfl, .head _⟩)
    assumption
  · unfold LCg.FinA
    intro D h5 tk5 F5 N5 o5
    obtain ⟨p1, p3⟩ := hR
    exact k _ _ ((D, LCg.lst ys) :: nx) D ys ⟨S, F5, N5, .tail _ (p1 _ (.tail _ hT)), .tail _ (p1 _ (.tail _ hG))⟩ (fun p hp => .tail _ (p1 _ (.tail _ hp))) (fun z hz => if_neg hz) (if_pos rfl) (.head _) (p3.imp fun p v hv => hv.mono fun q hq => .tail _ hq)
end
end Mine
set_option maxHeartbeats 4000000
namespace Mine
theorem fill24 : True := by
  w_top off
  exact True.intro
local macro_rules | `(tactic| k_mem) => `(tactic| ((repeat (first | assumption | exact List.Mem.head _ | apply List.Mem.tail)); done))
section
variable {w : World} {A : Around} {E : Value → Shared → Prop} {g : Heap} {L fa : Addr} {cdv : Value} {s₀ s : Shared} {oT oG : Obj} {m : Str → Option Value} {nw : List (Addr × Obj)} {scope : Scope} {st : Stmt} {Q : Flow → Shared → Prop}
theorem law_s4 (hst : some st = (dLaw.body.drop 3).head?) (hsc : scope = dLaw.scope) (H : Here A g L 6) (hh : A.handled = none) (Gd : Gnd w g) (ls : LS s₀ g L m oT oG nw s) {D1 D2 : Addr} {ys1 ys2 : List Value} {p0 p1 p2 p3 p4 : Int × Int} (hm1 : m (Str.ofString "seen") = some (.ref D1)) (hm2 : m (Str.ofString "drawn") = some (.ref D2)) (q1 : (D1, LCg.lst ys1) ∈ nw) (q2 : (D2, LCg.lst ys2) ∈ nw) (r1 : Rels (PairIs nw) [p0, p1, p2, p3, p4] ys1) (r2 : Rels (PairIs nw) [p0, p1, p2, p3, p4] ys2)
    (k : ∀ s', LS s₀ g L m oT oG nw s' → Q .next s') : wpAny (model Prg w) A (exec st (envOfC (Str.ofString "law") scope L fa cdv)) Q E s := by
  (conv at hsc => rhs; whnf)
  (conv at hst => rhs; whnf)
  obtain rfl := Option.some.inj hst
  subst hsc
  obtain ⟨S, F, N, hT, hG⟩ := ls
  have X := Gd.x
  obtain ⟨loose, mean, mg, mb, T⟩ := Gd.t
  repeat' (first
    | (k_unfold; (try dsimp only))
    | ((with_reducible show wpAny _ _ (eval (Expr.Call (Expr.Name _ _) _ [] _) _) _ _ _); refine Call_ ?_)
    | ((with_reducible show wpAny _ _ (eval (Expr.Name _ _) _) _ _ _); k_dflt (refine' nameX_L ?nmF ?nmv ?_ ?nma ?nmb; (case nmF => k_asm); (case nma => rfl); (case nmb => rfl); (case nmv => first | rfl | assumption); k_whole); walk_say "NAMEH")
    | ((with_reducible show wpAny _ _ (compareOp CmpOp.NotEq (Value.ref _) (Value.ref _)) _ _ _); refine pairs_ne (by k_asm) q1 q2 r1 r2 (Here.units H) ?_; walk_say "NEPAIRS")
    | (walk1) | (dsimp only; walk1) | fail "no step")
  exact k _ ⟨by assumption, by assumption, by assumption, hT, hG⟩
end
end Mine
set_option maxHeartbeats 4000000
namespace Mine
theorem fill25 : True := by
  w_top off
  exact True.intro
local macro_rules | `(tactic| k_mem) => `(tactic| ((repeat (first | assumption | exact List.Mem.head _ | apply List.Mem.tail)); done))
section
variable {w : World} {A : Around} {E : Value → Shared → Prop} {g : Heap} {L fa : Addr} {cdv : Value} {s₀ s : Shared} {oT oG : Obj} {m : Str → Option Value} {nw : List (Addr × Obj)} {scope : Scope} {st : Stmt} {Q : Flow → Shared → Prop}
theorem law_s5 (hst : some st = (dLaw.body.drop 4).head?) (hsc : scope = dLaw.scope) (H : Here A g L 6) (hh : A.handled = none) (Gd : Gnd w g) (ls : LS s₀ g L m oT oG nw s) {v₀ : Option Value} (hoT : oT.data = .cell v₀)
    (k : ∀ s' oT' tb nw', LS s₀ g L m oT' oG nw' s' → oT'.data = .cell (some (.ref tb)) → Tabs nw' tb → Sub nw nw' → Q .next s') : wpAny (model Prg w) A (exec st (envOfC (Str.ofString "law") scope L fa cdv)) Q E s := by
  (conv at hsc => rhs; whnf)
  (conv at hst => rhs; whnf)
  obtain rfl := Option.some.inj hst
  subst hsc
  obtain ⟨S, F, N, hT, hG⟩ := ls
  have X := Gd.x
  obtain ⟨loose, mean, mg, mb, T⟩ := Gd.t
  repeat' (first
    | (k_unfold; (try dsimp only))
    | ((with_reducible show wpAny _ _ (eval (Expr.Call (Expr.Name _ _) _ [] _) _) _ _ _); refine Call_ ?_)
    | ((with_reducible show wpAny _ _ (call (Value.ref 139) _ _) _ _ _); k_dflt (refine' Con.use (tab_c _ _) ?k1 ?k2 ?k0 ?k3 ?k4 ?k5 ?_; (case k1 => assumption); (case k2 => decide); (case k3 => k_asm); (case k4 => k_asm); (case k5 => assumption); (case k0 => assumption); intro r9 tl9 s9 S9 F9 N9 hR9; skip; (try dsimp only)); walk_say "CALL tab_c")
    | ((fail_if_success (with_reducible show wpAny _ _ (storeName _ _ _) _ _ _)); walk1) | ((fail_if_success (with_reducible show wpAny _ _ (storeName _ _ _) _ _ _)); dsimp only; walk1) | fail "no step")
  obtain ⟨tb, rfl, hTb⟩ := hR9
  rename News g L _ _ => lN
  rename Fr g L _ _ => lF
  have hT9 := List.mem_append_right tl9 hT
  have hG9 := List.mem_append_right tl9 hG
  have sb := sub_nfA lN hT9 hoT
  have N9 : News g L s9.heap ((L + 1, oT) :: nfA (L + 1) (tl9 ++ nw)) := fun p hp => by
    rcases List.mem_cons.mp hp with rfl | hp
    · exact lN _ hT9
    · exact lN _ (nfA_in _ hp)
  refine storeX_C (c := L + 1) lF N9 rfl (UpdF.head nfA_ne) hoT ?_ rfl rfl
  intro h' o' F' N' d'
  clear lN lF N9
  repeat' (first
    | (k_unfold; (try dsimp only))
    | ((with_reducible show wpAny _ _ (eval (Expr.Call (Expr.Name _ _) _ [] _) _) _ _ _); refine Call_ ?_)
    | (walk1) | (dsimp only; walk1) | fail "no step")
  rename News g L _ _ => lN
  exact k _ o' tb _ ⟨by assumption, by assumption, lN, .head _, .tail _ (nfA_mem hG9 (Nat.succ_ne_self _))⟩ d' (hTb.sub fun p hp hn => .tail _ (sb p (List.mem_append_left _ hp) hn)) (fun p hp hn => .tail _ (sb p (List.mem_append_right _ hp) hn))
end
end Mine
set_option maxHeartbeats 4000000
namespace Mine
theorem fill26 : True := by
  w_top off
  exact True.intro
local macro_rules | `(tactic| k_mem) => `(tactic| ((repeat (first | assumption | exact List.Mem.head _ | apply List.Mem.tail)); done))
section
variable {w : World} {A : Around} {E : Value → Shared → Prop} {g : Heap} {L fa : Addr} {cdv : Value} {s₀ s : Shared} {oT oG : Obj} {m : Str → Option Value} {nw : List (Addr × Obj)} {scope : Scope} {st : Stmt} {Q : Flow → Shared → Prop}
theorem law_s6 (hst : some st = (dLaw.body.drop 5).head?) (hsc : scope = dLaw.scope) (H : Here A g L 6) (hh : A.handled = none) (Gd : Gnd w g) (ls : LS s₀ g L m oT oG nw s) {v₀ : Option Value} {tb Ds : Addr} {ys : List Value} {p0 p1 p2 p3 p4 : Int × Int} (hoG : oG.data = .cell v₀) (hoT : oT.data = .cell (some (.ref tb))) (hTb : Tabs nw tb) (hm : m (Str.ofString "seen") = some (.ref Ds)) (hys : (Ds, LCg.lst ys) ∈ nw) (hr : Rels (PairIs nw) [p0, p1, p2, p3, p4] ys)
    (k : ∀ s' oG' ga nw', LS s₀ g L m oT oG' nw' s' → oG'.data = .cell (some (.ref ga)) → Games nw' ga [mkG p0.1 p0.2, mkG p1.1 p1.2, mkG p2.1 p2.2, mkG p3.1 p3.2, mkG p4.1 p4.2] → Tabs nw' tb → Sub nw nw' → Q .next s') : wpAny (model Prg w) A (exec st (envOfC (Str.ofString "law") scope L fa cdv)) Q E s := by
  (conv at hsc => rhs; whnf)
  (conv at hst => rhs; whnf)
  obtain rfl := Option.some.inj hst
  subst hsc
  obtain ⟨S, F, N, hT, hG⟩ := ls
  have X := Gd.x
  obtain ⟨loose, mean, mg, mb, T⟩ := Gd.t
  repeat' (first
    | (k_unfold; (try dsimp only))
    | ((with_reducible show wpAny _ _ (eval (Expr.Call (Expr.Name _ _) _ [] _) _) _ _ _); refine Call_ ?_)
    | ((with_reducible show wpAny _ _ (eval (Expr.Name _ _) _) _ _ _); k_dflt (refine' nameX_L ?nmF ?nmv ?_ ?nma ?nmb; (case nmF => k_asm); (case nma => rfl); (case nmb => rfl); (case nmv => first | rfl | assumption); k_whole); walk_say "NAMEH")
    | ((fail_if_success (with_reducible show wpAny _ _ (eval (Expr.ListComp _ _ _ _) _) _ _ _)); walk1) | ((fail_if_success (with_reducible show wpAny _ _ (eval (Expr.ListComp _ _ _ _) _) _ _ _)); dsimp only; walk1) | fail "no step")
  have hg5 : ∀ {i : Nat} {v : Value}, ys[i]? = some v → ∃ p, [p0, p1, p2, p3, p4][i]? = some p ∧ PairIs nw p v := fun hv => hr.ta hv
  have hyl : ys.length = 5 := hr.length
  have h0L : (L + 1, oT) ∈ nw := hT
  refine' compT (ps := [(Str.ofString "left", ⟨212, 48, 212, 52⟩), (Str.ofString "right", ⟨212, 54, 212, 59⟩)]) (a := Ds) (va := ys) (na := ys.length) (fun i zs nx => (∀ p ∈ nw, p ∈ nx) ∧ Rels (GIs nx) (([p0, p1, p2, p3, p4].take i).map fun p => mkG p.1 p.2) zs) hh ?clos ?cell ?kind ?names ?psl (by k_asm) (by k_asm) ?sz ?it1 ?hf1 ?hR ?hsrc ?turn ?ret
  case clos => rfl
  case cell => decide
  case kind => rfl
  case names => decide
  case psl => decide
  case sz => omega
  case it1 =>
    intro Q' k1
    repeat' (first
      | (k_unfold; (try dsimp only))
      | ((with_reducible show wpAny _ _ (eval (Expr.Call (Expr.Name _ _) _ [] _) _) _ _ _); refine Call_ ?_)
      | ((with_reducible show wpAny _ _ (eval (Expr.Name _ _) _) _ _ _); k_dflt (refine' nameX_L ?nmF ?nmv ?_ ?nma ?nmb; (case nmF => k_asm); (case nma => rfl); (case nmb => rfl); (case nmv => first | rfl | assumption); k_whole); walk_say "NAMEH")
      | (walk1) | (dsimp only; walk1) | fail "no step")
    exact k1 _
  case hf1 => intro _; rfl
  case hR => exact ⟨fun _ h => h, rfl⟩
  case hsrc =>
    intro i zs nx hRi
    refine ⟨hRi.1 _ hys, fun v hv => ?_⟩
    obtain ⟨p, _, a, t, u, rfl, hm⟩ := hg5 hv
    exact ⟨a, _, rfl, hRi.1 _ hm, rfl⟩
  case turn =>
    intro i T' items I oI C oC D mc zs nx h tk hit hT' hRi hI hC F2 N2 off ne
    obtain ⟨⟨x, y⟩, hp, a, t, u, e, hm2⟩ := hg5 hit
    obtain rfl : T' = a := by injection e
    obtain rfl := tup_one N2 (.tail _ (.tail _ (.tail _ hT'))) (.tail _ (.tail _ (.tail _ (hRi.1 _ hm2))))
    have hx1 : updL mc ([(Str.ofString "left", (⟨212, 48, 212, 52⟩ : Pos)), (Str.ofString "right", ⟨212, 54, 212, 59⟩)].map (·.1)) [.int x t, .int y u] (Str.ofString "left") = some (.int x t) := rfl
    have hx2 : updL mc ([(Str.ofString "left", (⟨212, 48, 212, 52⟩ : Pos)), (Str.ofString "right", ⟨212, 54, 212, 59⟩)].map (·.1)) [.int x t, .int y u] (Str.ofString "right") = some (.int y u) := rfl
    have hTb2 := hTb.mono hRi.1
    have hT2 := hRi.1 _ hT
    refine wpAny_tests_nil ?_
    simp only [if_true]
    repeat' (first
      | (k_unfold; (try dsimp only))
      | ((with_reducible show wpAny _ _ (eval (Expr.Call (Expr.Name _ _) _ [] _) _) _ _ _); refine Call_ ?_)
      | ((with_reducible show wpAny _ _ (eval (Expr.Name (Str.ofString "tables") _) _) _ _ _); k_dflt (refine kcf_cell (c := L + 1) N2 (by rfl) (.tail _ (.tail _ (.tail _ hT2))) hoT ?_); walk_say "TABLES")
      | ((with_reducible show wpAny _ _ (call (Value.ref 146) _ _) _ _ _); k_dflt (refine' Con.use (game_c _ _ _ _ _ _ _ ?g1) ?k1 ?k2 ?k0 ?k3 ?k4 ?k5 ?_; (case k1 => assumption); (case k2 => decide); (case k3 => k_asm); (case k4 => k_asm); (case k5 => assumption); (case k0 => assumption); (case g1 => first | assumption | exact GameIn.mono (by assumption) (by (intro p hp; repeat (first | assumption | apply List.Mem.tail))) | exact Tabs.mono (by assumption) (by (intro p hp; repeat (first | assumption | apply List.Mem.tail))) | exact ⟨_, (by k_mem), (by assumption)⟩ | exact ⟨_, (by k_mem), _, _, _, _, rfl⟩); intro r9 tl9 s9 S9 F9 N9 hR9; (obtain ⟨a9, o9, e8, e9, hG9⟩ := hR9); subst e8; subst e9; (rw [List.singleton_append] at N9); (try dsimp only)); walk_say "CALL game_c")
      | ((fail_if_success (with_reducible show LCg.CompEnd _ _ _ _ _ _ _ _ _ _ _ _ _)); walk1) | ((fail_if_success (with_reducible show LCg.CompEnd _ _ _ _ _ _ _ _ _ _ _ _ _)); dsimp only; walk1) | fail "no step")
    have ct : o9.cls = .type "tuple" := GO.cls hG9
    have hdC : o9.data ≠ oC.data := by
      obtain ⟨_, _, _, _, rfl⟩ := hG9
      obtain ⟨es, ep, hd, _⟩ := hC
      rw [hd]
      intro h
      cases h
    refine cend S S9 F9 N9 (ne_cls N9 (.head _) (.tail _ (.head _)) (by rw [ct, hI]; exact cls_ti)) (ne_data N9 (.head _) (.tail _ (.tail _ (.head _))) hdC) (ne_cls N9 (.head _) (.tail _ (.tail _ (.tail _ (.head _)))) (by rw [ct]; exact cls_tl)) off trivial ⟨fun p hp => .tail _ (hRi.1 p hp), ?_⟩
    rw [take_snoc hp, List.map_append]
    exact Rels.append (Rels.one ⟨a9, rfl, o9, .head _, hG9⟩) (hRi.2.imp fun _ _ h => h.mono fun q hq => .tail _ hq)
  case ret =>
    intro D h' tk zs nx F5 N5 off5 hR5
    obtain ⟨r1, r2⟩ := hR5
    rw [hyl] at r2
    have hG9 : (L + 1 + 1, oG) ∈ (D, LCg.lst zs) :: nx := .tail _ (r1 _ hG)
    have sb := sub_nfA N5 hG9 hoG
    have N9 : News g L h' ((L + 1 + 1, oG) :: nfA (L + 1 + 1) ((D, LCg.lst zs) :: nx)) := fun p hp => by
      rcases List.mem_cons.mp hp with rfl | hp
      · exact N5 _ hG9
      · exact N5 _ (nfA_in _ hp)
    refine storeX_C (c := L + 1 + 1) F5 N9 rfl (UpdF.head nfA_ne) hoG ?_ rfl rfl
    intro h2 o' F' N' d'
    clear F N N9 N5 F5
    repeat' (first
      | (k_unfold; (try dsimp only))
      | ((with_reducible show wpAny _ _ (eval (Expr.Call (Expr.Name _ _) _ [] _) _) _ _ _); refine Call_ ?_)
      | (walk1) | (dsimp only; walk1) | fail "no step")
    rename News g L _ _ => lN
    have s1 : Sub nx ((L + 1 + 1, o') :: nfA (L + 1 + 1) ((D, LCg.lst zs) :: nx)) := fun p hp hn => .tail _ (sb p (.tail _ hp) hn)
    have s2 : Sub nw ((L + 1 + 1, o') :: nfA (L + 1 + 1) ((D, LCg.lst zs) :: nx)) := fun p hp hn => s1 p (r1 p hp) hn
    exact k _ o' D _ ⟨S, by assumption, lN, .tail _ (nfA_mem (.tail _ (r1 _ hT)) (Nat.ne_of_lt (Nat.lt_succ_self _))), .head _⟩ d' ((games_of (r2.imp fun _ _ h => h.mono fun q hq => .tail _ hq) (.head _)).sub fun p hp hn => .tail _ (sb p hp hn)) (hTb.sub s2) s2
end
end Mine
set_option maxHeartbeats 4000000
namespace Mine
theorem fill27 : True := by
  w_top off
  exact True.intro
local macro_rules | `(tactic| k_mem) => `(tactic| ((repeat (first | assumption | exact List.Mem.head _ | apply List.Mem.tail)); done))
section
variable {w : World} {A : Around} {E : Value → Shared → Prop} {g : Heap} {L fa : Addr} {cdv : Value} {s₀ s : Shared} {oT oG : Obj} {m : Str → Option Value} {nw : List (Addr × Obj)} {scope : Scope} {st : Stmt} {Q : Flow → Shared → Prop}
theorem law_s7 (hst : some st = (dLaw.body.drop 6).head?) (hsc : scope = dLaw.scope) (H : Here A g L 6) (hh : A.handled = none) (Gd : Gnd w g) (ls : LS s₀ g L m oT oG nw s) {lN : Addr} {n0 n1 n2 n3 n4 n5 : Int} {t0 t1 t2 t3 t4 t5 : Tok} (hm : m (Str.ofString "numbers") = some (.ref lN)) (hn : (lN, LCg.lst [.int n0 t0, .int n1 t1, .int n2 t2, .int n3 t3, .int n4 t4, .int n5 t5]) ∈ nw)
    (k : ∀ s' m' nw' x c t a, LS s₀ g L m' oT oG nw' s' → (∀ p ∈ nw, p ∈ nw') → m' (Str.ofString "text") = some (.str x t) → m' (Str.ofString "clauses") = some (.ref a) → ClIs nw' c (.ref a) → (([x], [c]) : TC) ∈ ends → Q .next s') : wpAny (model Prg w) A (exec st (envOfC (Str.ofString "law") scope L fa cdv)) Q E s := by
  (conv at hsc => rhs; whnf)
  (conv at hst => rhs; whnf)
  obtain rfl := Option.some.inj hst
  subst hsc
  obtain ⟨S, F, N, hT, hG⟩ := ls
  have X := Gd.x
  obtain ⟨loose, mean, mg, mb, T⟩ := Gd.t
  repeat' (first
    | (k_unfold; (try dsimp only))
    | ((with_reducible show wpAny _ _ (eval (Expr.Call (Expr.Name _ _) _ [] _) _) _ _ _); refine Call_ ?_)
    | ((with_reducible show wpAny _ _ (eval (Expr.Name _ _) _) _ _ _); k_dflt (refine' nameX_L ?nmF ?nmv ?_ ?nma ?nmb; (case nmF => k_asm); (case nma => rfl); (case nmb => rfl); (case nmv => first | rfl | assumption); k_whole); walk_say "NAMEH")
    | ((with_reducible show wpAny _ _ (subscriptTail _ _ (Value.ref _) (Value.int _ _)) _ _ _); k_dflt (refine' item_litK ?k1 ?k2 ?k3 ?k4 ?_ ?k6; (case k1 => exact News.isList (by k_asm) (by k_mem)); (case k2 => first | assumption | decide | omega); (case k3 => first | assumption | decide | omega); (case k4 => first | rfl | assumption); (case k6 => with_unfolding_all rfl); k_whole); walk_say "ITEM")
    | ((with_reducible show wpAny _ _ (call (Value.ref 125) _ _) _ _ _); k_dflt (refine' ConP.use (formula_c _ _ _ _) ?k1 ?k2 ?k0 ?k3 ?k4 ?k5 ?kp ?_; (case k1 => assumption); (case k2 => decide); (case k3 => k_asm); (case k4 => k_asm); (case k5 => assumption); (case kp => trivial); (case k0 => assumption); intro r9 tl9 s9 S9 F9 N9 hR9; (obtain ⟨DF, xF, tF, aF, cF, e9, hDF, hCF, hEF⟩ := hR9); subst e9; have hDF9 := List.mem_append_left nw hDF; (try dsimp only)); walk_say "FMLC")
    | ((with_reducible show wpAny _ _ (assign (Expr.Tuple _ _ _) _ (Value.ref _)) _ _ _); k_dflt (refine' unpackN_ ?F ?N ?T ?k1 ?k2 ?k3 ?_; (case F => k_asm); (case N => k_asm); (case T => exact News.isTup (by k_asm) (by k_mem)); (case k1 => assumption); (case k2 => exact rfl); (case k3 => exact rfl)); intro h' F' N'; (try k_sweep); walk_say "UNPACK")
    | (walk1) | (dsimp only; walk1) | fail "no step")
  rename News g L _ _ => lN
  exact k _ _ _ _ _ _ _ ⟨by assumption, by assumption, lN, List.mem_append_right _ hT, List.mem_append_right _ hG⟩ (fun p hp => List.mem_append_right _ hp) rfl rfl (hCF.mono fun p hp => List.mem_append_left _ hp) hEF
end
end Mine
set_option maxHeartbeats 4000000
namespace Mine
theorem fill28 : True := by
  w_top off
  exact True.intro
local macro_rules | `(tactic| k_mem) => `(tactic| ((repeat (first | assumption | exact List.Mem.head _ | apply List.Mem.tail)); done))
section
variable {w : World} {A : Around} {E : Value → Shared → Prop} {g : Heap} {L fa : Addr} {cdv : Value} {s₀ s : Shared} {oT oG : Obj} {m : Str → Option Value} {nw : List (Addr × Obj)} {scope : Scope} {st : Stmt} {Q : Flow → Shared → Prop}
theorem law_s8 (hst : some st = (dLaw.body.drop 7).head?) (hsc : scope = dLaw.scope) (H : Here A g L 6) (hh : A.handled = none) (Gd : Gnd w g) (ls : LS s₀ g L m oT oG nw s) {x : Str} {t : Tok} {tb ga : Addr} {gs : List G} {fin : List (Sum G Int) × List Step4} (hx : m (Str.ofString "text") = some (.str x t)) (hsym : symOk x = true) (hoT : oT.data = .cell (some (.ref tb))) (hoG : oG.data = .cell (some (.ref ga))) (hTb : Tabs nw tb) (hGs : Games nw ga gs)
    (hz : ∀ k ∈ x.cps.toList.map codeOf, k ≠ 0) (hlen : (x.cps.toList.map codeOf).length ≤ 1000) (hgl : gs.length ≤ 5) (hrun : rdAll gs (x.cps.toList.map codeOf) ([], []) = some fin)
    (k : ∀ s' m' nw' D vs n, LS s₀ g L m' oT oG nw' s' → (∀ p ∈ nw, p ∈ nw') → (∀ z, z ≠ Str.ofString "steps" → m' z = m z) → m' (Str.ofString "steps") = some (.ref D) → (D, listOf (List.toArray vs) n) ∈ nw' → StepsAre nw' fin.2 vs → Q .next s') : wpAny (model Prg w) A (exec st (envOfC (Str.ofString "law") scope L fa cdv)) Q E s := by
  (conv at hsc => rhs; whnf)
  (conv at hst => rhs; whnf)
  obtain rfl := Option.some.inj hst
  subst hsc
  obtain ⟨S, F, N, hT, hG⟩ := ls
  have X := Gd.x
  obtain ⟨loose, mean, mg, mb, T⟩ := Gd.t
  repeat' (first
    | (k_unfold; (try dsimp only))
    | ((with_reducible show wpAny _ _ (eval (Expr.Call (Expr.Name _ _) _ [] _) _) _ _ _); refine Call_ ?_)
    | ((with_reducible show wpAny _ _ (eval (Expr.Name (Str.ofString "games") _) (envOfC _ _ _ _ _)) _ _ _); k_dflt (refine' nameX_C (c := L + 1 + 1) (o := oG) ?ncN rfl ?ncm hoG ?_ rfl rfl (by decide); (case ncN => k_asm); (case ncm => (with_reducible (repeat (first | assumption | exact List.mem_cons_self | apply List.mem_cons_of_mem | apply List.mem_append_right)))); k_whole); walk_say "NAMEG")
    | ((with_reducible show wpAny _ _ (eval (Expr.Name (Str.ofString "tables") _) (envOfC _ _ _ _ _)) _ _ _); k_dflt (refine' nameX_C (c := L + 1) (o := oT) ?ncN rfl ?ncm hoT ?_ rfl rfl (by decide); (case ncN => k_asm); (case ncm => (with_reducible (repeat (first | assumption | exact List.mem_cons_self | apply List.mem_cons_of_mem | apply List.mem_append_right)))); k_whole); walk_say "NAMET")
    | ((with_reducible show wpAny _ _ (eval (Expr.Name _ _) _) _ _ _); k_dflt (refine' nameX_L ?nmF ?nmv ?_ ?nma ?nmb; (case nmF => k_asm); (case nma => rfl); (case nmb => rfl); (case nmv => first | rfl | assumption); k_whole); walk_say "NAMEH")
    | ((with_reducible show wpAny _ _ (call (Value.ref 120) _ _) _ _ _); k_dflt (refine' Con.use (symbols_c _ _ _ _ _ hsym) ?k1 ?k2 ?k0 ?k3 ?k4 ?k5 ?_; (case k1 => assumption); (case k2 => decide); (case k3 => k_asm); (case k4 => k_asm); (case k5 => assumption); (case k0 => assumption); intro r9 tl9 s9 S9 F9 N9 hR9; (obtain ⟨DS, vS, nS, bS, e8, e9, hIS⟩ := hR9); subst e8; subst e9; (rw [List.cons_append] at N9); (try dsimp only)); walk_say "SYMC")
    | ((with_reducible show wpAny _ _ (call (Value.ref 167) _ _) _ _ _); k_dflt (refine' Con.use (read_c _ _ _ _ _ _ _ _ _ _ ?g1 ?g2 ?g3 hIS hz hlen hgl hrun) ?k1 ?k2 ?k0 ?k3 ?k4 ?k5 ?_; (case k1 => assumption); (case k2 => decide); (case k3 => k_asm); (case k4 => k_asm); (case k5 => assumption); (case k0 => assumption); (case g1 => exact hTb.mono (fun p hp => by (with_reducible (repeat (first | assumption | exact List.mem_cons_self | apply List.mem_cons_of_mem | apply List.mem_append_right))))); (case g2 => exact hGs.mono (fun p hp => by (with_reducible (repeat (first | assumption | exact List.mem_cons_self | apply List.mem_cons_of_mem | apply List.mem_append_right))))); (case g3 => (with_reducible (repeat (first | assumption | exact List.mem_cons_self | apply List.mem_cons_of_mem | apply List.mem_append_right)))); intro r9 tl9 s9 S9 F9 N9 hR9; (obtain ⟨DR, vR, nR, bR, e8, e9, hSR⟩ := hR9); subst e8; subst e9; (rw [List.cons_append] at N9); (try dsimp only)); walk_say "READC")
    | (walk1) | (dsimp only; walk1) | fail "no step")
  rename News g L _ _ => lN
  exact k _ _ _ DR vR nR ⟨by assumption, by assumption, lN, .tail _ (List.mem_append_right _ (.tail _ (List.mem_append_right _ hT))), .tail _ (List.mem_append_right _ (.tail _ (List.mem_append_right _ hG)))⟩ (fun p hp => .tail _ (List.mem_append_right _ (.tail _ (List.mem_append_right _ hp)))) (fun z hz => if_neg hz) (if_pos rfl) (.head _) (hSR.mono fun p hp => .tail _ hp)
end
end Mine
set_option maxHeartbeats 4000000
namespace Mine
theorem fill29 : True := by
  w_top off
  exact True.intro
local macro_rules | `(tactic| k_mem) => `(tactic| ((repeat (first | assumption | exact List.Mem.head _ | apply List.Mem.tail)); done))
section
variable {w : World} {A : Around} {E : Value → Shared → Prop} {g : Heap} {L fa : Addr} {cdv : Value} {s₀ s : Shared} {oT oG : Obj} {m : Str → Option Value} {nw : List (Addr × Obj)} {scope : Scope} {st : Stmt} {Q : Flow → Shared → Prop}
theorem law_s9 (hst : some st = (dLaw.body.drop 8).head?) (hsc : scope = dLaw.scope) (H : Here A g L 6) (hh : A.handled = none) (Gd : Gnd w g) (ls : LS s₀ g L m oT oG nw s) {ga Dst : Addr} {gs : List G} {e : G} {s1 s2 s3 : Step4} {v1 v2 v3 : Value} {nst : Nat} (hm : m (Str.ofString "steps") = some (.ref Dst)) (hst9 : (Dst, listOf (List.toArray [v1, v2, v3]) nst) ∈ nw) (h1 : StepIs nw s1 v1) (h2 : StepIs nw s2 v2) (h3 : StepIs nw s3 v3) (hoG : oG.data = .cell (some (.ref ga))) (hGs : Games nw ga gs) (he : gs[4]? = some e)
    (hfit : ∀ p ∈ [s1, s2, s3], fitsG p.1 p.2.1 p.2.2.1 p.2.2.2 e)
    (k : ∀ s' nw', LS s₀ g L m oT oG nw' s' → (∀ p ∈ nw, p ∈ nw') → Q .next s') : wpAny (model Prg w) A (exec st (envOfC (Str.ofString "law") scope L fa cdv)) Q E s := by
  (conv at hsc => rhs; whnf)
  (conv at hst => rhs; whnf)
  obtain rfl := Option.some.inj hst
  subst hsc
  obtain ⟨S, F, N, hT, hG⟩ := ls
  have X := Gd.x
  obtain ⟨loose, mean, mg, mb, T⟩ := Gd.t
  obtain ⟨gvs, gn, hga, hgat⟩ := hGs
  obtain ⟨ae, hae, hE⟩ := hgat 4 e he
  have hg3 : ∀ {i : Nat} {v : Value}, [v1, v2, v3][i]? = some v → ∃ p, p ∈ [s1, s2, s3] ∧ StepIs nw p v := fun {i v} hv => by
    match i, hv with
    | 0, hv => exact ⟨s1, .head _, Option.some.inj hv ▸ h1⟩
    | 1, hv => exact ⟨s2, .tail _ (.head _), Option.some.inj hv ▸ h2⟩
    | 2, hv => exact ⟨s3, .tail _ (.tail _ (.head _)), Option.some.inj hv ▸ h3⟩
    | i + 3, hv => cases hv
  clear hgat
  repeat' (first
    | (k_unfold; (try dsimp only))
    | ((with_reducible show wpAny _ _ (eval (Expr.Call (Expr.Name _ _) _ [] _) _) _ _ _); refine Call_ ?_)
    | ((with_reducible show wpAny _ _ (eval (Expr.Name _ _) _) _ _ _); k_dflt (refine' nameX_L ?nmF ?nmv ?_ ?nma ?nmb; (case nmF => k_asm); (case nma => rfl); (case nmb => rfl); (case nmv => first | rfl | assumption); k_whole); walk_say "NAMEH")
    | ((fail_if_success (with_reducible show wpAny _ _ (eval (Expr.ListComp _ _ _ _) _) _ _ _)); walk1) | ((fail_if_success (with_reducible show wpAny _ _ (eval (Expr.ListComp _ _ _ _) _) _ _ _)); dsimp only; walk1) | fail "no step")
  refine' compT (ps := [(Str.ofString "up", (⟨215, 33, 215, 35⟩ : Pos)), (Str.ofString "x", ⟨215, 37, 215, 38⟩), (Str.ofString "y", ⟨215, 40, 215, 41⟩), (Str.ofString "z", ⟨215, 43, 215, 44⟩)]) (a := Dst) (va := [v1, v2, v3]) (na := nst) (fun i zs nx => (∀ p ∈ nw, p ∈ nx) ∧ zs = []) hh ?clos ?cell ?kind ?names ?psl (by k_asm) (by k_asm) ?sz ?it1 ?hf1 ?hR ?hsrc ?turn ?ret
  case clos => rfl
  case cell => decide
  case kind => rfl
  case names => decide
  case psl => decide
  case sz => exact Nat.le_of_ble_eq_true rfl
  case it1 =>
    intro Q' k1
    repeat' (first
      | (k_unfold; (try dsimp only))
      | ((with_reducible show wpAny _ _ (eval (Expr.Call (Expr.Name _ _) _ [] _) _) _ _ _); refine Call_ ?_)
      | ((with_reducible show wpAny _ _ (eval (Expr.Name _ _) _) _ _ _); k_dflt (refine' nameX_L ?nmF ?nmv ?_ ?nma ?nmb; (case nmF => k_asm); (case nma => rfl); (case nmb => rfl); (case nmv => first | rfl | assumption); k_whole); walk_say "NAMEH")
      | (walk1) | (dsimp only; walk1) | fail "no step")
    exact k1 _
  case hf1 => intro _; rfl
  case hR => exact ⟨fun _ h => h, rfl⟩
  case hsrc =>
    intro i zs nx hRi
    refine ⟨hRi.1 _ hst9, fun v hv => ?_⟩
    obtain ⟨p, _, a, ax, ay, az, rfl, hm, _⟩ := hg3 hv
    exact ⟨a, _, rfl, hRi.1 _ hm, rfl⟩
  case turn =>
    intro i T' items I oI C oC D mc zs nx h tk hit hT' hRi hI hC F2 N2 off ne
    obtain ⟨p, hp, a, ax, ay, az, e, hm2, hX, hY, hZ⟩ := hg3 hit
    obtain rfl : T' = a := by injection e
    obtain rfl := tup_one N2 (.tail _ (.tail _ (.tail _ hT'))) (.tail _ (.tail _ (.tail _ (hRi.1 _ hm2))))
    have hf := hfit p hp
    have hx0 : updL mc ([(Str.ofString "up", (⟨215, 33, 215, 35⟩ : Pos)), (Str.ofString "x", ⟨215, 37, 215, 38⟩), (Str.ofString "y", ⟨215, 40, 215, 41⟩), (Str.ofString "z", ⟨215, 43, 215, 44⟩)].map (·.1)) [.bool p.1, .ref ax, .ref ay, .ref az] (Str.ofString "up") = some (.bool p.1) := rfl
    have hx1 : updL mc ([(Str.ofString "up", (⟨215, 33, 215, 35⟩ : Pos)), (Str.ofString "x", ⟨215, 37, 215, 38⟩), (Str.ofString "y", ⟨215, 40, 215, 41⟩), (Str.ofString "z", ⟨215, 43, 215, 44⟩)].map (·.1)) [.bool p.1, .ref ax, .ref ay, .ref az] (Str.ofString "x") = some (.ref ax) := rfl
    have hx2 : updL mc ([(Str.ofString "up", (⟨215, 33, 215, 35⟩ : Pos)), (Str.ofString "x", ⟨215, 37, 215, 38⟩), (Str.ofString "y", ⟨215, 40, 215, 41⟩), (Str.ofString "z", ⟨215, 43, 215, 44⟩)].map (·.1)) [.bool p.1, .ref ax, .ref ay, .ref az] (Str.ofString "y") = some (.ref ay) := rfl
    have hx3 : updL mc ([(Str.ofString "up", (⟨215, 33, 215, 35⟩ : Pos)), (Str.ofString "x", ⟨215, 37, 215, 38⟩), (Str.ofString "y", ⟨215, 40, 215, 41⟩), (Str.ofString "z", ⟨215, 43, 215, 44⟩)].map (·.1)) [.bool p.1, .ref ax, .ref ay, .ref az] (Str.ofString "z") = some (.ref az) := rfl
    have hG2 := hRi.1 _ hG
    have hga2 := hRi.1 _ hga
    have hX := hX.mono hRi.1
    have hY := hY.mono hRi.1
    have hZ := hZ.mono hRi.1
    have hE := hE.mono hRi.1
    refine wpAny_tests_one ?_
    repeat' (first
      | (k_unfold; (try dsimp only))
      | ((with_reducible show wpAny _ _ (eval (Expr.Call (Expr.Name _ _) _ [] _) _) _ _ _); refine Call_ ?_)
      | ((with_reducible show wpAny _ _ (eval (Expr.Name (Str.ofString "games") _) _) _ _ _); k_dflt (refine kcf_cell (c := L + 1 + 1) (by k_asm) (by rfl) (.tail _ (.tail _ (.tail _ hG2))) hoG ?_); walk_say "NAMEF")
      | ((with_reducible show wpAny _ _ (subscriptTail _ _ (Value.ref ga) (Value.int _ _)) _ _ _); k_dflt (refine' item_litK (vs := gvs) ?k1 ?k2 ?k3 ?k4 ?_ ?k6; (case k1 => exact News.isList (n := gn) (by k_asm) (by (with_reducible (repeat (first | assumption | exact List.mem_cons_self | apply List.mem_cons_of_mem | apply List.mem_append_right))))); (case k2 => omega); (case k3 => omega); (case k4 => assumption); (case k6 => with_unfolding_all rfl); k_whole); walk_say "ITEMG")
      | ((with_reducible show wpAny _ _ (call (Value.ref 181) _ _) _ _ _); k_dflt (refine' Con.use (fits_c _ _ _ _ _ _ _ _ _ _ _ ?g1 ?g2 ?g3 ?g4 hf) ?k1 ?k2 ?k0 ?k3 ?k4 ?k5 ?_; (case k1 => assumption); (case k2 => decide); (case k3 => k_asm); (case k4 => k_asm); (case k5 => assumption); (case k0 => assumption); (case g1 => exact hX.mono (fun p hp => by (with_reducible (repeat (first | assumption | exact List.mem_cons_self | apply List.mem_cons_of_mem | apply List.mem_append_right))))); (case g2 => exact hY.mono (fun p hp => by (with_reducible (repeat (first | assumption | exact List.mem_cons_self | apply List.mem_cons_of_mem | apply List.mem_append_right))))); (case g3 => exact hZ.mono (fun p hp => by (with_reducible (repeat (first | assumption | exact List.mem_cons_self | apply List.mem_cons_of_mem | apply List.mem_append_right))))); (case g4 => exact hE.mono (fun p hp => by (with_reducible (repeat (first | assumption | exact List.mem_cons_self | apply List.mem_cons_of_mem | apply List.mem_append_right))))); intro r9 tl9 s9 S9 F9 N9 hR9; subst hR9; (try dsimp only)); walk_say "FITC")
      | ((fail_if_success (with_reducible show LCg.CompEnd _ _ _ _ _ _ _ _ _ _ _ _ _)); walk1) | ((fail_if_success (with_reducible show LCg.CompEnd _ _ _ _ _ _ _ _ _ _ _ _ _)); dsimp only; walk1) | fail "no step")
    exact ⟨s9.heap, s9.toks, nx, (Same.between (a := { s with heap := h, toks := tk }) S S9).is, F9, fun q hq => N9 q (List.mem_append_right _ hq), off, trivial, hRi⟩
  case ret =>
    intro D h' tk zs nx F5 N5 off5 hR5
    obtain ⟨r1, rfl⟩ := hR5
    (try dsimp only)
    clear F N
    repeat' (first
      | (k_unfold; (try dsimp only))
      | ((with_reducible show wpAny _ _ (eval (Expr.Call (Expr.Name _ _) _ [] _) _) _ _ _); refine Call_ ?_)
      | ((with_reducible show wpAny _ _ (compareOp CmpOp.NotEq (Value.ref _) (Value.ref _)) _ _ _); refine nils_ne (by k_asm) (.tail _ (.head _)) (.head _) (Here.units H) ?_; walk_say "NENIL")
      | (walk1) | (dsimp only; walk1) | fail "no step")
    rename News g L _ _ => lN
    exact k _ _ ⟨S, by assumption, lN, .tail _ (.tail _ (r1 _ hT)), .tail _ (.tail _ (r1 _ hG))⟩ (fun p hp => .tail _ (.tail _ (r1 p hp)))
end
end Mine
set_option maxHeartbeats 4000000
namespace Mine
theorem fill30 : True := by
  w_top off
  exact True.intro
local macro_rules | `(tactic| k_mem) => `(tactic| ((repeat (first | assumption | exact List.Mem.head _ | apply List.Mem.tail)); done))
section
variable {w : World} {A : Around} {E : Value → Shared → Prop} {g : Heap} {L fa : Addr} {cdv : Value} {s₀ s : Shared} {oT oG : Obj} {m : Str → Option Value} {nw : List (Addr × Obj)} {scope : Scope} {st : Stmt} {Q : Flow → Shared → Prop}
theorem law_s10 (hst : some st = (dLaw.body.drop 9).head?) (hsc : scope = dLaw.scope) (H : Here A g L 6) (hh : A.handled = none) (Gd : Gnd w g) (ls : LS s₀ g L m oT oG nw s) {c : List (List Int)} {a tb ga : Addr} {gs parts : List G} {sp : G} (hm : m (Str.ofString "clauses") = some (.ref a)) (hoT : oT.data = .cell (some (.ref tb))) (hoG : oG.data = .cell (some (.ref ga))) (hTb : Tabs nw tb) (hGs : Games nw ga gs) (hcls : ClIs nw c (.ref a)) (hcl : c.length ≤ 100) (hgl : gs.length ≤ 5) (hrl : ∀ r ∈ c, r.length ≤ 100)
    (hparts : partsG gs c = some parts) (hjoin : joinG parts.reverse = some sp)
    (k : ∀ s' m' nw' D, LS s₀ g L m' oT oG nw' s' → (∀ p ∈ nw, p ∈ nw') → (∀ z, z ≠ Str.ofString "spread" → m' z = m z) → m' (Str.ofString "spread") = some (.ref D) → GameIn nw' D sp → Q .next s') : wpAny (model Prg w) A (exec st (envOfC (Str.ofString "law") scope L fa cdv)) Q E s := by
  (conv at hsc => rhs; whnf)
  (conv at hst => rhs; whnf)
  obtain rfl := Option.some.inj hst
  subst hsc
  obtain ⟨S, F, N, hT, hG⟩ := ls
  have X := Gd.x
  obtain ⟨loose, mean, mg, mb, T⟩ := Gd.t
  obtain ⟨p, us, nc, e, hus, hrows⟩ := hcls
  obtain rfl : a = p := by injection e
  repeat' (first
    | (k_unfold; (try dsimp only))
    | ((with_reducible show wpAny _ _ (eval (Expr.Call (Expr.Name _ _) _ [] _) _) _ _ _); refine Call_ ?_)
    | ((with_reducible show wpAny _ _ (eval (Expr.Name (Str.ofString "games") _) (envOfC _ _ _ _ _)) _ _ _); k_dflt (refine' nameX_C (c := L + 1 + 1) (o := oG) ?ncN rfl ?ncm hoG ?_ rfl rfl (by decide); (case ncN => k_asm); (case ncm => (with_reducible (repeat (first | assumption | exact List.mem_cons_self | apply List.mem_cons_of_mem | apply List.mem_append_right)))); k_whole); walk_say "NAMEG")
    | ((with_reducible show wpAny _ _ (eval (Expr.Name (Str.ofString "tables") _) (envOfC _ _ _ _ _)) _ _ _); k_dflt (refine' nameX_C (c := L + 1) (o := oT) ?ncN rfl ?ncm hoT ?_ rfl rfl (by decide); (case ncN => k_asm); (case ncm => (with_reducible (repeat (first | assumption | exact List.mem_cons_self | apply List.mem_cons_of_mem | apply List.mem_append_right)))); k_whole); walk_say "NAMET")
    | ((with_reducible show wpAny _ _ (eval (Expr.Name _ _) _) _ _ _); k_dflt (refine' nameX_L ?nmF ?nmv ?_ ?nma ?nmb; (case nmF => k_asm); (case nma => rfl); (case nmb => rfl); (case nmv => first | rfl | assumption); k_whole); walk_say "NAMEH")
    | ((with_reducible show wpAny _ _ (call (Value.ref 174) _ _) _ _ _); k_dflt (refine' Con.use (spread_c _ _ _ _ _ _ _ _ _ _ _ hus hrows hGs hTb hcl hgl hrl hparts hjoin) ?k1 ?k2 ?k0 ?k3 ?k4 ?k5 ?_; (case k1 => assumption); (case k2 => decide); (case k3 => k_asm); (case k4 => k_asm); (case k5 => assumption); (case k0 => assumption); intro r9 tl9 s9 S9 F9 N9 hR9; (obtain ⟨aS, e9, hAS⟩ := hR9); subst e9; (try dsimp only)); walk_say "SPRC")
    | (walk1) | (dsimp only; walk1) | fail "no step")
  rename News g L _ _ => lN
  exact k _ _ _ aS ⟨by assumption, by assumption, lN, List.mem_append_right _ hT, List.mem_append_right _ hG⟩ (fun p hp => List.mem_append_right _ hp) (fun z hz => if_neg hz) (if_pos rfl) hAS
end
end Mine
set_option maxHeartbeats 4000000
namespace Mine
theorem fill31 : True := by
  w_top off
  exact True.intro
local macro_rules | `(tactic| k_mem) => `(tactic| ((repeat (first | assumption | exact List.Mem.head _ | apply List.Mem.tail)); done))
section
variable {w : World} {A : Around} {E : Value → Shared → Prop} {g : Heap} {L fa : Addr} {cdv : Value} {s₀ s : Shared} {oT oG : Obj} {m : Str → Option Value} {nw : List (Addr × Obj)} {scope : Scope} {st : Stmt} {Q : Flow → Shared → Prop}
theorem law_s11 (hst : some st = (dLaw.body.drop 10).head?) (hsc : scope = dLaw.scope) (H : Here A g L 6) (hh : A.handled = none) (Gd : Gnd w g) (ls : LS s₀ g L m oT oG nw s) {Dst D : Addr} {s3 : Step4} {v1 v2 v3 : Value} {nst : Nat} {sp : G} (hm : m (Str.ofString "steps") = some (.ref Dst)) (hm2 : m (Str.ofString "spread") = some (.ref D)) (hst9 : (Dst, listOf (List.toArray [v1, v2, v3]) nst) ∈ nw) (h3 : StepIs nw s3 v3) (hSp : GameIn nw D sp)
    (hL1 : leastG s3.2.2.2 sp = true) (hL2 : leastG sp s3.2.2.2 = true)
    (k : ∀ s' m', Same s₀ s' → Fr g L s'.heap m' → Q (.ret (.bool true)) s') : wpAny (model Prg w) A (exec st (envOfC (Str.ofString "law") scope L fa cdv)) Q E s := by
  (conv at hsc => rhs; whnf)
  (conv at hst => rhs; whnf)
  obtain rfl := Option.some.inj hst
  subst hsc
  obtain ⟨S, F, N, hT, hG⟩ := ls
  have X := Gd.x
  obtain ⟨loose, mean, mg, mb, T⟩ := Gd.t
  obtain ⟨a3, ax, ay, az, rfl, hs3, hX3, hY3, hZ3⟩ := h3
  repeat' (first
    | (k_unfold; (try dsimp only))
    | ((with_reducible show wpAny _ _ (eval (Expr.Call (Expr.Name _ _) _ [] _) _) _ _ _); refine Call_ ?_)
    | ((with_reducible show wpAny _ _ (eval (Expr.Name _ _) _) _ _ _); k_dflt (refine' nameX_L ?nmF ?nmv ?_ ?nma ?nmb; (case nmF => k_asm); (case nma => rfl); (case nmb => rfl); (case nmv => first | rfl | assumption); k_whole); walk_say "NAMEH")
    | ((with_reducible show wpAny _ _ (subscriptTail _ _ (Value.ref _) (Value.int _ _)) _ _ _); k_dflt (refine' item_litK ?k1 ?k2 ?k3 ?k4 ?_ ?k6; (case k1 => exact News.isList (by k_asm) (by k_mem)); (case k2 => first | assumption | decide | omega); (case k3 => first | assumption | decide | omega); (case k4 => first | rfl | assumption); (case k6 => with_unfolding_all rfl); k_whole); walk_say "ITEM")
    | ((with_reducible show wpAny _ _ (call (Value.ref 160) _ _) _ _ _); k_dflt (refine' Con.use (least_c _ _ _ _ _ _ ?g1 ?g2) ?k1 ?k2 ?k0 ?k3 ?k4 ?k5 ?_; (case k1 => assumption); (case k2 => decide); (case k3 => k_asm); (case k4 => k_asm); (case k5 => assumption); (case k0 => assumption); (case g1 => first | exact hZ3 | exact hSp); (case g2 => first | exact hSp | exact hZ3); intro r9 tl9 s9 S9 F9 N9 hR9; (obtain ⟨e8, e9⟩ := hR9); subst e8; (first | rw [hL1] at e9 | rw [hL2] at e9); subst e9; (rw [List.nil_append] at N9); (try dsimp only)); walk_say "LEAC")
    | (walk1) | (dsimp only; walk1) | fail "no step")
  exact k _ _ (by assumption) (by assumption)
end
end Mine
set_option maxHeartbeats 4000000
namespace Mine
/-- what is read, as a term: v, one of the four; m, what is made of two -/
inductive Tm where
  | v : Nat → Tm
  | m : Int → Tm → Tm → Tm
def pick4 {α : Type} (a b c d : α) : Nat → α
  | 0 => a
  | 1 => b
  | 2 => c
  | _ => d
def Tm.g (a b c d : G) : Tm → G
  | .v n => pick4 a b c d n
  | .m k x y => madeG k (x.g a b c d) (y.g a b c d)
def Tm.b (a b c d : Bool) : Tm → Bool
  | .v n => pick4 a b c d n
  | .m k x y => if k = 18 then (x.b a b c d || y.b a b c d) else (x.b a b c d && y.b a b c d)
theorem pick_all {α : Type} {P : α → Prop} {a b c d : α} (ha : P a) (hb : P b) (hc : P c) (hd : P d) : ∀ n, P (pick4 a b c d n)
  | 0 => ha
  | 1 => hb
  | 2 => hc
  | _ + 3 => hd
theorem pick_map {α β : Type} (f : α → β) (a b c d : α) : ∀ n, f (pick4 a b c d n) = pick4 (f a) (f b) (f c) (f d) n
  | 0 => rfl
  | 1 => rfl
  | 2 => rfl
  | _ + 3 => rfl
theorem Tm.inS {a b c d : G} (ha : InS a) (hb : InS b) (hc : InS c) (hd : InS d) (t : Tm) : InS (t.g a b c d) := by
  induction t with
  | v n => exact pick_all ha hb hc hd n
  | m k x y hx hy => exact hx.made hy
theorem Tm.bit {a b c d : G} (ha : InS a) (hb : InS b) (hc : InS c) (hd : InS d) {i : Nat} (hi : i < 8) (t : Tm) : bitG (t.g a b c d) i = t.b (bitG a i) (bitG b i) (bitG c i) (bitG d i) := by
  induction t with
  | v n => exact pick_map (fun x => bitG x i) a b c d n
  | m k x y hx hy =>
    have qx := Tm.inS ha hb hc hd x
    have qy := Tm.inS ha hb hc hd y
    show bitG (madeG k (x.g a b c d) (y.g a b c d)) i = if k = 18 then _ else _
    by_cases hk : k = 18
    · subst hk
      rw [if_pos rfl, bit_or qx qy hi, hx, hy]
    · rw [if_neg hk, bit_and hk qx qy hi, hx, hy]
abbrev TS := List (Sum Tm Int) × List (Int × Tm × Tm)
def rdT1 (st : TS) (k : Int) : Option TS :=
  if 256 ≤ k then (if (k - 256).toNat < 4 then some (.inl (.v (k - 256).toNat) :: st.1, st.2) else none)
  else if k = 8 then (match st.1 with | .inl y :: .inr s :: .inl x :: r => some (.inl (.m s x y) :: r, (s, x, y) :: st.2) | _ => none)
  else if k = 7 then some st else some (.inr k :: st.1, st.2)
def rdT : List Int → TS → Option TS
  | [], st => some st
  | k :: r, st => (rdT1 st k).bind (rdT r)
section
variable (a b c d e : G)
def up1 (s : Sum Tm Int) : Sum G Int := match s with | .inl t => .inl (t.g a b c d) | .inr k => .inr k
def up2 (p : Int × Tm × Tm) : Step4 := (p.1 == 18, p.2.1.g a b c d, p.2.2.g a b c d, madeG p.1 (p.2.1.g a b c d) (p.2.2.g a b c d))
def upS (st : TS) : List (Sum G Int) × List Step4 := (st.1.map (up1 a b c d), st.2.map (up2 a b c d))
theorem get5 {n : Nat} (h : n < 4) : [a, b, c, d, e][n]? = some (pick4 a b c d n) := by
  match n, h with
  | 0, _ => rfl
  | 1, _ => rfl
  | 2, _ => rfl
  | 3, _ => rfl
theorem rd_one {st st' : TS} {k : Int} (h : rdT1 st k = some st') : rdOne [a, b, c, d, e] (upS a b c d st) k = some (upS a b c d st') := by
  unfold rdT1 at h
  unfold rdOne
  by_cases h1 : 256 ≤ k
  · rw [if_pos h1] at h ⊢
    by_cases h2 : (k - 256).toNat < 4
    · rw [if_pos h2] at h
      obtain rfl := Option.some.inj h
      rw [get5 a b c d e h2]
      rfl
    · rw [if_neg h2] at h
      cases h
  rw [if_neg h1] at h ⊢
  by_cases h2 : k = 8
  · rw [if_pos h2] at h ⊢
    obtain ⟨st1, st2⟩ := st
    dsimp only at h
    split at h
    · rename_i y s x r
      obtain rfl := Option.some.inj h
      rfl
    · cases h
  rw [if_neg h2] at h ⊢
  by_cases h3 : k = 7
  · rw [if_pos h3] at h ⊢
    obtain rfl := Option.some.inj h
    rfl
  · rw [if_neg h3] at h ⊢
    obtain rfl := Option.some.inj h
    rfl
theorem rd_up : ∀ (l : List Int) (st st' : TS), rdT l st = some st' → rdAll [a, b, c, d, e] l (upS a b c d st) = some (upS a b c d st')
  | [], st, st', h => by
    obtain rfl := Option.some.inj h
    rfl
  | k :: r, st, st', h => by
    unfold rdT at h
    obtain ⟨s1, h1, h2⟩ := Option.bind_eq_some_iff.mp h
    unfold rdAll
    rw [rd_one a b c d e h1]
    exact rd_up r s1 st' h2
def pickT (k : Int) : Option Tm := if 0 ≤ k ∧ k.toNat < 4 then some (.v k.toNat) else none
def partFromT (g : Tm) : List Int → Option Tm
  | [] => some g
  | k :: r => (pickT k).bind fun x => partFromT (.m 0 g x) r
def partT : List Int → Option Tm
  | [] => none
  | k :: r => (pickT k).bind fun x => partFromT x r
def partsT : List (List Int) → Option (List Tm)
  | [] => some []
  | c :: r => (partT c).bind fun x => (partsT r).map (x :: ·)
def joinT : List Tm → Option Tm
  | [] => none
  | x :: r => some (r.foldl (Tm.m 18) x)
theorem pick_up {k : Int} {t : Tm} (h : pickT k = some t) : pickG [a, b, c, d, e] k = some (t.g a b c d) := by
  unfold pickT at h
  split at h
  · rename_i hk
    obtain rfl := Option.some.inj h
    unfold pickG
    rw [if_pos hk.1, get5 a b c d e hk.2]
    rfl
  · cases h
theorem partFrom_up : ∀ (l : List Int) (t u : Tm), partFromT t l = some u → partFrom [a, b, c, d, e] (t.g a b c d) l = some (u.g a b c d)
  | [], t, u, h => by
    obtain rfl := Option.some.inj h
    rfl
  | k :: r, t, u, h => by
    unfold partFromT at h
    obtain ⟨x, h1, h2⟩ := Option.bind_eq_some_iff.mp h
    unfold partFrom
    rw [pick_up a b c d e h1]
    exact partFrom_up r _ u h2
theorem part_up {l : List Int} {u : Tm} (h : partT l = some u) : partG [a, b, c, d, e] l = some (u.g a b c d) := by
  cases l with
  | nil => cases h
  | cons k r =>
    unfold partT at h
    obtain ⟨x, h1, h2⟩ := Option.bind_eq_some_iff.mp h
    show (pickG [a, b, c, d, e] k).bind (fun x => partFrom [a, b, c, d, e] x r) = _
    rw [pick_up a b c d e h1]
    exact partFrom_up a b c d e r x u h2
theorem parts_up : ∀ (l : List (List Int)) (us : List Tm), partsT l = some us → partsG [a, b, c, d, e] l = some (us.map (Tm.g a b c d))
  | [], us, h => by
    obtain rfl := Option.some.inj h
    rfl
  | k :: r, us, h => by
    unfold partsT at h
    obtain ⟨x, h1, h2⟩ := Option.bind_eq_some_iff.mp h
    obtain ⟨vs, h3, rfl⟩ := Option.map_eq_some_iff.mp h2
    unfold partsG
    rw [part_up a b c d e h1, parts_up r vs h3]
    rfl
theorem fold_up : ∀ (r : List Tm) (x : Tm), (r.map (Tm.g a b c d)).foldl (madeG 18) (x.g a b c d) = (r.foldl (Tm.m 18) x).g a b c d
  | [], _ => rfl
  | y :: r, x => fold_up r (.m 18 x y)
theorem join_up {l : List Tm} {u : Tm} (h : joinT l = some u) : joinG (l.map (Tm.g a b c d)) = some (u.g a b c d) := by
  cases l with
  | nil => cases h
  | cons x r =>
    obtain rfl := Option.some.inj h
    exact congrArg some (fold_up a b c d r x)
end
def bools : List Bool := [true, false]
def sameT (t u : Tm) : Bool := bools.all fun a => bools.all fun b => bools.all fun c => bools.all fun d => t.b a b c d == u.b a b c d
theorem same_T {t u : Tm} (h : sameT t u = true) (a b c d : Bool) : t.b a b c d = u.b a b c d := by
  have m : ∀ x : Bool, x ∈ bools := fun x => by cases x <;> simp [bools]
  exact eq_of_beq (List.all_eq_true.mp (List.all_eq_true.mp (List.all_eq_true.mp (List.all_eq_true.mp h a (m a)) b (m b)) c (m c)) d (m d))
/-- the text's signs as lists: quicker to tell apart -/
def tokL : List (List Nat) := [[33], [33, 61], [37], [37, 61], [38], [38, 61], [40], [41], [42], [42, 42], [42, 42, 61], [42, 61], [43], [43, 61], [44], [45], [45, 61], [45, 62], [46], [46, 46, 46], [47], [47, 47], [47, 47, 61], [47, 61], [58], [58, 61], [59], [60], [60, 60], [60, 60, 61], [60, 61], [61], [61, 61], [62], [62, 61], [62, 62], [62, 62, 61], [64], [64, 61], [91], [93], [94], [94, 61], [123], [124], [124, 61], [125], [126]]
theorem tokL_eq : tokL = tokKeys.map fun k => k.1.cps.toList := by rfl
def inL (l : List Nat) : Bool := tokL.any fun k => l == k
theorem str_beq (x y : Str) : decide (x = y) = (x.cps.toList == y.cps.toList) := by
  rw [Bool.eq_iff_iff, decide_eq_true_iff, beq_iff_eq]
  constructor
  · rintro rfl
    rfl
  · intro h
    cases x
    cases y
    exact congrArg Str.mk (Array.toList_inj.mp h)
theorem inTok_eq (x : Str) : inTok x = inL x.cps.toList := by
  unfold inTok inL
  rw [tokL_eq, List.any_map]
  congr 1
  funext k
  exact str_beq x k.1
theorem one_eq (x : Str) (c : Nat) : (x == (⟨#[c]⟩ : Str)) = (x.cps.toList == [c]) := by
  rw [Bool.eq_iff_iff, beq_iff_eq, ← decide_eq_true_iff (p := x = ⟨#[c]⟩), str_beq]
def symF (x : Str) : Bool := decide (x.cps.size ≤ 100) && (List.range x.cps.size).all fun k => match x.cps[k]? with
  | none => false
  | some c => alphas.contains c && ((decide (97 ≤ c) && decide (c < 101)) || ((inL (cut x k 3).cps.toList && (cut x k 3).cps.toList == [c] && decide (k + 1 = x.cps.size)) || (!inL (cut x k 3).cps.toList && !inL (cut x k 2).cps.toList && (cut x k 1).cps.toList == [c])))
theorem sym_F (x : Str) : symOk x = symF x := by
  unfold symOk symF
  simp only [inTok_eq, one_eq]
  all_goals rfl
/-- all that is wanted of one formula, but for what is made of games -/
def endOk (x : Str) (c : List (List Int)) : Bool :=
  symF x && ((x.cps.toList.map codeOf).all fun k => !(k == 0)) && Nat.ble (x.cps.toList.map codeOf).length 1000 && Nat.ble c.length 100 && (c.all fun r => Nat.ble r.length 100) &&
  match rdT (x.cps.toList.map codeOf) ([], []) with
  | some (_, [p3, _, _]) => (match (partsT c).bind fun l => joinT l.reverse with
    | some u => sameT (.m p3.1 p3.2.1 p3.2.2) u
    | none => false)
  | _ => false
def endsOk (p : TC) : Bool := match p with
  | ([x], [c]) => endOk x c
  | _ => false
theorem ends_ok : (ends.all endsOk) = true := by decide +kernel
theorem pure_law {a b c d e : G} (ha : InS a) (hb : InS b) (hc : InS c) (hd : InS d) (he : InS e) {x : Str} {cl : List (List Int)} (h : (([x], [cl]) : TC) ∈ ends) :
    ∃ (fin : List (Sum G Int) × List Step4) (s1 s2 s3 : Step4) (parts : List G) (sp : G), symOk x = true ∧ (∀ k ∈ x.cps.toList.map codeOf, k ≠ 0) ∧ (x.cps.toList.map codeOf).length ≤ 1000 ∧ cl.length ≤ 100 ∧ (∀ r ∈ cl, r.length ≤ 100) ∧
      rdAll [a, b, c, d, e] (x.cps.toList.map codeOf) ([], []) = some fin ∧ fin.2 = [s3, s2, s1] ∧ (∀ p ∈ [s1, s2, s3], fitsG p.1 p.2.1 p.2.2.1 p.2.2.2 e) ∧
      partsG [a, b, c, d, e] cl = some parts ∧ joinG parts.reverse = some sp ∧ leastG s3.2.2.2 sp = true ∧ leastG sp s3.2.2.2 = true := by
  have q : endOk x cl = true := List.all_eq_true.mp ends_ok _ h
  unfold endOk at q
  obtain ⟨q, q6⟩ := Bool.and_eq_true_iff.mp q
  obtain ⟨q, q5⟩ := Bool.and_eq_true_iff.mp q
  obtain ⟨q, q4⟩ := Bool.and_eq_true_iff.mp q
  obtain ⟨q, q3⟩ := Bool.and_eq_true_iff.mp q
  obtain ⟨q1, q2⟩ := Bool.and_eq_true_iff.mp q
  split at q6
  · rename_i st p3 p2 p1 hrd
    split at q6
    · rename_i u hu
      obtain ⟨l, hl, hj⟩ := Option.bind_eq_some_iff.mp hu
      have hr := rd_up a b c d e _ _ _ hrd
      have S := fun t : Tm => Tm.inS ha hb hc hd t
      have fit : ∀ p : Int × Tm × Tm, fitsG (up2 a b c d p).1 (up2 a b c d p).2.1 (up2 a b c d p).2.2.1 (up2 a b c d p).2.2.2 e := fun p => fits_all (S _) (S _) he
      have bits : ∀ i, i < 8 → bitG ((Tm.m p3.1 p3.2.1 p3.2.2).g a b c d) i = bitG (u.g a b c d) i := fun i hi => by
        rw [Tm.bit ha hb hc hd hi, Tm.bit ha hb hc hd hi]
        exact same_T q6 _ _ _ _
      refine ⟨_, up2 a b c d p1, up2 a b c d p2, up2 a b c d p3, l.map (Tm.g a b c d), u.g a b c d, (sym_F x).trans q1, fun k hk => ?_, Nat.le_of_ble_eq_true q3, Nat.le_of_ble_eq_true q4, fun r hr => Nat.le_of_ble_eq_true (List.all_eq_true.mp q5 r hr), hr, rfl, fun p hp => ?_, parts_up a b c d e cl l hl, ?_, ?_, ?_⟩
      · have z := List.all_eq_true.mp q2 k hk
        intro e0
        rw [e0] at z
        exact absurd z (by decide)
      · rcases List.mem_cons.mp hp with rfl | hp
        · exact fit _
        rcases List.mem_cons.mp hp with rfl | hp
        · exact fit _
        rcases List.mem_cons.mp hp with rfl | hp
        · exact fit _
        · cases hp
      · rw [← List.map_reverse]
        exact join_up a b c d hj
      · exact same_least (S (.m p3.1 p3.2.1 p3.2.2)) (S u) bits
      · exact same_least (S u) (S (.m p3.1 p3.2.1 p3.2.2)) fun i hi => (bits i hi).symm
    · cases q6
  · cases q6
end Mine
set_option maxHeartbeats 4000000
namespace Mine
theorem StepIs.mono {nw nw' : List (Addr × Obj)} {p : Step4} {v : Value} (h : StepIs nw p v) (hs : ∀ q ∈ nw, q ∈ nw') : StepIs nw' p v := by
  obtain ⟨a, ax, ay, az, e, hm, hx, hy, hz⟩ := h
  exact ⟨a, ax, ay, az, e, hs _ hm, hx.mono hs, hy.mono hs, hz.mono hs⟩
theorem steps3 {nw : List (Addr × Obj)} {s1 s2 s3 : Step4} {vs : List Value} (h : StepsAre nw [s3, s2, s1] vs) : ∃ v1 v2 v3, vs = [v1, v2, v3] ∧ StepIs nw s1 v1 ∧ StepIs nw s2 v2 ∧ StepIs nw s3 v3 := by
  obtain ⟨us, v3, rfl, h3, us2, v2, rfl, h2, us1, v1, rfl, h1, e⟩ := h
  obtain rfl : us1 = [] := e
  exact ⟨v1, v2, v3, rfl, h1, h2, h3⟩
theorem mod_in (n : Int) : n.fmod 16 ∈ R16 := by
  have h0 : 0 ≤ n.fmod 16 := Int.fmod_nonneg_of_pos _ (by decide)
  have h1 : n.fmod 16 < 16 := Int.fmod_lt_of_pos _ (by decide)
  have e : R16 = (List.range 16).map (fun i : Nat => (i : Int)) := by decide
  rw [e]
  exact List.mem_map.mpr ⟨(n.fmod 16).toNat, List.mem_range.mpr (by omega), Int.toNat_of_nonneg h0⟩
theorem pair_in (n : Int) : InS (mkG (pairOf n).1 (pairOf n).2) := ⟨_, mod_in _, _, mod_in _, rfl⟩
theorem law_all : PySem.Challenge.rw_to0017_01.Holds := by
  refine' law_of ?hbd ?hsc ?hbody
  case' hbd => (conv => rhs; whnf)
  case' hsc => (conv => rhs; whnf)
  intro w A g L fa lS cdv s oG oT vs ns H hh S F N dG dT Gd hls hi hlen Q hQ
  refine wpAny_execs_cons (law_s1 rfl rfl H hh Gd ⟨S, F, N, .tail _ (.head _), .head _⟩ rfl hls hi hlen fun s1 m1 nw1 lN n0 n1 n2 n3 n4 n5 t0 t1 t2 t3 t4 t5 ls1 hm1 hn1 => ?_)
  dsimp only
  refine wpAny_execs_cons (law_s2 rfl rfl H hh Gd ls1 hm1 hn1 fun s2 m2 nw2 D2 ys2 ls2 sub2 keep2 hm2 hd2 hr2 => ?_)
  dsimp only
  refine wpAny_execs_cons (law_s3 rfl rfl H hh Gd ls2 ((keep2 _ (by decide)).trans hm1) (sub2 _ hn1) fun s3 m3 nw3 D3 ys3 ls3 sub3 keep3 hm3 hd3 hr3 => ?_)
  dsimp only
  refine wpAny_execs_cons (law_s4 rfl rfl H hh Gd ls3 hm3 ((keep3 _ (by decide)).trans hm2) hd3 (sub3 _ hd2) hr3 (hr2.imp fun _ _ h => h.mono sub3) fun s4 ls4 => ?_)
  dsimp only
  refine wpAny_execs_cons (law_s5 rfl rfl H hh Gd ls4 dT fun s5 oT tb nw5 ls5 hoT hTb sub5 => ?_)
  dsimp only
  refine wpAny_execs_cons (law_s6 rfl rfl H hh Gd ls5 dG hoT hTb hm3 (sub5 _ hd3 rfl) (hr3.imp fun _ _ h => h.sub sub5) fun s6 oG ga nw6 ls6 hoG hGs hTb6 sub6 => ?_)
  dsimp only
  refine wpAny_execs_cons (law_s7 rfl rfl H hh Gd ls6 ((keep3 _ (by decide)).trans ((keep2 _ (by decide)).trans hm1)) (sub6 _ (sub5 _ (sub3 _ (sub2 _ hn1)) rfl) rfl) fun s7 m7 nw7 x c t a ls7 sub7 hmt hmc hcl hend => ?_)
  dsimp only
  obtain ⟨fin, p1, p2, p3, parts, sp, hsym, hz, hxl, hcl1, hcl2, hrun, hfin, hfit, hparts, hjoin, hL1, hL2⟩ := pure_law (pair_in n0) (pair_in n1) (pair_in n2) (pair_in n3) (pair_in n4) hend
  have hGs7 := hGs.mono sub7
  have hTb7 := hTb6.mono sub7
  refine wpAny_execs_cons (law_s8 rfl rfl H hh Gd ls7 hmt hsym hoT hoG hTb7 hGs7 hz hxl (Nat.le_refl 5) hrun fun s8 m8 nw8 D8 vs8 n8 ls8 sub8 keep8 hm8 hd8 hs8 => ?_)
  dsimp only
  rw [hfin] at hs8
  obtain ⟨v1, v2, v3, rfl, hv1, hv2, hv3⟩ := steps3 hs8
  refine wpAny_execs_cons (law_s9 rfl rfl H hh Gd ls8 hm8 hd8 hv1 hv2 hv3 hoG (hGs7.mono sub8) rfl hfit fun s9 nw9 ls9 sub9 => ?_)
  dsimp only
  refine wpAny_execs_cons (law_s10 rfl rfl H hh Gd ls9 ((keep8 _ (by decide)).trans hmc) hoT hoG ((hTb7.mono sub8).mono sub9) ((hGs7.mono sub8).mono sub9) ((hcl.mono sub8).mono sub9) hcl1 (Nat.le_refl 5) hcl2 hparts hjoin fun s10 m10 nw10 D10 ls10 sub10 keep10 hm10 hsp => ?_)
  dsimp only
  refine wpAny_execs_cons (law_s11 rfl rfl H hh Gd ls10 ((keep10 _ (by decide)).trans hm8) hm10 (sub10 _ (sub9 _ hd8)) ((hv3.mono sub9).mono sub10) hsp hL1 hL2 fun s11 m11 S11 F11 => ?_)
  exact hQ _ _ S11 F11
end Mine
theorem PySem.Challenge.cw_to0017_01_holds : PySem.Challenge.rw_to0017_01.Holds := by
  exact Mine.law_all
