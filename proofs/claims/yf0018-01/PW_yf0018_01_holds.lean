import PyProof.Rows.All
import Wide.All
import OpenK.AllK
import Wide.FinOn
import PySem.Challenge.RW_yf0018_01
set_option Elab.async false

section
open PySem PySem.W PyProof.Rows
set_option Elab.async false
namespace Mine
/-- the text, and what is seen of it -/
noncomputable abbrev P0 : Program := PySem.Challenge.pw_yf0018_01
noncomputable def v0 : Program := view P0 [74]
noncomputable def argsAt (i : Nat) : Arguments := match P0.main.body[i]? with
  | some (.FunctionDef _ a _ _ _ _ _ _ _ _) => a
  | _ => default
noncomputable def bodyAt (i : Nat) : List Stmt := match P0.main.body[i]? with
  | some (.FunctionDef _ _ b _ _ _ _ _ _ _) => b
  | _ => []
noncomputable def scopeAt (i : Nat) : Scope := match P0.main.body[i]? with
  | some (.FunctionDef _ _ _ _ _ _ s _ _ _) => s
  | _ => default
noncomputable def fnO (i : Nat) (n m : String) (t c : Nat) : Obj := { cls := .type "function", data := .func { name := Str.ofString n, qualname := Str.ofString n, params := argsAt i, body := .stmts (bodyAt i), scope := scopeAt i, globals := 3, closure := [], defaults := .none, kwdefaults := .none, pyModule := .str (Str.ofString m) t, code := .ref c } }
noncomputable def ent (P : Params) (k : String) (t : Nat) (v : Value) : DictEntry := { hash := PyData.keyHash P (Str.ofString k), key := .str (Str.ofString k) t, val := v }
noncomputable def mainO (P : Params) : Obj := { cls := .type "dict", data := .dict #[ent P "__name__" 165 (.str (Str.ofString "law_yf0018_01") 485), ent P "__doc__" 166 (.none), ent P "__package__" 167 (.none), ent P "__loader__" 168 (.builtin "__main__.__loader__#opaque"), ent P "__spec__" 169 (.none), ent P "__annotations__" 170 (.ref 6), ent P "__builtins__" 171 (.ref 4), ent P "__file__" 173 (.str (Str.ofString "/claim/cut.py") 172), ent P "__cached__" 174 (.none), ent P "ENDMARKER" 190 (.int 0 189), ent P "LPAR" 192 (.int 7 191), ent P "RPAR" 194 (.int 8 193), ent P "LSQB" 196 (.int 9 195), ent P "RSQB" 198 (.int 10 197), ent P "COLON" 200 (.int 11 199), ent P "COMMA" 202 (.int 12 201), ent P "SEMI" 204 (.int 13 203), ent P "PLUS" 206 (.int 14 205), ent P "MINUS" 208 (.int 15 207), ent P "STAR" 210 (.int 16 209), ent P "SLASH" 212 (.int 17 211), ent P "VBAR" 214 (.int 18 213), ent P "AMPER" 216 (.int 19 215), ent P "LESS" 218 (.int 20 217), ent P "GREATER" 220 (.int 21 219), ent P "EQUAL" 222 (.int 22 221), ent P "DOT" 224 (.int 23 223), ent P "PERCENT" 226 (.int 24 225), ent P "LBRACE" 228 (.int 25 227), ent P "RBRACE" 230 (.int 26 229), ent P "EQEQUAL" 232 (.int 27 231), ent P "NOTEQUAL" 234 (.int 28 233), ent P "LESSEQUAL" 236 (.int 29 235), ent P "GREATEREQUAL" 238 (.int 30 237), ent P "TILDE" 240 (.int 31 239), ent P "CIRCUMFLEX" 242 (.int 32 241), ent P "LEFTSHIFT" 244 (.int 33 243), ent P "RIGHTSHIFT" 246 (.int 34 245), ent P "DOUBLESTAR" 248 (.int 35 247), ent P "PLUSEQUAL" 250 (.int 36 249), ent P "MINEQUAL" 252 (.int 37 251), ent P "STAREQUAL" 254 (.int 38 253), ent P "SLASHEQUAL" 256 (.int 39 255), ent P "PERCENTEQUAL" 258 (.int 40 257), ent P "AMPEREQUAL" 260 (.int 41 259), ent P "VBAREQUAL" 262 (.int 42 261), ent P "CIRCUMFLEXEQUAL" 264 (.int 43 263), ent P "LEFTSHIFTEQUAL" 266 (.int 44 265), ent P "RIGHTSHIFTEQUAL" 268 (.int 45 267), ent P "DOUBLESTAREQUAL" 270 (.int 46 269), ent P "DOUBLESLASH" 272 (.int 47 271), ent P "DOUBLESLASHEQUAL" 274 (.int 48 273), ent P "AT" 276 (.int 49 275), ent P "ATEQUAL" 278 (.int 50 277), ent P "RARROW" 280 (.int 51 279), ent P "ELLIPSIS" 282 (.int 52 281), ent P "COLONEQUAL" 284 (.int 53 283), ent P "EXCLAMATION" 286 (.int 54 285), ent P "NT_OFFSET" 288 (.int 256 287), ent P "EXACT_TOKEN_TYPES" 385 (.ref 15), ent P "ISNONTERMINAL" 392 (.ref 24), ent P "ISEOF" 399 (.ref 31), ent P "Int2AP" 411 (.ref 38), ent P "lt" 421 (.ref 45), ent P "le" 429 (.ref 52), ent P "ge" 437 (.ref 59), ent P "gt" 445 (.ref 66), ent P "add" 453 (.ref 73), ent P "and_" 461 (.ref 80), ent P "inv" 468 (.ref 87), ent P "mul" 476 (.ref 94), ent P "or_" 484 (.ref 101), ent P "_law_formula" 492 (.ref 106), ent P "_law_text" 505 (.ref 113), ent P "_law_flat" 511 (.ref 118), ent P "_law_truth" 517 (.ref 123), ent P "_law_matters" 523 (.ref 128), ent P "_law_told" 537 (.ref 135), ent P "_law_weighed" 551 (.ref 142), ent P "law" 557 (.ref 147)] 80 }
noncomputable def tokO (P : Params) : Obj := { cls := .type "dict", data := .dict #[ent P "!" 289 (.int 54 285), ent P "!=" 291 (.int 28 233), ent P "%" 293 (.int 24 225), ent P "%=" 295 (.int 40 257), ent P "&" 297 (.int 19 215), ent P "&=" 299 (.int 41 259), ent P "(" 301 (.int 7 191), ent P ")" 303 (.int 8 193), ent P "*" 305 (.int 16 209), ent P "**" 307 (.int 35 247), ent P "**=" 309 (.int 46 269), ent P "*=" 311 (.int 38 253), ent P "+" 313 (.int 14 205), ent P "+=" 315 (.int 36 249), ent P "," 317 (.int 12 201), ent P "-" 319 (.int 15 207), ent P "-=" 321 (.int 37 251), ent P "->" 323 (.int 51 279), ent P "." 325 (.int 23 223), ent P "..." 327 (.int 52 281), ent P "/" 329 (.int 17 211), ent P "//" 331 (.int 47 271), ent P "//=" 333 (.int 48 273), ent P "/=" 335 (.int 39 255), ent P ":" 337 (.int 11 199), ent P ":=" 339 (.int 53 283), ent P ";" 341 (.int 13 203), ent P "<" 343 (.int 20 217), ent P "<<" 345 (.int 33 243), ent P "<<=" 347 (.int 44 265), ent P "<=" 349 (.int 29 235), ent P "=" 351 (.int 22 221), ent P "==" 353 (.int 27 231), ent P ">" 355 (.int 21 219), ent P ">=" 357 (.int 30 237), ent P ">>" 358 (.int 34 245), ent P ">>=" 359 (.int 45 267), ent P "@" 360 (.int 49 275), ent P "@=" 361 (.int 50 277), ent P "[" 362 (.int 9 195), ent P "]" 363 (.int 10 197), ent P "^" 364 (.int 32 241), ent P "^=" 365 (.int 43 263), ent P "{" 366 (.int 25 227), ent P "|" 367 (.int 18 213), ent P "|=" 368 (.int 42 261), ent P "}" 369 (.int 26 229), ent P "~" 370 (.int 31 239)] 48 }
noncomputable def code23 : Obj := { cls := .type "code", data := .fields #[.str (Str.ofString "ISNONTERMINAL") 386, .str (Str.ofString "ISNONTERMINAL") 387, .str (Str.ofString "/claim/cut.py") 388, .int 53 0, .int 1 0, .int 0 0, .int 0 0, .int 3 0, .ref 18, .bool true, .int 181 0, .ref 19, .none, .ref 20, .ref 21, .ref 22, .int 390 0, .int 53 0, .str (Str.ofString "/claim/cut.py") 391] }
noncomputable def code30 : Obj := { cls := .type "code", data := .fields #[.str (Str.ofString "ISEOF") 393, .str (Str.ofString "ISEOF") 394, .str (Str.ofString "/claim/cut.py") 395, .int 55 0, .int 1 0, .int 0 0, .int 0 0, .int 3 0, .ref 25, .bool true, .int 181 0, .ref 26, .none, .ref 27, .ref 28, .ref 29, .int 397 0, .int 55 0, .str (Str.ofString "/claim/cut.py") 398] }
noncomputable def code37 : Obj := { cls := .type "code", data := .fields #[.str (Str.ofString "Int2AP") 402, .str (Str.ofString "Int2AP") 403, .str (Str.ofString "/claim/cut.py") 404, .int 58 0, .int 1 0, .int 0 0, .int 0 0, .int 3 0, .ref 32, .bool true, .int 181 0, .ref 33, .none, .ref 34, .ref 35, .ref 36, .int 409 0, .int 58 0, .str (Str.ofString "/claim/cut.py") 410] }
noncomputable def code44 : Obj := { cls := .type "code", data := .fields #[.str (Str.ofString "lt") 414, .str (Str.ofString "lt") 415, .str (Str.ofString "/claim/cut.py") 416, .int 67 0, .int 2 0, .int 0 0, .int 0 0, .int 3 0, .ref 39, .bool true, .int 181 0, .ref 40, .none, .ref 41, .ref 42, .ref 43, .int 419 0, .int 67 0, .str (Str.ofString "/claim/cut.py") 420] }
noncomputable def code51 : Obj := { cls := .type "code", data := .fields #[.str (Str.ofString "le") 422, .str (Str.ofString "le") 423, .str (Str.ofString "/claim/cut.py") 424, .int 69 0, .int 2 0, .int 0 0, .int 0 0, .int 3 0, .ref 46, .bool true, .int 181 0, .ref 47, .none, .ref 48, .ref 49, .ref 50, .int 427 0, .int 69 0, .str (Str.ofString "/claim/cut.py") 428] }
noncomputable def code58 : Obj := { cls := .type "code", data := .fields #[.str (Str.ofString "ge") 430, .str (Str.ofString "ge") 431, .str (Str.ofString "/claim/cut.py") 432, .int 71 0, .int 2 0, .int 0 0, .int 0 0, .int 3 0, .ref 53, .bool true, .int 181 0, .ref 54, .none, .ref 55, .ref 56, .ref 57, .int 435 0, .int 71 0, .str (Str.ofString "/claim/cut.py") 436] }
noncomputable def code65 : Obj := { cls := .type "code", data := .fields #[.str (Str.ofString "gt") 438, .str (Str.ofString "gt") 439, .str (Str.ofString "/claim/cut.py") 440, .int 73 0, .int 2 0, .int 0 0, .int 0 0, .int 3 0, .ref 60, .bool true, .int 181 0, .ref 61, .none, .ref 62, .ref 63, .ref 64, .int 443 0, .int 73 0, .str (Str.ofString "/claim/cut.py") 444] }
noncomputable def code72 : Obj := { cls := .type "code", data := .fields #[.str (Str.ofString "add") 446, .str (Str.ofString "add") 447, .str (Str.ofString "/claim/cut.py") 448, .int 75 0, .int 2 0, .int 0 0, .int 0 0, .int 3 0, .ref 67, .bool true, .int 181 0, .ref 68, .none, .ref 69, .ref 70, .ref 71, .int 451 0, .int 75 0, .str (Str.ofString "/claim/cut.py") 452] }
noncomputable def code79 : Obj := { cls := .type "code", data := .fields #[.str (Str.ofString "and_") 454, .str (Str.ofString "and_") 455, .str (Str.ofString "/claim/cut.py") 456, .int 77 0, .int 2 0, .int 0 0, .int 0 0, .int 3 0, .ref 74, .bool true, .int 181 0, .ref 75, .none, .ref 76, .ref 77, .ref 78, .int 459 0, .int 77 0, .str (Str.ofString "/claim/cut.py") 460] }
noncomputable def code86 : Obj := { cls := .type "code", data := .fields #[.str (Str.ofString "inv") 462, .str (Str.ofString "inv") 463, .str (Str.ofString "/claim/cut.py") 464, .int 79 0, .int 1 0, .int 0 0, .int 0 0, .int 3 0, .ref 81, .bool true, .int 181 0, .ref 82, .none, .ref 83, .ref 84, .ref 85, .int 466 0, .int 79 0, .str (Str.ofString "/claim/cut.py") 467] }
noncomputable def code93 : Obj := { cls := .type "code", data := .fields #[.str (Str.ofString "mul") 469, .str (Str.ofString "mul") 470, .str (Str.ofString "/claim/cut.py") 471, .int 81 0, .int 2 0, .int 0 0, .int 0 0, .int 3 0, .ref 88, .bool true, .int 181 0, .ref 89, .none, .ref 90, .ref 91, .ref 92, .int 474 0, .int 81 0, .str (Str.ofString "/claim/cut.py") 475] }
noncomputable def code100 : Obj := { cls := .type "code", data := .fields #[.str (Str.ofString "or_") 477, .str (Str.ofString "or_") 478, .str (Str.ofString "/claim/cut.py") 479, .int 83 0, .int 2 0, .int 0 0, .int 0 0, .int 3 0, .ref 95, .bool true, .int 181 0, .ref 96, .none, .ref 97, .ref 98, .ref 99, .int 482 0, .int 83 0, .str (Str.ofString "/claim/cut.py") 483] }
noncomputable def code105 : Obj := { cls := .type "code", data := .fields #[.str (Str.ofString "_law_formula") 487, .str (Str.ofString "_law_formula") 488, .str (Str.ofString "/claim/cut.py") 489, .int 86 0, .int 3 0, .int 0 0, .int 0 0, .int 3 0, .ref 102, .bool true, .int 181 0, .ref 103, .none, .none, .none, .ref 104, .int 490 0, .int 86 0, .str (Str.ofString "/claim/cut.py") 491] }
noncomputable def code112 : Obj := { cls := .type "code", data := .fields #[.str (Str.ofString "_law_text") 493, .str (Str.ofString "_law_text") 494, .str (Str.ofString "/claim/cut.py") 495, .int 91 0, .int 1 0, .int 0 0, .int 0 0, .int 3 0, .ref 107, .bool true, .int 181 0, .ref 108, .none, .ref 109, .ref 110, .ref 111, .int 503 0, .int 91 0, .str (Str.ofString "/claim/cut.py") 504] }
noncomputable def code117 : Obj := { cls := .type "code", data := .fields #[.str (Str.ofString "_law_flat") 506, .str (Str.ofString "_law_flat") 507, .str (Str.ofString "/claim/cut.py") 508, .int 98 0, .int 2 0, .int 0 0, .int 0 0, .int 3 0, .ref 114, .bool true, .int 181 0, .ref 115, .none, .none, .none, .ref 116, .int 509 0, .int 98 0, .str (Str.ofString "/claim/cut.py") 510] }
noncomputable def code122 : Obj := { cls := .type "code", data := .fields #[.str (Str.ofString "_law_truth") 512, .str (Str.ofString "_law_truth") 513, .str (Str.ofString "/claim/cut.py") 514, .int 105 0, .int 2 0, .int 0 0, .int 0 0, .int 3 0, .ref 119, .bool true, .int 181 0, .ref 120, .none, .none, .none, .ref 121, .int 515 0, .int 105 0, .str (Str.ofString "/claim/cut.py") 516] }
noncomputable def code127 : Obj := { cls := .type "code", data := .fields #[.str (Str.ofString "_law_matters") 518, .str (Str.ofString "_law_matters") 519, .str (Str.ofString "/claim/cut.py") 520, .int 112 0, .int 2 0, .int 0 0, .int 0 0, .int 3 0, .ref 124, .bool true, .int 181 0, .ref 125, .none, .none, .none, .ref 126, .int 521 0, .int 112 0, .str (Str.ofString "/claim/cut.py") 522] }
noncomputable def code134 : Obj := { cls := .type "code", data := .fields #[.str (Str.ofString "_law_told") 524, .str (Str.ofString "_law_told") 525, .str (Str.ofString "/claim/cut.py") 526, .int 114 0, .int 1 0, .int 0 0, .int 0 0, .int 3 0, .ref 129, .bool true, .int 181 0, .ref 130, .none, .ref 131, .ref 132, .ref 133, .int 535 0, .int 114 0, .str (Str.ofString "/claim/cut.py") 536] }
noncomputable def code141 : Obj := { cls := .type "code", data := .fields #[.str (Str.ofString "_law_weighed") 538, .str (Str.ofString "_law_weighed") 539, .str (Str.ofString "/claim/cut.py") 540, .int 143 0, .int 2 0, .int 0 0, .int 0 0, .int 3 0, .ref 136, .bool true, .int 181 0, .ref 137, .none, .ref 138, .ref 139, .ref 140, .int 549 0, .int 143 0, .str (Str.ofString "/claim/cut.py") 550] }
noncomputable def code146 : Obj := { cls := .type "code", data := .fields #[.str (Str.ofString "law") 552, .str (Str.ofString "law") 553, .str (Str.ofString "/claim/cut.py") 554, .int 153 0, .int 1 0, .int 0 0, .int 0 0, .int 3 0, .ref 143, .bool true, .int 181 0, .ref 144, .none, .none, .none, .ref 145, .int 555 0, .int 153 0, .str (Str.ofString "/claim/cut.py") 556] }
noncomputable def K0 (P : Params) : Frag := [(3, mainO P), (15, tokO P), (23, code23), (24, fnO 52 "ISNONTERMINAL" "cpy313.token" 187 23), (30, code30), (31, fnO 53 "ISEOF" "cpy313.token" 187 30), (37, code37), (38, fnO 55 "Int2AP" "cpy313.imaplib" 400 37), (44, code44), (45, fnO 57 "lt" "cpy313.operator" 412 44), (51, code51), (52, fnO 58 "le" "cpy313.operator" 412 51), (58, code58), (59, fnO 59 "ge" "cpy313.operator" 412 58), (65, code65), (66, fnO 60 "gt" "cpy313.operator" 412 65), (72, code72), (73, fnO 61 "add" "cpy313.operator" 412 72), (79, code79), (80, fnO 62 "and_" "cpy313.operator" 412 79), (86, code86), (87, fnO 63 "inv" "cpy313.operator" 412 86), (93, code93), (94, fnO 64 "mul" "cpy313.operator" 412 93), (100, code100), (101, fnO 65 "or_" "cpy313.operator" 412 100), (105, code105), (106, fnO 67 "_law_formula" "law_yf0018_01" 485 105), (112, code112), (113, fnO 68 "_law_text" "law_yf0018_01" 485 112), (117, code117), (118, fnO 69 "_law_flat" "law_yf0018_01" 485 117), (122, code122), (123, fnO 70 "_law_truth" "law_yf0018_01" 485 122), (127, code127), (128, fnO 71 "_law_matters" "law_yf0018_01" 485 127), (134, code134), (135, fnO 72 "_law_told" "law_yf0018_01" 485 134), (141, code141), (142, fnO 73 "_law_weighed" "law_yf0018_01" 485 141), (146, code146), (147, fnO 74 "law" "law_yf0018_01" 485 146)]
noncomputable def as0 : List Addr := [3, 15, 23, 24, 30, 31, 37, 38, 44, 45, 51, 52, 58, 59, 65, 66, 72, 73, 79, 80, 86, 87, 93, 94, 100, 101, 105, 106, 112, 113, 117, 118, 122, 123, 127, 128, 134, 135, 141, 142, 146, 147]
theorem as0_ok : ∀ P, as0 = (K0 P).map (·.1) := fun _ => rfl
noncomputable def loose0 : List Str := [Str.ofString "ENDMARKER", Str.ofString "LPAR", Str.ofString "RPAR", Str.ofString "LSQB", Str.ofString "RSQB", Str.ofString "COLON", Str.ofString "COMMA", Str.ofString "SEMI", Str.ofString "PLUS", Str.ofString "MINUS", Str.ofString "STAR", Str.ofString "SLASH", Str.ofString "VBAR", Str.ofString "AMPER", Str.ofString "LESS", Str.ofString "GREATER", Str.ofString "EQUAL", Str.ofString "DOT", Str.ofString "PERCENT", Str.ofString "LBRACE", Str.ofString "RBRACE", Str.ofString "EQEQUAL", Str.ofString "NOTEQUAL", Str.ofString "LESSEQUAL", Str.ofString "GREATEREQUAL", Str.ofString "TILDE", Str.ofString "CIRCUMFLEX", Str.ofString "LEFTSHIFT", Str.ofString "RIGHTSHIFT", Str.ofString "DOUBLESTAR", Str.ofString "PLUSEQUAL", Str.ofString "MINEQUAL", Str.ofString "STAREQUAL", Str.ofString "SLASHEQUAL", Str.ofString "PERCENTEQUAL", Str.ofString "AMPEREQUAL", Str.ofString "VBAREQUAL", Str.ofString "CIRCUMFLEXEQUAL", Str.ofString "LEFTSHIFTEQUAL", Str.ofString "RIGHTSHIFTEQUAL", Str.ofString "DOUBLESTAREQUAL", Str.ofString "DOUBLESLASH", Str.ofString "DOUBLESLASHEQUAL", Str.ofString "AT", Str.ofString "ATEQUAL", Str.ofString "RARROW", Str.ofString "ELLIPSIS", Str.ofString "COLONEQUAL", Str.ofString "EXCLAMATION", Str.ofString "NT_OFFSET", Str.ofString "EXACT_TOKEN_TYPES", Str.ofString "ISNONTERMINAL", Str.ofString "ISEOF", Str.ofString "Int2AP", Str.ofString "lt", Str.ofString "le", Str.ofString "ge", Str.ofString "gt", Str.ofString "add", Str.ofString "and_", Str.ofString "inv", Str.ofString "mul", Str.ofString "or_", Str.ofString "_law_formula", Str.ofString "_law_text", Str.ofString "_law_flat", Str.ofString "_law_truth", Str.ofString "_law_matters", Str.ofString "_law_told", Str.ofString "_law_weighed"]
noncomputable abbrev R0 : RowW := PySem.Challenge.rw_yf0018_01.row.toRowW
noncomputable def X0 (s : Shared) : Bool := xlAt v0 [] s && recOk R0.records s
noncomputable abbrev H0 : Hook := kHook K0 as0 as0_ok
noncomputable def dLaw : DefRec := match defOf v0 (Str.ofString "law") with
  | some p => p.1
  | none => ⟨Str.ofString "law", argsAt 74, bodyAt 74, scopeAt 74, default⟩

set_option maxRecDepth 100000
set_option maxHeartbeats 0
theorem ok0 : PySem.Challenge.rw_yf0018_01.wellSaid = true := by
  rw [PySem.W.Fast.te9446332074065402090]
  kernel_rfl
/-- the top runs through, whichever way the one row of the world's goes -/
noncomputable def Ends (w : World) : Prop := (openEnds treeTable P0 w 4246).map (fun s => (openSeen v0 loose0 (importedModules P0.main.body) X0 true s, Hook.obs H0 s)) = some (openGood v0 loose0, Hook.val H0 w)
theorem endsF (w : World) : Ends (w.withFollow "special-get-raises" false) := by
  unfold Ends openEnds fencedOpening topFrom
  rw [PySem.W.Fast.te10274390034422433532, PySem.W.Fast.te1435165496053646825, PySem.W.Fast.te14082659384304107361, PySem.W.Fast.te14364793385576792824, PySem.W.Fast.te14289696077712309145, PySem.W.Fast.te4187177175401517315]
  kernel_rfl
theorem endsT (w : World) : Ends (w.withFollow "special-get-raises" true) := by
  unfold Ends openEnds fencedOpening topFrom
  rw [PySem.W.Fast.te10274390034422433532, PySem.W.Fast.te1435165496053646825, PySem.W.Fast.te14082659384304107361, PySem.W.Fast.te14364793385576792824, PySem.W.Fast.te14289696077712309145, PySem.W.Fast.te4187177175401517315]
  kernel_rfl
theorem left0 : LeftO P0 v0 loose0 X0 (Hook.obs H0) (Hook.val H0) 4246 := fun w => byRow2 "special-get-raises" (P := Ends) endsF endsT w
theorem hdef0 : defOf v0 R0.name = some (dLaw, []) := by kernel_rfl
theorem hp0 : R0.prog.theDef R0.name = some (dLaw.params, dLaw.body, dLaw.scope) := by kernel_rfl
theorem hk0 : kwWritten? dLaw.params.kwonlyargs dLaw.params.kw_defaults = some [] := by kernel_rfl
theorem hwr0 : (!PySem.Challenge.rw_yf0018_01.row.writes || PySem.Challenge.rw_yf0018_01.row.records.isEmpty) = true := by kernel_rfl
theorem ok1 : (chainsOk v0 && opensWell PySem.Challenge.rw_yf0018_01.row.prog && (frees R0 && PySem.Challenge.rw_yf0018_01.row.within.isEmpty)) = true := by kernel_rfl
theorem bare0 : PySem.Challenge.rw_yf0018_01.row.prog.bare := ⟨rfl, rfl, rfl, rfl, rfl, by decide +kernel⟩
theorem hd (call : WalkO v0 loose0 (XL v0 []) H0.says R0 dLaw [] fun f vs => PySem.call f vs) : PySem.Challenge.rw_yf0018_01.Holds :=
  holds_law ok0 fun said => holds_open (q := v0) (loose := loose0) (Xt := X0) (XP := XL v0 []) (Yf := Hook.obs H0) (Ya := Hook.val H0) (YP := Hook.says H0) (N := 4246) left0 (Hook.of H0) (Hook.keeps H0)
    (fun s e => xl_of s (Bool.and_eq_true_iff.mp e).1) XL.keeps hdef0 hp0 hk0 (fun s e => recFacts_of (Bool.and_eq_true_iff.mp e).2) hwr0 said ok1 bare0 (by w_witness2) call
end Mine
end

section
open PySem PySem.W PyProof.Rows
namespace Mine
theorem nine {cm : Str → Option Value} {n₁ n₂ n₃ n₄ n₅ n₆ n₇ n₈ n₉ : Str} {c₁ c₂ c₃ c₄ c₅ c₆ c₇ c₈ c₉ : Addr} {cells : List (Addr × Obj)} (x : CellsAre cm [(n₁, c₁), (n₂, c₂), (n₃, c₃), (n₄, c₄), (n₅, c₅), (n₆, c₆), (n₇, c₇), (n₈, c₈), (n₉, c₉)] cells) :
    ∃ o₁ o₂ o₃ o₄ o₅ o₆ o₇ o₈ o₉, cells = [(c₁, o₁), (c₂, o₂), (c₃, o₃), (c₄, o₄), (c₅, o₅), (c₆, o₆), (c₇, o₇), (c₈, o₈), (c₉, o₉)] ∧ o₁.data = .cell (cm n₁) ∧ o₂.data = .cell (cm n₂) ∧ o₃.data = .cell (cm n₃) ∧ o₄.data = .cell (cm n₄) ∧ o₅.data = .cell (cm n₅) ∧ o₆.data = .cell (cm n₆) ∧ o₇.data = .cell (cm n₇) ∧ o₈.data = .cell (cm n₈) ∧ o₉.data = .cell (cm n₉) := by
  cases x with | cons h r => obtain ⟨o₂, o₃, o₄, o₅, o₆, o₇, o₈, o₉, rfl, h₂, h₃, h₄, h₅, h₆, h₇, h₈, h₉⟩ := kc_eight r; exact ⟨_, o₂, o₃, o₄, o₅, o₆, o₇, o₈, o₉, rfl, h, h₂, h₃, h₄, h₅, h₆, h₇, h₈, h₉⟩
end Mine
end

section
open PySem PySem.W PyProof.Rows PySem.Calls
set_option Elab.async false
namespace Mine

noncomputable abbrev Prg : Program := PySem.Challenge.rw_yf0018_01.row.prog
noncomputable abbrev Kf (w : World) : Frag := K0 w.params
noncomputable def Gd (w : World) (h : Heap) : Prop := (Kf w).In h ∧ ∃ mean mg mb, Top v0 (looseW v0 loose0) mean mg mb h

noncomputable def Sub (h h' : Heap) : Prop := ∀ b o, h.get? b = some o → h'.get? b = some o
theorem Sub.refl (h : Heap) : Sub h h := fun _ _ e => e
theorem Sub.trans {a b c : Heap} (x : Sub a b) (y : Sub b c) : Sub a c := fun p o e => y p o (x p o e)
theorem Sub.push (h : Heap) (o : Obj) : Sub h (h.push o) := fun _ _ e => Heap.get?_push_of_some _ e
theorem Sub.none {h h' : Heap} (x : Sub h h') {a : Addr} (e : h'.get? a = none) : h.get? a = none := by
  cases q : h.get? a with
  | none => rfl
  | some o => rw [x a o q] at e; cases e

theorem Gd.keeps {w : World} {h h' : Heap} (g : Gd w h) (k : Sub h h') : Gd w h' :=
  ⟨fun a o e => k a o (g.1 a o e), let ⟨mean, mg, mb, T⟩ := g.2; ⟨mean, mg, mb, T.keeps k⟩⟩

inductive V where
  | none
  | bool (b : Bool)
  | int (i : Int)
  | str (s : Str)
  | bytes (b : Array UInt8)
  | tup (vs : List V)
  | lst (i : Nat)

noncomputable abbrev Store : Type := List (List V)
noncomputable abbrev Loc := String → Option V

mutual
inductive Rp (X : List Addr) (h : Heap) (α : List Addr) : V → Value → Prop
  | none : Rp X h α .none .none
  | bool (b : Bool) : Rp X h α (.bool b) (.bool b)
  | int (i : Int) (t : Tok) : Rp X h α (.int i) (.int i t)
  | str (s : Str) (t : Tok) : Rp X h α (.str s) (.str s t)
  | bytes (b : Array UInt8) (t : Tok) : Rp X h α (.bytes b) (.bytes b t)
  | tup {vs : List V} {us : List Value} {a : Addr} : a ∉ X → IsTup h a us.toArray → Rps X h α vs us → Rp X h α (.tup vs) (.ref a)
  | lst {i : Nat} {a : Addr} : α[i]? = some a → Rp X h α (.lst i) (.ref a)
inductive Rps (X : List Addr) (h : Heap) (α : List Addr) : List V → List Value → Prop
  | nil : Rps X h α [] []
  | cons {v : V} {u : Value} {vs : List V} {us : List Value} : Rp X h α v u → Rps X h α vs us → Rps X h α (v :: vs) (u :: us)
end

variable {X : List Addr}
theorem getE {α : Type} {l m : List α} {i : Nat} {a : α} (h : l[i]? = some a) : (l ++ m)[i]? = some a := by
  rw [List.getElem?_append_left (List.getElem?_eq_some_iff.mp h).1]; exact h

mutual
theorem Rp.mono {h h' : Heap} {α β : List Addr} (k : Sub h h') : ∀ {v : V} {u : Value}, Rp X h α v u → Rp X h' (α ++ β) v u
  | _, _, .none => .none
  | _, _, .bool b => .bool b
  | _, _, .int i t => .int i t
  | _, _, .str s t => .str s t
  | _, _, .bytes b t => .bytes b t
  | _, _, .tup x t r => .tup x (let ⟨o, e, q⟩ := t; ⟨o, k _ _ e, q⟩) (Rps.mono k r)
  | _, _, .lst e => .lst (getE e)
theorem Rps.mono {h h' : Heap} {α β : List Addr} (k : Sub h h') : ∀ {vs : List V} {us : List Value}, Rps X h α vs us → Rps X h' (α ++ β) vs us
  | _, _, .nil => .nil
  | _, _, .cons a b => .cons (Rp.mono k a) (Rps.mono k b)
end
mutual
/-- the same where the heap changes at lists, frames and cells alone -/
theorem Rp.mono' {h h' : Heap} {α β : List Addr} (k : ∀ a o, a ∉ X → h.get? a = some o → o.cls = .type "tuple" → (∃ xs n, o.data = .seq xs n) → h'.get? a = some o) : ∀ {v : V} {u : Value}, Rp X h α v u → Rp X h' (α ++ β) v u
  | _, _, .none => .none
  | _, _, .bool b => .bool b
  | _, _, .int i t => .int i t
  | _, _, .str s t => .str s t
  | _, _, .bytes b t => .bytes b t
  | _, _, .tup x t r => .tup x (let ⟨o, e, q⟩ := t; ⟨o, k _ _ x e q.1 ⟨_, q.2⟩, q⟩) (Rps.mono' k r)
  | _, _, .lst e => .lst (getE e)
theorem Rps.mono' {h h' : Heap} {α β : List Addr} (k : ∀ a o, a ∉ X → h.get? a = some o → o.cls = .type "tuple" → (∃ xs n, o.data = .seq xs n) → h'.get? a = some o) : ∀ {vs : List V} {us : List Value}, Rps X h α vs us → Rps X h' (α ++ β) vs us
  | _, _, .nil => .nil
  | _, _, .cons a b => .cons (Rp.mono' k a) (Rps.mono' k b)
end

theorem Rps.length {h : Heap} {α : List Addr} : ∀ {vs : List V} {us : List Value}, Rps X h α vs us → vs.length = us.length
  | _, _, .nil => rfl
  | _, _, .cons _ b => by simp [b.length]
theorem Rps.get {h : Heap} {α : List Addr} : ∀ {vs : List V} {us : List Value}, Rps X h α vs us → ∀ {i : Nat} {v : V}, vs[i]? = some v → ∃ u, us[i]? = some u ∧ Rp X h α v u
  | _, _, .nil, i, v, e => by simp at e
  | _, _, .cons a b, 0, v, e => by simp at e; subst e; exact ⟨_, by simp, a⟩
  | _, _, .cons a b, i + 1, v, e => by
    have := b.get (i := i) (v := v) (by simpa using e)
    simpa using this
theorem Rps.append {h : Heap} {α : List Addr} : ∀ {vs vs' : List V} {us us' : List Value}, Rps X h α vs us → Rps X h α vs' us' → Rps X h α (vs ++ vs') (us ++ us')
  | _, _, _, _, .nil, y => y
  | _, _, _, _, .cons a b, y => .cons a (b.append y)
theorem Rps.take {h : Heap} {α : List Addr} : ∀ {vs : List V} {us : List Value}, Rps X h α vs us → ∀ n, Rps X h α (vs.take n) (us.take n)
  | _, _, .nil, n => by simp; exact .nil
  | _, _, .cons a b, 0 => .nil
  | _, _, .cons a b, n + 1 => by simpa using Rps.cons a (b.take n)
theorem Rps.drop {h : Heap} {α : List Addr} : ∀ {vs : List V} {us : List Value}, Rps X h α vs us → ∀ n, Rps X h α (vs.drop n) (us.drop n)
  | _, _, .nil, n => by simp; exact .nil
  | _, _, .cons a b, 0 => .cons a b
  | _, _, .cons a b, n + 1 => by simpa using b.drop n

/-- lists of at most 1000 items -/
noncomputable def cap : Nat := 4096

structure StR (X : List Addr) (h : Heap) (α : List Addr) (σ : Store) : Prop where
  len : α.length = σ.length
  nodup : α.Nodup
  get : ∀ (i : Nat) (vs : List V), σ[i]? = some vs → ∃ a us, α[i]? = some a ∧ h.PlainList a us.toArray ∧ Rps X h α vs us
  cap : ∀ vs ∈ σ, vs.length ≤ cap
  live : ∀ a ∈ X, ∃ o, h.get? a = some o

noncomputable def Fresh (h : Heap) (β : List Addr) : Prop := ∀ a ∈ β, h.get? a = none

theorem StR.addr {h : Heap} {α : List Addr} {σ : Store} (S : StR X h α σ) {a : Addr} (ha : a ∈ α) : ∃ us, h.PlainList a us := by
  obtain ⟨i, hi⟩ := List.getElem?_of_mem ha
  have hl := (List.getElem?_eq_some_iff.mp hi).1
  rw [S.len] at hl
  obtain ⟨a', us, e, p, _⟩ := S.get i σ[i] (by simp [hl])
  rw [hi] at e; cases e; exact ⟨_, p⟩
theorem StR.mono {h h' : Heap} {α : List Addr} {σ : Store} (S : StR X h α σ) (k : Sub h h') : StR X h' α σ where
  len := S.len
  nodup := S.nodup
  get := fun i vs e => let ⟨a, us, e1, p, r⟩ := S.get i vs e; ⟨a, us, e1, p.at fun o => k _ o, by have := Rps.mono (β := []) k r; simpa using this⟩
  cap := S.cap
  live := fun a ha => let ⟨o, e⟩ := S.live a ha; ⟨o, k a o e⟩
/-- one more list -/
theorem StR.add {h h' : Heap} {α : List Addr} {σ : Store} {a : Addr} {vs : List V} {us : List Value} (S : StR X h α σ) (k : Sub h h') (hf : h.get? a = none) (hp : h'.PlainList a us.toArray) (hr : Rps X h' α vs us) (hc : vs.length ≤ Mine.cap) :
    StR X h' (α ++ [a]) (σ ++ [vs]) where
  len := by simp [S.len]
  nodup := by
    refine List.nodup_append.mpr ⟨S.nodup, by simp, ?_⟩
    intro x hx y hy
    simp only [List.mem_singleton] at hy; subst hy
    rintro rfl
    obtain ⟨us', n, e⟩ := S.addr hx
    rw [hf] at e; cases e
  get := fun i ws e => by
    by_cases hi : i < σ.length
    · rw [List.getElem?_append_left hi] at e
      obtain ⟨b, us', e1, p, r⟩ := S.get i ws e
      exact ⟨b, us', getE e1, p.at fun o => k _ o, Rps.mono k r⟩
    · rw [List.getElem?_append_right (by omega)] at e
      have hi' : i - σ.length = 0 := by
        rcases Nat.eq_zero_or_pos (i - σ.length) with q | q
        · exact q
        · rw [List.getElem?_eq_none (by simp; omega)] at e; cases e
      rw [hi'] at e
      simp at e
      subst e
      refine ⟨a, us, ?_, hp, Rps.mono (Sub.refl _) hr⟩
      rw [List.getElem?_append_right (by rw [S.len]; omega), S.len, hi']; rfl
  cap := fun ws hw => by
    rcases List.mem_append.mp hw with q | q
    · exact S.cap ws q
    · rw [List.mem_singleton.mp q]; exact hc
  live := fun a ha => let ⟨o, e⟩ := S.live a ha; ⟨o, k a o e⟩
/-- a list is another one now -/
theorem StR.set {h h' : Heap} {α : List Addr} {σ : Store} {i : Nat} {a : Addr} {vs : List V} {us : List Value} (S : StR X h α σ) (ha : α[i]? = some a) (k : Heap.SameBut a h h') (hp : h'.PlainList a us.toArray) (hr : Rps X h α vs us) (hc : vs.length ≤ Mine.cap) :
    StR X h' α (σ.set i vs) := by
  obtain ⟨us₀, n₀, e₀⟩ := S.addr (List.mem_of_getElem? ha)
  have kt : ∀ b o, b ∉ X → h.get? b = some o → o.cls = .type "tuple" → (∃ xs n, o.data = .seq xs n) → h'.get? b = some o := fun b o _ e ht _ => by
    by_cases q : b = a
    · subst q; rw [e₀] at e; cases e; simp at ht
    · exact (k.2 b q).trans e
  have up : ∀ {vs us}, Rps X h α vs us → Rps X h' α vs us := fun r => by have := Rps.mono' (β := []) kt r; simpa using this
  refine ⟨by simp [S.len], S.nodup, fun j ws e => ?_, fun ws hw => ?_, fun b hb => ?_⟩
  · by_cases q : j = i
    · subst q
      have hl : j < σ.length := by rw [← S.len]; exact (List.getElem?_eq_some_iff.mp ha).1
      rw [List.getElem?_set_self hl] at e
      cases e
      exact ⟨a, us, ha, hp, up hr⟩
    · rw [List.getElem?_set_ne (Ne.symm q)] at e
      obtain ⟨b, us', e1, p, r⟩ := S.get j ws e
      have hb : b ≠ a := fun q' => by
        subst q'
        exact q ((List.getElem?_inj (List.getElem?_eq_some_iff.mp e1).1 S.nodup).mp (e1.trans ha.symm))
      exact ⟨b, us', e1, p.at fun o e => (k.2 b hb).trans e, up r⟩
  · rcases List.mem_or_eq_of_mem_set hw with q | q
    · exact S.cap ws q
    · rw [q]; exact hc
  · obtain ⟨o, e⟩ := S.live b hb
    by_cases q : b = a
    · subst q; obtain ⟨_, e'⟩ := hp; exact ⟨_, e'⟩
    · exact ⟨o, (k.2 b q).trans e⟩
theorem StR.new {h : Heap} {α : List Addr} {σ : Store} (S : StR X h α σ) {a : Addr} (ha : h.get? a = none) : a ∉ X := fun hx => by
  obtain ⟨o, e⟩ := S.live a hx
  rw [ha] at e; cases e
end Mine
end

section
open PySem PySem.W PyProof.Rows PySem.Calls
set_option Elab.async false
set_option autoImplicit false
namespace Mine

structure Room (A : Around) (lvl : Nat) : Prop where
  handled : A.handled = none
  depth : A.depth + lvl < recursionLimit
  units : A.units + 8 * lvl < cLine

structure EnvOk (env : Env) (sc : Scope) : Prop where
  same : env.scope = sc
  kind : sc.kind = ScopeKind.function
  gl : env.globals = mainGlobals
  bl : env.builtins = builtinsNs
  cells : ∀ x, sc.names.lookup x = some .cell → ∃ c, env.cells.lookup x = some c

noncomputable def EnvR (X : List Addr) (env : Env) (h : Heap) (α : List Addr) (ρ : Loc) : Prop :=
  ∃ m, h.Ns env.locals m ∧ (∀ x c, env.cells.lookup x = some c → ∃ v, h.IsCell c v) ∧ ∀ n v, ρ n = some v → (env.kindOf (Str.ofString n) = some .local ∧ ∃ u, m (Str.ofString n) = some u ∧ Rp X h α v u) ∨
    (env.kindOf (Str.ofString n) = some .cell ∧ ∃ c u, env.cells.lookup (Str.ofString n) = some c ∧ h.IsCell c (some u) ∧ Rp X h α v u)

variable {X : List Addr}
theorem EnvR.mono {env : Env} {h h' : Heap} {α β : List Addr} {ρ : Loc} (R : EnvR X env h α ρ) (k : Sub h h') : EnvR X env h' (α ++ β) ρ := by
  obtain ⟨m, hn, hc, g⟩ := R
  refine ⟨m, hn.keeps k, fun x c e => let ⟨v, q⟩ := hc x c e; ⟨v, q.keeps k⟩, fun n v e => ?_⟩
  rcases g n v e with ⟨a, u, b, c⟩ | ⟨a, c, u, b, d, f⟩
  · exact .inl ⟨a, u, b, Rp.mono k c⟩
  · exact .inr ⟨a, c, u, b, d.keeps k, Rp.mono k f⟩

noncomputable def EPost (X : List Addr) (s : Shared) (α : List Addr) (σ' : Store) (v : V) (Q : Value → Shared → Prop) : Prop :=
  ∀ u h' tk' β, Sub s.heap h' → Fresh s.heap β → StR X h' (α ++ β) σ' → Rp X h' (α ++ β) v u → Q u { s with heap := h', toks := tk' }

noncomputable abbrev Fn := List V → Store → Option (V × Store)
noncomputable abbrev Den := Loc → Store → Option (V × Store)

noncomputable def SoundV (w : World) (lvl : Nat) (t : List Value → Sem Value) (f : Fn) : Prop :=
  ∀ (X : List Addr) (A : Around) (s : Shared) (α : List Addr) (σ : Store) (vs : List V) (us : List Value) (v : V) (σ' : Store) (Q E : Value → Shared → Prop),
    Room A lvl → Gd w s.heap → StR X s.heap α σ → Rps X s.heap α vs us → f vs σ = some (v, σ') → EPost X s α σ' v Q → wpAny (model Prg w) A (t us) Q E s

structure SoundE (w : World) (lvl : Nat) (sc : Scope) (e : Expr) (D : Den) : Prop where
  run : ∀ (X : List Addr) (env : Env) (A : Around) (s : Shared) (ρ : Loc) (α : List Addr) (σ : Store) (v : V) (σ' : Store) (Q E : Value → Shared → Prop),
    EnvOk env sc → Room A lvl → Gd w s.heap → EnvR X env s.heap α ρ → StR X s.heap α σ → D ρ σ = some (v, σ') → EPost X s α σ' v Q → wpAny (model Prg w) A (eval e env) Q E s

noncomputable def dArgs : List Den → Loc → Store → Option (List V × Store)
  | [], _, σ => some ([], σ)
  | d :: ds, ρ, σ => match d ρ σ with
    | some (v, σ1) => (match dArgs ds ρ σ1 with
      | some (vs, σ2) => some (v :: vs, σ2)
      | none => none)
    | none => none

structure SoundA (w : World) (lvl : Nat) (sc : Scope) (es : List Expr) (Ds : List Den) : Prop where
  run : ∀ (X : List Addr) (env : Env) (A : Around) (s : Shared) (ρ : Loc) (α : List Addr) (σ : Store) (vs : List V) (σ' : Store) (pos : Pos) (Q : List Value → Shared → Prop) (E : Value → Shared → Prop),
    EnvOk env sc → Room A lvl → Gd w s.heap → EnvR X env s.heap α ρ → StR X s.heap α σ → dArgs Ds ρ σ = some (vs, σ') →
    (∀ us h' tk' β, Sub s.heap h' → Fresh s.heap β → StR X h' (α ++ β) σ' → Rps X h' (α ++ β) vs us → Q us { s with heap := h', toks := tk' }) →
    wpAny (model Prg w) A (spliced (backTo pos (starEach es env))) Q E s

theorem Fresh.nil (h : Heap) : Fresh h [] := fun _ h => nomatch h
theorem Fresh.app {h h' : Heap} {β γ : List Addr} (x : Fresh h β) (k : Sub h h') (y : Fresh h' γ) : Fresh h (β ++ γ) := fun a ha => by
  rcases List.mem_append.mp ha with q | q
  · exact x a q
  · exact k.none (y a q)

variable {w : World} {lvl : Nat} {sc : Scope}

theorem EPost.same {s : Shared} {α : List Addr} {σ : Store} {v : V} {Q : Value → Shared → Prop} (P : EPost X s α σ v Q) (S : StR X s.heap α σ) {u : Value} {tk : Nat} (r : Rp X s.heap α v u) : Q u { s with toks := tk } := by
  have := P u s.heap tk [] (Sub.refl _) (Fresh.nil _) (by simpa using S) (by simpa using r)
  exact this
theorem EPost.heap {s : Shared} {α : List Addr} {σ : Store} {v : V} {Q : Value → Shared → Prop} (P : EPost X s α σ v Q) {h' : Heap} (k : Sub s.heap h') (S : StR X s.heap α σ) {u : Value} {tk : Nat} (r : Rp X h' α v u) : Q u { s with heap := h', toks := tk } :=
  P u h' tk [] k (Fresh.nil _) (by simpa using S.mono k) (by simpa using r)

noncomputable def notStar : Expr → Bool
  | .Starred .. => false
  | _ => true
theorem star_of {e : Expr} {es : List Expr} (h : notStar e = true) (env : Env) : starEach (e :: es) env = (false, eval e env) :: starEach es env := by
  cases e <;> first | rfl | cases h
theorem plain_of {pos : Pos} : ∀ {es : List Expr} (_ : es.all notStar = true) (env : Env), (backTo pos (starEach es env)).any (·.1) = false
  | [], _, _ => rfl
  | e :: es, h, env => by
    simp only [List.all_cons, Bool.and_eq_true] at h
    rw [star_of h.1]
    show (false || (backTo pos (starEach es env)).any (·.1)) = false
    rw [plain_of h.2 env]; rfl
theorem SoundA.nil : SoundA w lvl sc [] [] := by
  refine SoundA.mk ?_
  intro X env A s ρ α σ vs σ' pos Q E _ _ _ _ S e P
  simp only [dArgs, Option.some.injEq, Prod.mk.injEq] at e
  obtain ⟨rfl, rfl⟩ := e
  have := P [] s.heap s.toks [] (Sub.refl _) (Fresh.nil _) (by simpa using S) .nil
  exact wpAny_items_nil this
theorem SoundA.cons {e : Expr} {es : List Expr} {D : Den} {Ds : List Den} (h : SoundE w lvl sc e D) (hs : SoundA w lvl sc es Ds)
    (he : ∀ env, starEach (e :: es) env = (false, eval e env) :: starEach es env := by exact fun env => star_of rfl env) : SoundA w lvl sc (e :: es) (D :: Ds) := by
  refine SoundA.mk ?_
  intro X env A s ρ α σ vs σ' pos Q E hE hR G R S ev P
  unfold dArgs at ev
  cases h1 : D ρ σ with
  | none => rw [h1] at ev; cases ev
  | some p =>
    obtain ⟨v, σ1⟩ := p
    rw [h1] at ev
    dsimp only at ev
    cases h2 : dArgs Ds ρ σ1 with
    | none => rw [h2] at ev; cases ev
    | some q =>
      obtain ⟨ws, σ2⟩ := q
      rw [h2] at ev
      simp only [Option.some.injEq, Prod.mk.injEq] at ev
      obtain ⟨rfl, rfl⟩ := ev
      refine wpAny_items_cons ?_ (he env)
      refine h.run X env A s ρ α σ v σ1 _ E hE hR G R S h1 fun u h' tk' β k hf S1 r => ?_
      refine hs.run X env A _ ρ (α ++ β) σ1 ws σ2 pos _ E hE hR (G.keeps k) (R.mono k) S1 h2 fun us h'' tk'' β' k' hf' S2 rs => ?_
      have := P (u :: us) h'' tk'' (β ++ β') (k.trans k') (hf.app k hf') (by rw [← List.append_assoc]; exact S2) (by rw [← List.append_assoc]; exact .cons (Rp.mono k' r) rs)
      exact this

noncomputable def dName (n : String) : Den := fun ρ σ => match ρ n with | some v => some (v, σ) | none => none
theorem E_name {n : String} {pos : Pos} (hd : (Str.ofString n == ("__debug__" : Str)) = false := by decide) : SoundE w lvl sc (.Name (Str.ofString n) pos) (dName n) := by
  refine SoundE.mk ?_
  intro X env A s ρ α σ v σ' Q E hE hR G R S ev P
  unfold dName at ev
  cases hv : ρ n with
  | none => rw [hv] at ev; cases ev
  | some v' =>
    rw [hv] at ev
    simp only [Option.some.injEq, Prod.mk.injEq] at ev
    obtain ⟨rfl, rfl⟩ := ev
    obtain ⟨m, hn, _, g⟩ := R
    have hk : env.scope.kind = .function := by rw [hE.same]; exact hE.kind
    rcases g n v' hv with ⟨a, u, b, c⟩ | ⟨a, c, u, b, d, f⟩
    · exact wpAny_Name (wpAny_loadName_local hk a hn b (P.same S c)) hd
    · exact wpAny_Name (wpAny_loadName_cell hk a b d (P.same S f)) hd

theorem E_int {i : Int} {k : Nat} {pos : Pos} : SoundE w lvl sc (.Constant (.int i) k pos) (fun _ σ => some (.int i, σ)) := by
  refine SoundE.mk ?_
  intro X env A s ρ α σ v σ' Q E hE hR G R S ev P
  simp only [Option.some.injEq, Prod.mk.injEq] at ev
  obtain ⟨rfl, rfl⟩ := ev
  exact wpAny_Constant_int (P.same S (.int i _))
theorem E_str {x : Str} {k : Nat} {pos : Pos} : SoundE w lvl sc (.Constant (.str x) k pos) (fun _ σ => some (.str x, σ)) := by
  refine SoundE.mk ?_
  intro X env A s ρ α σ v σ' Q E hE hR G R S ev P
  simp only [Option.some.injEq, Prod.mk.injEq] at ev
  obtain ⟨rfl, rfl⟩ := ev
  exact wpAny_Constant_str (P.same S (.str x _))
theorem E_bytes {x : List UInt8} {k : Nat} {pos : Pos} : SoundE w lvl sc (.Constant (.bytes x) k pos) (fun _ σ => some (.bytes x.toArray, σ)) := by
  refine SoundE.mk ?_
  intro X env A s ρ α σ v σ' Q E hE hR G R S ev P
  simp only [Option.some.injEq, Prod.mk.injEq] at ev
  obtain ⟨rfl, rfl⟩ := ev
  show wpAny _ A (mkTextBytes x.toArray) Q E s
  exact wpAny_bind (wpAny_fresh (wpAny_pure (P.same S (.bytes _ _))))
theorem E_bool {b : Bool} {k : Nat} {pos : Pos} : SoundE w lvl sc (.Constant (.bool b) k pos) (fun _ σ => some (.bool b, σ)) := by
  refine SoundE.mk ?_
  intro X env A s ρ α σ v σ' Q E hE hR G R S ev P
  simp only [Option.some.injEq, Prod.mk.injEq] at ev
  obtain ⟨rfl, rfl⟩ := ev
  exact wpAny_Constant_bool (P.same (tk := s.toks) S (.bool b))

noncomputable def d2 (f : Fn) (a b : Den) : Den := fun ρ σ => match a ρ σ with
  | some (x, σ1) => (match b ρ σ1 with
    | some (y, σ2) => f [x, y] σ2
    | none => none)
  | none => none
noncomputable def d1 (f : Fn) (a : Den) : Den := fun ρ σ => match a ρ σ with
  | some (x, σ1) => f [x] σ1
  | none => none

theorem d2_inv {f : Fn} {a b : Den} {ρ : Loc} {σ σ' : Store} {v : V} (h : d2 f a b ρ σ = some (v, σ')) : ∃ x σ1 y σ2, a ρ σ = some (x, σ1) ∧ b ρ σ1 = some (y, σ2) ∧ f [x, y] σ2 = some (v, σ') := by
  unfold d2 at h
  cases h1 : a ρ σ with
  | none => rw [h1] at h; cases h
  | some p =>
    obtain ⟨x, σ1⟩ := p
    rw [h1] at h
    dsimp only at h
    cases h2 : b ρ σ1 with
    | none => rw [h2] at h; cases h
    | some q =>
      obtain ⟨y, σ2⟩ := q
      rw [h2] at h
      exact ⟨x, σ1, y, σ2, rfl, h2, h⟩
theorem d1_inv {f : Fn} {a : Den} {ρ : Loc} {σ σ' : Store} {v : V} (h : d1 f a ρ σ = some (v, σ')) : ∃ x σ1, a ρ σ = some (x, σ1) ∧ f [x] σ1 = some (v, σ') := by
  unfold d1 at h
  cases h1 : a ρ σ with
  | none => rw [h1] at h; cases h
  | some p =>
    obtain ⟨x, σ1⟩ := p
    rw [h1] at h
    exact ⟨x, σ1, rfl, h⟩

/-- two expressions, then an operation -/
theorem two {ea eb : Expr} {a b : Den} {f : Fn} {t : List Value → Sem Value} (ha : SoundE w lvl sc ea a) (hb : SoundE w lvl sc eb b) (hf : SoundV w lvl t f)
    {env : Env} {A : Around} {s : Shared} {ρ : Loc} {α : List Addr} {σ σ' : Store} {v : V} {Q E : Value → Shared → Prop}
    (hE : EnvOk env sc) (hR : Room A lvl) (G : Gd w s.heap) (R : EnvR X env s.heap α ρ) (S : StR X s.heap α σ) (ev : d2 f a b ρ σ = some (v, σ')) (P : EPost X s α σ' v Q) :
    wpAny (model Prg w) A (eval ea env) (fun x s₁ => wpAny (model Prg w) A (eval eb env) (fun y s₂ => wpAny (model Prg w) A (t [x, y]) Q E s₂) E s₁) E s := by
  obtain ⟨x, σ1, y, σ2, h1, h2, h3⟩ := d2_inv ev
  refine ha.run X env A s ρ α σ x σ1 _ E hE hR G R S h1 fun u h' tk' β k hfr S1 r => ?_
  refine hb.run X env A _ ρ (α ++ β) σ1 y σ2 _ E hE hR (G.keeps k) (R.mono k) S1 h2 fun u2 h2' tk2 β2 k2 hfr2 S2 r2 => ?_
  refine hf X A _ (α ++ β ++ β2) σ2 [x, y] [u, u2] v σ' Q E hR ((G.keeps k).keeps k2) S2 (.cons (Rp.mono k2 r) (.cons r2 .nil)) h3 ?_
  intro u3 h3' tk3 β3 k3 hfr3 S3 r3
  have := P u3 h3' tk3 (β ++ β2 ++ β3) ((k.trans k2).trans k3) ((hfr.app k hfr2).app (k.trans k2) hfr3) (by rw [← List.append_assoc, ← List.append_assoc]; exact S3) (by rw [← List.append_assoc, ← List.append_assoc]; exact r3)
  exact this
theorem one {ea : Expr} {a : Den} {f : Fn} {t : List Value → Sem Value} (ha : SoundE w lvl sc ea a) (hf : SoundV w lvl t f)
    {env : Env} {A : Around} {s : Shared} {ρ : Loc} {α : List Addr} {σ σ' : Store} {v : V} {Q E : Value → Shared → Prop}
    (hE : EnvOk env sc) (hR : Room A lvl) (G : Gd w s.heap) (R : EnvR X env s.heap α ρ) (S : StR X s.heap α σ) (ev : d1 f a ρ σ = some (v, σ')) (P : EPost X s α σ' v Q) :
    wpAny (model Prg w) A (eval ea env) (fun x s₁ => wpAny (model Prg w) A (t [x]) Q E s₁) E s := by
  obtain ⟨x, σ1, h1, h3⟩ := d1_inv ev
  refine ha.run X env A s ρ α σ x σ1 _ E hE hR G R S h1 fun u h' tk' β k hfr S1 r => ?_
  refine hf X A _ (α ++ β) σ1 [x] [u] v σ' Q E hR (G.keeps k) S1 (.cons r .nil) h3 ?_
  intro u3 h3' tk3 β3 k3 hfr3 S3 r3
  have := P u3 h3' tk3 (β ++ β3) (k.trans k3) (hfr.app k hfr3) (by rw [← List.append_assoc]; exact S3) (by rw [← List.append_assoc]; exact r3)
  exact this

noncomputable def tBin (op : Operator) (us : List Value) : Sem Value := match us with | [a, b] => binaryOp op a b | _ => pure .none
noncomputable def tUn (op : UnaryOp) (us : List Value) : Sem Value := match us with | [a] => unaryOp op a | _ => pure .none
noncomputable def tCmp (op : CmpOp) (us : List Value) : Sem Value := match us with | [a, b] => compareOp op a b | _ => pure .none

theorem E_bin {l r : Expr} {op : Operator} {pos : Pos} {a b : Den} {f : Fn} (ha : SoundE w lvl sc l a) (hb : SoundE w lvl sc r b) (hf : SoundV w lvl (tBin op) f) : SoundE w lvl sc (.BinOp l op r pos) (d2 f a b) := by
  refine SoundE.mk ?_
  intro X env A s ρ α σ v σ' Q E hE hR G R S ev P
  exact wpAny_BinOp (two ha hb hf hE hR G R S ev P)
theorem E_un {x : Expr} {op : UnaryOp} {pos : Pos} {a : Den} {f : Fn} (ha : SoundE w lvl sc x a) (hf : SoundV w lvl (tUn op) f) : SoundE w lvl sc (.UnaryOp op x pos) (d1 f a) := by
  refine SoundE.mk ?_
  intro X env A s ρ α σ v σ' Q E hE hR G R S ev P
  exact wpAny_UnaryOp (one ha hf hE hR G R S ev P)
theorem E_cmp {l r : Expr} {op : CmpOp} {pos : Pos} {a b : Den} {f : Fn} (ha : SoundE w lvl sc l a) (hb : SoundE w lvl sc r b) (hf : SoundV w lvl (tCmp op) f)
    (hm : behindInMarks op r = false := by with_unfolding_all rfl) : SoundE w lvl sc (.Compare l [op] [r] pos) (d2 f a b) := by
  refine SoundE.mk ?_
  intro X env A s ρ α σ v σ' Q E hE hR G R S ev P
  exact wpAny_Compare1 (two ha hb hf hE hR G R S ev P) hm

/-- flat answers: what was made by the way is forgotten -/
noncomputable def V.flat : V → Bool
  | .tup _ => false
  | .lst _ => false
  | _ => true
theorem Rp.flat {h : Heap} {α α' : List Addr} {v : V} {u : Value} (hv : v.flat = true) (r : Rp X h α v u) : Rp X h α' v u := by
  cases r <;> first | (cases hv; done) | constructor
noncomputable def dFlat (d : Den) : Den := fun ρ σ => match d ρ σ with
  | some (v, σ') => some (v, bif v.flat then σ else σ')
  | none => none
theorem SoundE.flat {e : Expr} {D : Den} (h : SoundE w lvl sc e D) : SoundE w lvl sc e (dFlat D) := by
  refine SoundE.mk ?_
  intro X env A s ρ α σ v σ' Q E hE hR G R S ev P
  unfold dFlat at ev
  cases h1 : D ρ σ with
  | none => rw [h1] at ev; cases ev
  | some p =>
    obtain ⟨v1, σ1⟩ := p
    rw [h1] at ev
    simp only [Option.some.injEq, Prod.mk.injEq] at ev
    obtain ⟨rfl, rfl⟩ := ev
    refine h.run X env A s ρ α σ v1 σ1 Q E hE hR G R S h1 ?_
    intro u h' tk' β k hfr S1 r
    cases hv : v1.flat with
    | false => rw [hv] at P; exact P u h' tk' β k hfr S1 r
    | true =>
      rw [hv] at P
      exact EPost.heap P k S (r.flat hv)
noncomputable def fFlat (f : Fn) : Fn := fun vs σ => match f vs σ with
  | some (v, σ') => some (v, bif v.flat then σ else σ')
  | none => none
theorem SoundV.flat {t : List Value → Sem Value} {f : Fn} (h : SoundV w lvl t f) : SoundV w lvl t (fFlat f) := by
  intro X A s α σ vs us v σ' Q E hR G S rs ev P
  unfold fFlat at ev
  cases h1 : f vs σ with
  | none => rw [h1] at ev; cases ev
  | some p =>
    obtain ⟨v1, σ1⟩ := p
    rw [h1] at ev
    simp only [Option.some.injEq, Prod.mk.injEq] at ev
    obtain ⟨rfl, rfl⟩ := ev
    refine h X A s α σ vs us v1 σ1 Q E hR G S rs h1 ?_
    intro u h' tk' β k hfr S1 r
    cases hv : v1.flat with
    | false => rw [hv] at P; exact P u h' tk' β k hfr S1 r
    | true =>
      rw [hv] at P
      exact EPost.heap P k S (r.flat hv)
theorem SoundV.mono {t : List Value → Sem Value} {f g : Fn} (h : SoundV w lvl t f) (hg : ∀ vs σ r, g vs σ = some r → f vs σ = some r) : SoundV w lvl t g :=
  fun X A s α σ vs us v σ' Q E hR G S rs ev P => h X A s α σ vs us v σ' Q E hR G S rs (hg _ _ _ ev) P
theorem SoundE.mono {e : Expr} {D D' : Den} (h : SoundE w lvl sc e D) (hg : ∀ ρ σ r, D' ρ σ = some r → D ρ σ = some r) : SoundE w lvl sc e D' :=
  ⟨fun X env A s ρ α σ v σ' Q E hE hR G R S ev P => h.run X env A s ρ α σ v σ' Q E hE hR G R S (hg _ _ _ ev) P⟩
theorem Room.le {A : Around} {l l' : Nat} (h : Room A l') (hl : l ≤ l') : Room A l := ⟨h.handled, by have := h.depth; omega, by have := h.units; omega⟩
theorem SoundV.up {t : List Value → Sem Value} {f : Fn} {l l' : Nat} (h : SoundV w l t f) (hl : l ≤ l') : SoundV w l' t f :=
  fun X A s α σ vs us v σ' Q E hR G S rs ev P => h X A s α σ vs us v σ' Q E (hR.le hl) G S rs ev P

noncomputable def dApp (g : Fn) (Ds : List Den) : Den := fun ρ σ => match dArgs Ds ρ σ with
  | some (vs, σ1) => g vs σ1
  | none => none
theorem dApp_inv {g : Fn} {Ds : List Den} {ρ : Loc} {σ σ' : Store} {v : V} (h : dApp g Ds ρ σ = some (v, σ')) : ∃ vs σ1, dArgs Ds ρ σ = some (vs, σ1) ∧ g vs σ1 = some (v, σ') := by
  unfold dApp at h
  cases h1 : dArgs Ds ρ σ with
  | none => rw [h1] at h; cases h
  | some p =>
    obtain ⟨x, σ1⟩ := p
    rw [h1] at h
    exact ⟨x, σ1, rfl, h⟩
theorem argsThen {args : List Expr} {Ds : List Den} {g : Fn} {t : List Value → Sem Value} (hA : SoundA w lvl sc args Ds) (hf : SoundV w lvl t g)
    {env : Env} {A : Around} {s : Shared} {ρ : Loc} {α : List Addr} {σ σ' : Store} {v : V} {pos : Pos} {Q E : Value → Shared → Prop}
    (hE : EnvOk env sc) (hR : Room A lvl) (G : Gd w s.heap) (R : EnvR X env s.heap α ρ) (S : StR X s.heap α σ) (ev : dApp g Ds ρ σ = some (v, σ')) (P : EPost X s α σ' v Q)
    {W : List Value → Shared → Prop} (hW : ∀ us s', Gd w s'.heap → wpAny (model Prg w) A (t us) Q E s' → W us s') :
    wpAny (model Prg w) A (spliced (backTo pos (starEach args env))) W E s := by
  obtain ⟨vs, σ1, h1, h2⟩ := dApp_inv ev
  refine hA.run X env A s ρ α σ vs σ1 pos _ E hE hR G R S h1 fun us h' tk' β k hfr S1 rs => ?_
  refine hW us _ (G.keeps k) (hf X A _ (α ++ β) σ1 vs us v σ' Q E hR (G.keeps k) S1 rs h2 ?_)
  intro u3 h3' tk3 β3 k3 hfr3 S3 r3
  have := P u3 h3' tk3 (β ++ β3) (k.trans k3) (hfr.app k hfr3) (by rw [← List.append_assoc]; exact S3) (by rw [← List.append_assoc]; exact r3)
  exact this

theorem global {n : String} {env : Env} {A : Around} {s : Shared} {v : Value} {Q : Value → Shared → Prop} {E : Value → Shared → Prop} {p : Pos}
    (hE : EnvOk env sc) (G : Gd w s.heap) (hx : sc.names.lookup (Str.ofString n) = some .globalImplicit) (hn : nsIn (Kf w) mainGlobals (Str.ofString n) = some (some v))
    (hdb : (Str.ofString n == ("__debug__" : Str)) = false) (h : Q v s) : wpAny (model Prg w) A (eval (.Name (Str.ofString n) p) env) Q E s := by
  obtain ⟨X, mean, mg, mb, T⟩ := G
  have hk : env.scope.kind = .function := by rw [hE.same]; exact hE.kind
  have hx' : env.kindOf (Str.ofString n) = some .globalImplicit := by unfold Env.kindOf; rw [hE.same]; exact hx
  refine Name_function_global hk hx' (loadGlobal_global (mg := mg) ?_ (mg_of X T.g hn) h) hdb
  rw [hE.gl]; exact T.g
theorem builtin {n : String} {env : Env} {A : Around} {s : Shared} {v : Value} {Q : Value → Shared → Prop} {E : Value → Shared → Prop} {p : Pos}
    (hE : EnvOk env sc) (G : Gd w s.heap) (hx : sc.names.lookup (Str.ofString n) = some .globalImplicit) (hn : nsIn (Kf w) mainGlobals (Str.ofString n) = some none) (hb : bootBuiltins (Str.ofString n) = some v) (hne : Str.ofString n ≠ ("__name__" : Str))
    (hdb : (Str.ofString n == ("__debug__" : Str)) = false) (h : Q v s) : wpAny (model Prg w) A (eval (.Name (Str.ofString n) p) env) Q E s := by
  obtain ⟨X, mean, mg, mb, T⟩ := G
  have hk : env.scope.kind = .function := by rw [hE.same]; exact hE.kind
  have hx' : env.kindOf (Str.ofString n) = some .globalImplicit := by unfold Env.kindOf; rw [hE.same]; exact hx
  refine Name_function_global hk hx' (loadGlobal_builtin (mg := mg) (mb := mb) ?_ (mg_none_of X T.g hn) ?_ ((T.builtins _ hne).trans hb) h) hdb
  · rw [hE.gl]; exact T.g
  · rw [hE.bl]; exact T.b

/-- a call of a def of the text -/
theorem E_call {n : String} {p pos : Pos} {e : Expr} {args : List Expr} {Ds : List Den} {f : Addr} {g : Fn} {o : Obj} {fd : FuncData}
    (hx : (sc.names.lookup (Str.ofString n)) = some .globalImplicit) (hn : nsIn (Kf w) mainGlobals (Str.ofString n) = some (some (.ref f))) (ho : (Kf w).lookup f = some o) (hd : o.data = .func fd)
    (hA : SoundA w lvl sc (e :: args) Ds) (hf : SoundV w lvl (fun us => call (.ref f) us) g)
    (he : ∀ env, starEach (e :: args) env = (false, eval e env) :: starEach args env := by exact fun env => star_of rfl env)
    (hdb : (Str.ofString n == ("__debug__" : Str)) = false := by decide) :
    SoundE w lvl sc (.Call (.Name (Str.ofString n) p) (e :: args) [] pos) (dFlat (dApp g Ds)) := by
  refine SoundE.flat ?_
  refine SoundE.mk ?_
  intro X env A s ρ α σ v σ' Q E hE hR G R S ev P
  refine Call_Name rfl (global hE G hx hn hdb ?_)
  refine callWith_function (o := o) (fd := fd) ?_
  have hs : backTo pos (starEach (e :: args) env) = (false, eval e env) :: backTo pos (starEach args env) := by rw [he]; rfl
  rw [hs]
  refine evalArgs_plain ?_
  rw [← hs]
  refine argsThen hA hf hE hR G R S ev P fun us s' G' h => ?_
  exact ⟨⟨G'.1 _ _ ho, hd⟩, h⟩
theorem plainArgs {pos : Pos} {env : Env} {es : List Expr} (h : ∀ x ∈ es, ∀ y p, x ≠ .Starred y p) : (backTo pos (starEach es env)).any (·.1) = false := by
  induction es with
  | nil => rfl
  | cons e es ih =>
    have hh : starEach (e :: es) env = (false, eval e env) :: starEach es env := by
      have := h e List.mem_cons_self
      cases e <;> first | rfl | exact absurd rfl (this _ _)
    rw [hh]
    show (false || (backTo pos (starEach es env)).any (·.1)) = false
    rw [ih fun x hx => h x (List.mem_cons_of_mem _ hx)]; rfl
theorem E_callB {n id : String} {p pos : Pos} {e : Expr} {args : List Expr} {Ds : List Den} {g : Fn}
    (hx : (sc.names.lookup (Str.ofString n)) = some .globalImplicit) (hn : nsIn (Kf w) mainGlobals (Str.ofString n) = some none) (hb : bootBuiltins (Str.ofString n) = some (.builtin id))
    (hA : SoundA w lvl sc (e :: args) Ds) (hf : SoundV w lvl (fun us => call (.builtin id) us) g)
    (he : ∀ env, starEach (e :: args) env = (false, eval e env) :: starEach args env := by exact fun env => star_of rfl env)
    (hpl : ∀ env, (backTo pos (starEach (e :: args) env)).any (·.1) = false := by exact fun env => plain_of rfl env)
    (hne : Str.ofString n ≠ ("__name__" : Str) := by decide)
    (hdb : (Str.ofString n == ("__debug__" : Str)) = false := by decide) :
    SoundE w lvl sc (.Call (.Name (Str.ofString n) p) (e :: args) [] pos) (dFlat (dApp g Ds)) := by
  refine SoundE.flat ?_
  refine SoundE.mk ?_
  intro X env A s ρ α σ v σ' Q E hE hR G R S ev P
  refine Call_Name rfl (builtin hE G hx hn hb hne hdb ?_)
  refine callWith_builtin (hpl env) ?_
  have hs : backTo pos (starEach (e :: args) env) = (false, eval e env) :: backTo pos (starEach args env) := by rw [he]; rfl
  rw [hs]
  refine evalArgs_plain ?_
  rw [← hs]
  exact argsThen hA hf hE hR G R S ev P fun us s' G' h => h
theorem E_callT {n T : String} {p pos : Pos} {e : Expr} {args : List Expr} {Ds : List Den} {g : Fn}
    (hx : (sc.names.lookup (Str.ofString n)) = some .globalImplicit) (hn : nsIn (Kf w) mainGlobals (Str.ofString n) = some none) (hb : bootBuiltins (Str.ofString n) = some (.type T))
    (hA : SoundA w lvl sc (e :: args) Ds) (hf : SoundV w lvl (fun us => call (.type T) us) g)
    (he : ∀ env, starEach (e :: args) env = (false, eval e env) :: starEach args env := by exact fun env => star_of rfl env)
    (hpl : ∀ env, (backTo pos (starEach (e :: args) env)).any (·.1) = false := by exact fun env => plain_of rfl env)
    (hne : Str.ofString n ≠ ("__name__" : Str) := by decide)
    (hdb : (Str.ofString n == ("__debug__" : Str)) = false := by decide) :
    SoundE w lvl sc (.Call (.Name (Str.ofString n) p) (e :: args) [] pos) (dFlat (dApp g Ds)) := by
  refine SoundE.flat ?_
  refine SoundE.mk ?_
  intro X env A s ρ α σ v σ' Q E hE hR G R S ev P
  refine Call_Name rfl (builtin hE G hx hn hb hne hdb ?_)
  refine PyProof.Rows.callWith_type (hpl env) ?_
  have hs : backTo pos (starEach (e :: args) env) = (false, eval e env) :: backTo pos (starEach args env) := by rw [he]; rfl
  rw [hs]
  refine evalArgs_plain ?_
  rw [← hs]
  exact argsThen hA hf hE hR G R S ev P fun us s' G' h => h

/-- a method of a str or of bytes -/
noncomputable def tyName : V → String
  | .str _ => "str"
  | .bytes _ => "bytes"
  | _ => ""
theorem typeIs_flat {s : Shared} {α : List Addr} {v : V} {u : Value} {T : String} (r : Rp X s.heap α v u) (ht : tyName v = T) (hT : T = "str" ∨ T = "bytes") : s.TypeIs u T ∧ ∀ a, u ≠ .ref a := by
  cases r <;> simp only [tyName] at ht <;> subst ht <;> first
    | exact ⟨rfl, fun _ e => by cases e⟩
    | (rcases hT with e | e <;> simp at e)
theorem E_meth {o : Expr} {name : Str} {apos pos : Pos} {args : List Expr} {T id : String} {D : Den} {Ds : List Den} {g : Fn} (hO : SoundE w lvl sc o D) (hA : SoundA w lvl sc args Ds)
    (hf : SoundV w lvl (fun us => call (.builtin id) us) g)
    (pa : PlainAttrs T) (slot : Slot T name id) (hty : typeOf (.builtin id) = pure (.type "method_descriptor"))
    (hT : T = "str" ∨ T = "bytes") (hg : ∀ v vs σ r, g (v :: vs) σ = some r → tyName v = T)
    (hargs : args = [] ∨ ∃ e es, args = e :: es ∧ (∀ env, starEach (e :: es) env = (false, eval e env) :: starEach es env))
    (hbase : ∀ env, attributeBase o name env (eval o env) = eval o env := by intro _; rfl)
    (hfew : ∀ env, ((backTo pos (starEach args env)).all (fun x => !x.1) && (backToKw pos (keywordEach [] env)).all (fun x => x.1.isSome)
      && decide (args.length + ([] : List Keyword).length + (if ([] : List Keyword).isEmpty then 0 else 1) < 30)) = true := by intro _; rfl)
    (hpl : ∀ env, (backTo pos (starEach args env)).any (·.1) = false := by exact fun env => plain_of rfl env)
    (hline : (apos.endLine == pos.line) = true := by rfl) :
    SoundE w lvl sc (.Call (.Attribute o name apos) args [] pos) (dFlat (dApp g (D :: Ds))) := by
  refine SoundE.flat ?_
  refine SoundE.mk ?_
  intro X env A s ρ α σ v σ' Q E hE hR G R S ev P
  obtain ⟨vs, σ1, h1, h2⟩ := dApp_inv ev
  unfold dArgs at h1
  cases h3 : D ρ σ with
  | none => rw [h3] at h1; cases h1
  | some p =>
    obtain ⟨x, σ2⟩ := p
    rw [h3] at h1
    dsimp only at h1
    cases h4 : dArgs Ds ρ σ2 with
    | none => rw [h4] at h1; cases h1
    | some q =>
      obtain ⟨ws, σ3⟩ := q
      rw [h4] at h1
      simp only [Option.some.injEq, Prod.mk.injEq] at h1
      obtain ⟨rfl, rfl⟩ := h1
      refine wpAny_Call_method (hbase env) (hfew env) hline pa slot hty ?_
      refine hO.run X env A s ρ α σ x σ2 _ E hE hR G R S h3 fun u h' tk' β k hfr S1 r => ?_
      obtain ⟨t1, t2⟩ := typeIs_flat (s := { s with heap := h', toks := tk' }) r (hg _ _ _ _ h2) hT
      refine ⟨t1, fun a e => absurd e (t2 a), callWith_builtin (hpl env) ?_⟩
      have fin : ∀ us h'' tk'' β', Sub h' h'' → Fresh h' β' → StR X h'' (α ++ β ++ β') σ3 → Rps X h'' (α ++ β ++ β') ws us →
          wpAny (model Prg w) A (call (.builtin id) (u :: us)) Q E { s with heap := h'', toks := tk'' } := by
        intro us h'' tk'' β' k' hfr' S2 rs
        refine hf X A _ (α ++ β ++ β') σ3 (x :: ws) (u :: us) v σ' Q E hR ((G.keeps k).keeps k') S2 (.cons (Rp.mono k' r) rs) h2 ?_
        intro u3 h3' tk3 β3 k3 hfr3 S3 r3
        have := P u3 h3' tk3 (β ++ β' ++ β3) ((k.trans k').trans k3) ((hfr.app k hfr').app (k.trans k') hfr3) (by rw [← List.append_assoc, ← List.append_assoc]; exact S3) (by rw [← List.append_assoc, ← List.append_assoc]; exact r3)
        exact this
      rcases hargs with rfl | ⟨e, es, rfl, he⟩
      · have : Ds = [] ∨ Ds ≠ [] := by cases Ds <;> simp
        refine evalArgs_nil3 ?_
        -- the arguments' list is empty: so is what is said of it
        have h5 := hA.run X env A { s with heap := h', toks := tk' } ρ (α ++ β) σ2 ws σ3 pos (fun us s' => us = [] → wpAny (model Prg w) A (call (.builtin id) (u :: us)) Q E s') E hE hR (G.keeps k) (R.mono k) S1 h4 (fun us h'' tk'' β' k' hfr' S2 rs _ => fin us h'' tk'' β' k' hfr' S2 rs)
        have h6 : wpAny (model Prg w) A (pure ([] : List Value)) (fun us s' => us = [] → wpAny (model Prg w) A (call (.builtin id) (u :: us)) Q E s') E { s with heap := h', toks := tk' } := h5
        intro Γ p hΓ
        exact (h6 Γ p hΓ) rfl Γ p hΓ
      · have hs : backTo pos (starEach (e :: es) env) = (false, eval e env) :: backTo pos (starEach es env) := by rw [he]; rfl
        rw [hs]
        refine evalArgs_plain ?_
        rw [← hs]
        exact hA.run X env A _ ρ (α ++ β) σ2 ws σ3 pos _ E hE hR (G.keeps k) (R.mono k) S1 h4 fun us h'' tk'' β' k' hfr' S2 rs => fin us h'' tk'' β' k' hfr' S2 rs
end Mine
end

section
open PySem PySem.W PyProof.Rows PySem.Calls
set_option Elab.async false
set_option autoImplicit false
namespace Mine
variable {X : List Addr} {w : World} {lvl : Nat} {sc : Scope}

/-- an operation on two values, all flat -/
theorem V_flat2 {t : List Value → Sem Value} {f : V → V → Option V}
    (h : ∀ (X : List Addr) (A : Around) (s : Shared) (h₀ : Heap) (α : List Addr) (a b v : V) (u1 u2 : Value) (Q E : Value → Shared → Prop), Room A lvl → Rp X h₀ α a u1 → Rp X h₀ α b u2 → f a b = some v →
      (∀ u tk, (∀ (X : List Addr) h α, Rp X h α v u) → Q u { s with toks := tk }) → wpAny (model Prg w) A (t [u1, u2]) Q E s) :
    SoundV w lvl t (fun vs σ => match vs with | [a, b] => (f a b).map (·, σ) | _ => none) := by
  intro X A s α σ vs us v σ' Q E hR G S rs ev P
  match vs, us, rs with
  | [a, b], [u1, u2], .cons r1 (.cons r2 .nil) =>
    dsimp only at ev
    cases hf : f a b with
    | none => rw [hf] at ev; cases ev
    | some v' =>
      rw [hf] at ev
      simp only [Option.map_some, Option.some.injEq, Prod.mk.injEq] at ev
      obtain ⟨rfl, rfl⟩ := ev
      exact h X A s s.heap α a b v' u1 u2 Q E hR r1 r2 hf fun u tk hu => P.same S (hu _ _ _)
  | [], _, _ => simp at ev
  | [_], _, _ => simp at ev
  | _ :: _ :: _ :: _, _, _ => simp at ev
theorem V_flat1 {t : List Value → Sem Value} {f : V → Option V}
    (h : ∀ (X : List Addr) (A : Around) (s : Shared) (h₀ : Heap) (α : List Addr) (a v : V) (u1 : Value) (Q E : Value → Shared → Prop), Room A lvl → Rp X h₀ α a u1 → f a = some v →
      (∀ u tk, (∀ (X : List Addr) h α, Rp X h α v u) → Q u { s with toks := tk }) → wpAny (model Prg w) A (t [u1]) Q E s) :
    SoundV w lvl t (fun vs σ => match vs with | [a] => (f a).map (·, σ) | _ => none) := by
  intro X A s α σ vs us v σ' Q E hR G S rs ev P
  match vs, us, rs with
  | [a], [u1], .cons r1 .nil =>
    dsimp only at ev
    cases hf : f a with
    | none => rw [hf] at ev; cases ev
    | some v' =>
      rw [hf] at ev
      simp only [Option.map_some, Option.some.injEq, Prod.mk.injEq] at ev
      obtain ⟨rfl, rfl⟩ := ev
      exact h X A s s.heap α a v' u1 Q E hR r1 hf fun u tk hu => P.same S (hu _ _ _)
  | [], _, _ => simp at ev
  | _ :: _ :: _, _, _ => simp at ev

noncomputable def f2 (f : V → V → Option V) : Fn := fun vs σ => match vs with | [a, b] => (f a b).map (·, σ) | _ => none
noncomputable def f1 (f : V → Option V) : Fn := fun vs σ => match vs with | [a] => (f a).map (·, σ) | _ => none

/-- ints alone -/
noncomputable def int2 (g : Int → Int → Option V) : V → V → Option V
  | .int a, .int b => g a b
  | _, _ => none
theorem V_int2 {t : List Value → Sem Value} {g : Int → Int → Option V}
    (h : ∀ (A : Around) (s : Shared) (a b : Int) (x y : Tok) (v : V) (Q E : Value → Shared → Prop), Room A lvl → g a b = some v → (∀ u tk, (∀ (X : List Addr) h α, Rp X h α v u) → Q u { s with toks := tk }) → wpAny (model Prg w) A (t [.int a x, .int b y]) Q E s) :
    SoundV w lvl t (f2 (int2 g)) := by
  refine V_flat2 fun X A s h₀ α a b v u1 u2 Q E hR r1 r2 hf hQ => ?_
  cases r1 with
  | int i x => cases r2 with
    | int j y => exact h A s i j x y v Q E hR hf hQ
    | _ => cases hf
  | _ => cases hf

noncomputable def gAdd (a b : Int) : Option V := some (.int (a + b))
noncomputable def gSub (a b : Int) : Option V := some (.int (a - b))
noncomputable def gMul (a b : Int) : Option V := if b.natAbs < 2 ^ 62 then some (.int (a * b)) else none
noncomputable def gDiv (a b : Int) : Option V := if 0 < b ∧ b < 2 ^ 30 then some (.int (a / b)) else none
noncomputable def gMod (a b : Int) : Option V := if 0 < b then some (.int (a % b)) else none
noncomputable def gPow (a b : Int) : Option V := if 0 ≤ b ∧ b < 64 ∧ 0 ≤ a ∧ a < 64 then some (.int (a ^ b.toNat)) else none
noncomputable def gAnd (a b : Int) : Option V := some (.int (Builtin.bitAnd a b))
noncomputable def gOr (a b : Int) : Option V := some (.int (Builtin.bitOr a b))
noncomputable def gXor (a b : Int) : Option V := some (.int (Builtin.bitXor a b))

theorem O_sub : SoundV w lvl (tBin .Sub) (f2 (int2 gSub)) :=
  V_int2 fun A s a b x y v Q E _ hg hQ => by cases hg; exact sub_int (hQ _ _ fun _ _ _ => .int _ _)
theorem O_div : SoundV w lvl (tBin .FloorDiv) (f2 (int2 gDiv)) :=
  V_int2 fun A s a b x y v Q E _ hg hQ => by
    unfold gDiv at hg
    split at hg
    · rename_i hb
      cases hg
      refine floordiv_int (by omega) ?_ (.inl (PyProof.noPylong_small (by omega)))
      rw [Int.fdiv_eq_ediv_of_nonneg _ (by omega)]
      exact hQ _ _ fun _ _ _ => .int _ _
    · cases hg
theorem O_mod : SoundV w lvl (tBin .Mod) (f2 (int2 gMod)) :=
  V_int2 fun A s a b x y v Q E _ hg hQ => by
    unfold gMod at hg
    split at hg
    · rename_i hb
      cases hg
      refine mod_int' (by omega) ?_
      rw [Int.fmod_eq_emod_of_nonneg _ (by omega)]
      exact hQ _ _ fun _ _ _ => .int _ _
    · cases hg
theorem O_pow : SoundV w lvl (tBin .Pow) (f2 (int2 gPow)) :=
  V_int2 fun A s a b x y v Q E _ hg hQ => by
    unfold gPow at hg
    split at hg
    · rename_i hb
      cases hg
      refine pow_int hb.1 ?_ (hQ _ _ fun _ _ _ => .int _ _)
      have : Builtin.Int.intBits a ≤ 6 := by
        unfold Builtin.Int.intBits
        split
        · omega
        · rename_i h0
          have h1 : a.natAbs ≠ 0 := by intro h; apply h0; simp; omega
          have : a.natAbs.log2 < 6 := (Nat.log2_lt h1).mpr (by omega)
          omega
      have h2 : ((Builtin.Int.intBits a : Nat) : Int) * b ≤ 6 * 64 := by
        have h3 : ((Builtin.Int.intBits a : Nat) : Int) ≤ 6 := by exact_mod_cast this
        have h4 : (0 : Int) ≤ ((Builtin.Int.intBits a : Nat) : Int) := Int.natCast_nonneg _
        calc ((Builtin.Int.intBits a : Nat) : Int) * b ≤ 6 * b := Int.mul_le_mul_of_nonneg_right h3 hb.1
          _ ≤ 6 * 64 := by omega
      omega
    · cases hg
theorem bits_le {b : Int} (h : b.natAbs < 2 ^ 62) : Builtin.Int.intBits b ≤ 64 := by
  unfold Builtin.Int.intBits
  split
  · omega
  · rename_i h0
    have h1 : b.natAbs ≠ 0 := by intro h; apply h0; simp; omega
    have : b.natAbs.log2 < 62 := (Nat.log2_lt h1).mpr h
    omega
theorem O_xor : SoundV w lvl (tBin .BitXor) (f2 (int2 gXor)) :=
  V_int2 fun A s a b x y v Q E _ hg hQ => by cases hg; exact xor_int (hQ _ _ fun _ _ _ => .int _ _)
theorem O_and : SoundV w lvl (tBin .BitAnd) (f2 (int2 gAnd)) :=
  V_int2 fun A s a b x y v Q E _ hg hQ => by cases hg; exact and_int (hQ _ _ fun _ _ _ => .int _ _)
theorem O_or : SoundV w lvl (tBin .BitOr) (f2 (int2 gOr)) :=
  V_int2 fun A s a b x y v Q E _ hg hQ => by cases hg; exact or_int (hQ _ _ fun _ _ _ => .int _ _)

noncomputable def gNeg : V → Option V
  | .int a => some (.int (-a))
  | _ => none
noncomputable def gInv : V → Option V
  | .int a => some (.int (Builtin.bitNot a))
  | _ => none
theorem O_neg : SoundV w lvl (tUn .USub) (f1 gNeg) :=
  V_flat1 fun X A s h₀ α a v u1 Q E _ r hf hQ => by
    cases r <;> first | (cases hf; done) | skip
    cases hf; exact neg_int (hQ _ _ fun _ _ _ => .int _ _)
theorem O_inv : SoundV w lvl (tUn .Invert) (f1 gInv) :=
  V_flat1 fun X A s h₀ α a v u1 Q E _ r hf hQ => by
    cases r <;> first | (cases hf; done) | skip
    cases hf; exact invert_int (hQ _ _ fun _ _ _ => .int _ _)

theorem C_lt : SoundV w lvl (tCmp .Lt) (f2 (int2 fun a b => some (.bool (decide (a < b))))) :=
  V_int2 fun A s a b x y v Q E _ hg hQ => by cases hg; exact lt_int (hQ _ s.toks fun _ _ _ => .bool _)
theorem C_le : SoundV w lvl (tCmp .LtE) (f2 (int2 fun a b => some (.bool (decide (a ≤ b))))) :=
  V_int2 fun A s a b x y v Q E _ hg hQ => by cases hg; exact le_int (hQ _ s.toks fun _ _ _ => .bool _)
theorem C_gt : SoundV w lvl (tCmp .Gt) (f2 (int2 fun a b => some (.bool (decide (b < a))))) :=
  V_int2 fun A s a b x y v Q E _ hg hQ => by cases hg; exact gt_int (hQ _ s.toks fun _ _ _ => .bool _)
theorem C_ge : SoundV w lvl (tCmp .GtE) (f2 (int2 fun a b => some (.bool (decide (b ≤ a))))) :=
  V_int2 fun A s a b x y v Q E _ hg hQ => by cases hg; exact ge_int (hQ _ s.toks fun _ _ _ => .bool _)

noncomputable def gEq : V → V → Option V
  | .int a, .int b => some (.bool (a == b))
  | .str a, .str b => some (.bool (a == b))
  | _, _ => none
theorem C_eq : SoundV w lvl (tCmp .Eq) (f2 gEq) :=
  V_flat2 fun X A s h₀ α a b v u1 u2 Q E _ r1 r2 hf hQ => by
    cases r1 <;> cases r2 <;> first | (cases hf; done) | skip
    · cases hf; exact eq_int (hQ _ s.toks fun _ _ _ => .bool _)
    · cases hf; exact eq_str (hQ _ s.toks fun _ _ _ => .bool _)

noncomputable def gIs : V → V → Option V
  | .bool a, .bool b => some (.bool (a == b))
  | _, _ => none
noncomputable def gIsNot : V → V → Option V
  | .bool a, .bool b => some (.bool (!(a == b)))
  | _, _ => none
theorem vbool (a b : Bool) : (Value.bool a == Value.bool b) = (a == b) := by cases a <;> cases b <;> rfl
theorem C_is : SoundV w lvl (tCmp .Is) (f2 gIs) :=
  V_flat2 fun X A s h₀ α a b v u1 u2 Q E _ r1 r2 hf hQ => by
    cases r1 <;> cases r2 <;> first | (cases hf; done) | skip
    cases hf; exact wpAny_is_plain rfl (by rw [vbool]; exact hQ _ s.toks fun _ _ _ => .bool _)
theorem C_isNot : SoundV w lvl (tCmp .IsNot) (f2 gIsNot) :=
  V_flat2 fun X A s h₀ α a b v u1 u2 Q E _ r1 r2 hf hQ => by
    cases r1 <;> cases r2 <;> first | (cases hf; done) | skip
    cases hf; exact wpAny_isNot_plain rfl (by rw [vbool]; exact hQ _ s.toks fun _ _ _ => .bool _)

noncomputable def gInStr : V → V → Option V
  | .str y, .str x => some (.bool (!(Builtin.Str.occurrences x y 0 x.length 1).isEmpty))
  | _, _ => none
theorem C_in : SoundV w lvl (tCmp .In) (f2 gInStr) :=
  V_flat2 fun X A s h₀ α a b v u1 u2 Q E _ r1 r2 hf hQ => by
    cases r1 <;> cases r2 <;> first | (cases hf; done) | skip
    cases hf; exact in_str (hQ _ s.toks fun _ _ _ => .bool _)
end Mine
end

section
open PySem PySem.W PyProof.Rows PySem.Calls
set_option Elab.async false
set_option autoImplicit false
namespace Mine
variable {X : List Addr} {w : World} {lvl : Nat} {sc : Scope}
theorem sizeLine_is : sizeLine = 16777216 := by decide
theorem capLine : cap = 4096 := rfl

/-- a new list -/
noncomputable def alloc (vs : List V) (σ : Store) : Option (V × Store) := if vs.length ≤ cap then some (.lst σ.length, σ ++ [vs]) else none
theorem alloc_inv {vs : List V} {σ σ' : Store} {v : V} (h : alloc vs σ = some (v, σ')) : vs.length ≤ cap ∧ v = .lst σ.length ∧ σ' = σ ++ [vs] := by
  unfold alloc at h
  split at h
  · rename_i hc
    cases h
    exact ⟨hc, rfl, rfl⟩
  · cases h
/-- the new list stands behind one push -/
theorem alloc_post {s : Shared} {α : List Addr} {σ σ' : Store} {v : V} {Q : Value → Shared → Prop} {vs : List V} {us : List Value} {n tk : Nat} (S : StR X s.heap α σ) (rs : Rps X s.heap α vs us) (e : alloc vs σ = some (v, σ')) (P : EPost X s α σ' v Q) :
    Q (.ref s.heap.objs.size) { s with heap := s.heap.push (listOf us.toArray n), toks := tk } := by
  obtain ⟨hc, rfl, rfl⟩ := alloc_inv e
  have hf : s.heap.get? s.heap.objs.size = none := Heap.get?_none_of_le (Nat.le_refl _)
  have k := Sub.push s.heap (listOf us.toArray n)
  refine P _ _ _ [s.heap.objs.size] k (fun a ha => by rw [List.mem_singleton.mp ha]; exact hf) (S.add k hf ⟨n, Heap.get?_push_size _ rfl⟩ (by have := Rps.mono (β := []) k rs; simpa using this) hc) (.lst ?_)
  rw [List.getElem?_append_right (by rw [S.len]; omega), S.len]; simp
theorem alloc_post2 {s : Shared} {h₁ : Heap} {α : List Addr} {σ σ' : Store} {v : V} {Q : Value → Shared → Prop} {vs : List V} {us : List Value} {n tk : Nat} (S : StR X s.heap α σ) (k₁ : Sub s.heap h₁) (rs : Rps X s.heap α vs us) (e : alloc vs σ = some (v, σ')) (P : EPost X s α σ' v Q) :
    Q (.ref h₁.objs.size) { s with heap := h₁.push (listOf us.toArray n), toks := tk } := by
  obtain ⟨hc, rfl, rfl⟩ := alloc_inv e
  have hf1 : h₁.get? h₁.objs.size = none := Heap.get?_none_of_le (Nat.le_refl _)
  have hf : s.heap.get? h₁.objs.size = none := k₁.none hf1
  have k := k₁.trans (Sub.push h₁ (listOf us.toArray n))
  refine P _ _ _ [h₁.objs.size] k (fun a ha => by rw [List.mem_singleton.mp ha]; exact hf) (S.add k hf ⟨n, Heap.get?_push_size _ rfl⟩ (by have := Rps.mono (β := []) k rs; simpa using this) hc) (.lst ?_)
  rw [List.getElem?_append_right (by rw [S.len]; omega), S.len]; simp

theorem StR.list {h : Heap} {α : List Addr} {σ : Store} (S : StR X h α σ) {i : Nat} {vs : List V} {u : Value} (hi : σ[i]? = some vs) (r : Rp X h α (.lst i) u) : ∃ a us, u = .ref a ∧ α[i]? = some a ∧ h.PlainList a us.toArray ∧ Rps X h α vs us ∧ us.length ≤ Mine.cap := by
  cases r with
  | lst e =>
    obtain ⟨a, us, e1, p, rs⟩ := S.get i vs hi
    rw [e] at e1; cases e1
    exact ⟨_, us, rfl, e, p, rs, by rw [← rs.length]; exact S.cap vs (List.mem_of_getElem? hi)⟩

/-- + -/
noncomputable def fAdd : Fn := fun vs σ => match vs with
  | [.int a, .int b] => some (.int (a + b), σ)
  | [.str x, .str y] => if x.length + y.length ≤ 100000 then some (.str (x ++ y), σ) else none
  | [.bytes x, .bytes y] => if x.size + y.size ≤ 100000 then some (.bytes (x ++ y), σ) else none
  | [.lst i, .lst j] => (match σ[i]?, σ[j]? with
    | some a, some b => alloc (a ++ b) σ
    | _, _ => none)
  | _ => none
theorem O_add : SoundV w lvl (tBin .Add) fAdd := by
  intro X A s α σ vs us v σ' Q E hR G S rs ev P
  match vs, us, rs with
  | [], _, _ => simp [fAdd] at ev
  | [_], _, _ => simp [fAdd] at ev
  | _ :: _ :: _ :: _, _, _ => simp [fAdd] at ev
  | [a, b], [u1, u2], .cons r1 (.cons r2 .nil) =>
    show wpAny _ A (binaryOp .Add u1 u2) Q E s
    cases a <;> cases b <;> first | (simp [fAdd] at ev; done) | skip
    · simp only [fAdd, Option.some.injEq, Prod.mk.injEq] at ev
      obtain ⟨rfl, rfl⟩ := ev
      cases r1; cases r2
      exact add_int (P.same S (.int _ _))
    · simp only [fAdd] at ev
      split at ev
      · rename_i hc
        simp only [Option.some.injEq, Prod.mk.injEq] at ev
        obtain ⟨rfl, rfl⟩ := ev
        cases r1; cases r2
        exact add_str (fun t' tk => P.same S (.str _ _)) (by rw [sizeLine_is]; omega)
      · cases ev
    · simp only [fAdd] at ev
      split at ev
      · rename_i hc
        simp only [Option.some.injEq, Prod.mk.injEq] at ev
        obtain ⟨rfl, rfl⟩ := ev
        cases r1; cases r2
        exact KBy.add_bytes (by omega) (fun t' tk => P.same S (.bytes _ _))
      · cases ev
    · rename_i i j
      simp only [fAdd] at ev
      cases hi : σ[i]? with
      | none => rw [hi] at ev; cases ev
      | some xs =>
        cases hj : σ[j]? with
        | none => rw [hi, hj] at ev; cases ev
        | some ys =>
          rw [hi, hj] at ev
          dsimp only at ev
          obtain ⟨a, ua, rfl, _, ⟨na, pa⟩, ra, ca⟩ := S.list hi r1
          obtain ⟨b, ub, rfl, _, ⟨nb, pb⟩, rb, cb⟩ := S.list hj r2
          refine concat_meets ⟨_, pa, rfl⟩ ⟨_, pb, rfl⟩ noFill_list_add seq_list_add PySem.F.slot_list_add PySem.F.entry_list_add (PySem.F.args_list_add_2 _ _) (list_addW a b ua.toArray ub.toArray na nb none none #[] #[] (by simp only [List.size_toArray]; rw [sizeLine_is]; rw [capLine] at ca cb; omega)) ⟨pa, pb, ?_⟩
          have e : ua.toArray ++ ub.toArray = (ua ++ ub).toArray := by simp
          rw [e]
          exact alloc_post (n := 0) (tk := s.toks) S (ra.append rb) ev P

/-- [1] * 16 -/
theorem foldl_app (xs : List Value) : ∀ (n : Nat) (acc : Array Value), List.foldl (fun x1 x2 => x1 ++ x2) acc (List.replicate n xs.toArray) = acc ++ (List.flatten (List.replicate n xs)).toArray
  | 0, acc => by simp
  | n + 1, acc => by
    rw [List.replicate_succ, List.foldl_cons, foldl_app xs n]
    simp [List.replicate_succ, Array.append_assoc]
theorem Rps.rep {h : Heap} {α : List Addr} {vs : List V} {us : List Value} (r : Rps X h α vs us) : ∀ n, Rps X h α (List.flatten (List.replicate n vs)) (List.flatten (List.replicate n us))
  | 0 => by simp; exact .nil
  | n + 1 => by
    rw [List.replicate_succ, List.replicate_succ, List.flatten_cons, List.flatten_cons]
    exact r.append (r.rep n)
noncomputable def fMul : Fn := fun vs σ => match vs with
  | [.int a, .int b] => if b.natAbs < 2 ^ 62 then some (.int (a * b), σ) else none
  | [.lst i, .int n] => (match σ[i]? with
    | some a => if 0 ≤ n ∧ n ≤ 64 then alloc (List.flatten (List.replicate n.toNat a)) σ else none
    | none => none)
  | _ => none
theorem O_mul : SoundV w lvl (tBin .Mult) fMul := by
  intro X A s α σ vs us v σ' Q E hR G S rs ev P
  match vs, us, rs with
  | [], _, _ => simp [fMul] at ev
  | [_], _, _ => simp [fMul] at ev
  | _ :: _ :: _ :: _, _, _ => simp [fMul] at ev
  | [a, b], [u1, u2], .cons r1 (.cons r2 .nil) =>
    show wpAny _ A (binaryOp .Mult u1 u2) Q E s
    cases a <;> cases b <;> first | (simp [fMul] at ev; done) | skip
    · simp only [fMul] at ev
      split at ev
      · rename_i hc
        simp only [Option.some.injEq, Prod.mk.injEq] at ev
        obtain ⟨rfl, rfl⟩ := ev
        cases r1; cases r2
        exact mul_int (P.same S (.int _ _)) (IntMulOk.of_right (bits_le hc))
      · cases ev
    · rename_i i n
      simp only [fMul] at ev
      cases hi : σ[i]? with
      | none => rw [hi] at ev; cases ev
      | some xs =>
        rw [hi] at ev
        dsimp only at ev
        split at ev
        · rename_i hn
          obtain ⟨a, ua, rfl, _, ⟨na, hl⟩, ra, ca⟩ := S.list hi r1
          cases r2 with
          | int _ tk =>
            have hlen := (alloc_inv ev).1
            have hz : ua.toArray.size * n.toNat ≤ 2 ^ 24 := by
              simp only [List.size_toArray]
              rw [capLine] at ca
              calc ua.length * n.toNat ≤ 4096 * 64 := Nat.mul_le_mul ca (by omega)
                _ ≤ 2 ^ 24 := by decide
            refine wpAny_binaryOp_repeat_ref (T := "list") (U := "int") (by decide) ⟨_, hl, rfl⟩ (fun s' => typeIs_int s' n tk) noFill_list_mul F.fills_int_mul F.slot_int_rmul repeat_list F.slot_int_index.lookup
              (call_meets F.slot_int_rmul (typeIs_int s n tk) F.entry_int_rmul (F.args_int_rmul_2 _ _) (int___rmul___int_list n tk a ua.toArray na)
                ⟨hl, rfl, ⟨_, hl, rfl⟩, call_meets F.slot_list_mul ⟨_, hl, rfl⟩ F.entry_list_mul (F.args_list_mul_2 _ _)
                  (AutoListH.list___mul___list_int_3 a ua.toArray na n tk (by simp [Builtin.List.listFitsIndex]; omega) (by omega) (by simp [Builtin.List.listTooLong, sizeLine]; simp only [List.size_toArray] at hz; omega))
                  ⟨hl, ?_⟩⟩)
            have key : List.foldl (fun x1 x2 => x1 ++ x2) #[] (List.replicate (if ua.toArray.isEmpty = true then 0 else n.toNat) ua.toArray) = (List.flatten (List.replicate n.toNat ua)).toArray := by
              rw [foldl_app]
              cases ua with
              | nil => simp
              | cons x r => simp
            rw [key]
            exact alloc_post (n := 0) (tk := s.toks) S (ra.rep _) ev P
        · cases ev

/-- ints of a list -/
noncomputable def ints? : List V → Option (List Int)
  | [] => some []
  | .int i :: r => (ints? r).map (i :: ·)
  | _ :: _ => none
theorem ints_are {h : Heap} {α : List Addr} : ∀ {vs : List V} {us : List Value} {ns : List Int}, Rps X h α vs us → ints? vs = some ns → IntsAre us ns
  | [], _, ns, .nil, e => by simp only [ints?, Option.some.injEq] at e; subst e; exact .nil
  | .int i :: r, _, ns, .cons a b, e => by
    simp only [ints?] at e
    cases hr : ints? r with
    | none => rw [hr] at e; cases e
    | some ms =>
      rw [hr] at e
      simp only [Option.map_some, Option.some.injEq] at e
      subst e
      cases a with
      | int _ t => exact .cons i t (ints_are b hr)
  | .none :: _, _, _, _, e => by simp [ints?] at e
  | .bool _ :: _, _, _, _, e => by simp [ints?] at e
  | .str _ :: _, _, _, _, e => by simp [ints?] at e
  | .bytes _ :: _, _, _, _, e => by simp [ints?] at e
  | .tup _ :: _, _, _, _, e => by simp [ints?] at e
  | .lst _ :: _, _, _, _, e => by simp [ints?] at e

/-- != of two ints, of two lists of ints -/
noncomputable def fNe : Fn := fun vs σ => match vs with
  | [.int a, .int b] => some (.bool (a != b), σ)
  | [.lst i, .lst j] => (match σ[i]?, σ[j]? with
    | some a, some b => (match ints? a, ints? b with
      | some ns, some ms => some (.bool (!decide (ns = ms)), σ)
      | _, _ => none)
    | _, _ => none)
  | _ => none
theorem C_ne (hl : 9 ≤ lvl) : SoundV w lvl (tCmp .NotEq) fNe := by
  intro X A s α σ vs us v σ' Q E hR G S rs ev P
  match vs, us, rs with
  | [], _, _ => simp [fNe] at ev
  | [_], _, _ => simp [fNe] at ev
  | _ :: _ :: _ :: _, _, _ => simp [fNe] at ev
  | [a, b], [u1, u2], .cons r1 (.cons r2 .nil) =>
    show wpAny _ A (compareOp .NotEq u1 u2) Q E s
    cases a <;> cases b <;> first | (simp [fNe] at ev; done) | skip
    · simp only [fNe, Option.some.injEq, Prod.mk.injEq] at ev
      obtain ⟨rfl, rfl⟩ := ev
      cases r1; cases r2
      exact ne_int (P.same (tk := s.toks) S (.bool _))
    · rename_i i j
      simp only [fNe] at ev
      cases hi : σ[i]? with
      | none => rw [hi] at ev; cases ev
      | some xs =>
        cases hj : σ[j]? with
        | none => rw [hi, hj] at ev; cases ev
        | some ys =>
          rw [hi, hj] at ev
          dsimp only at ev
          cases hx : ints? xs with
          | none => rw [hx] at ev; cases ev
          | some ns =>
            cases hy : ints? ys with
            | none => rw [hx, hy] at ev; cases ev
            | some ms =>
              rw [hx, hy] at ev
              simp only [Option.some.injEq, Prod.mk.injEq] at ev
              obtain ⟨rfl, rfl⟩ := ev
              obtain ⟨a, ua, rfl, _, pa, ra, ca⟩ := S.list hi r1
              obtain ⟨b, ub, rfl, _, pb, rb, cb⟩ := S.list hj r2
              exact ne_intsK pa.isList (ints_are ra hx) pb.isList (ints_are rb hy) (by have := hR.units; omega) (P.same (tk := s.toks) S (.bool _))

/-- functions of one list -/
noncomputable def onList (g : List V → Option V) : Fn := fun vs σ => match vs with
  | [.lst i] => (match σ[i]? with
    | some a => (g a).map (·, σ)
    | none => none)
  | _ => none
theorem V_onList {t : List Value → Sem Value} {g : List V → Option V}
    (h : ∀ (X : List Addr) (A : Around) (s : Shared) (α : List Addr) (a : Addr) (vs : List V) (us : List Value) (v : V) (Q E : Value → Shared → Prop), Room A lvl → s.heap.PlainList a us.toArray → Rps X s.heap α vs us → us.length ≤ cap → g vs = some v →
      (∀ u h' tk, Sub s.heap h' → (∀ (X : List Addr) h α, Rp X h α v u) → Q u { s with heap := h', toks := tk }) → wpAny (model Prg w) A (t [.ref a]) Q E s) : SoundV w lvl t (onList g) := by
  intro X A s α σ vs us v σ' Q E hR G S rs ev P
  match vs, us, rs with
  | [], _, _ => simp [onList] at ev
  | _ :: _ :: _, _, _ => simp [onList] at ev
  | [x], [u1], .cons r1 .nil =>
    cases x <;> first | (simp [onList] at ev; done) | skip
    rename_i i
    simp only [onList] at ev
    cases hi : σ[i]? with
    | none => rw [hi] at ev; cases ev
    | some xs =>
      rw [hi] at ev
      dsimp only at ev
      cases hg : g xs with
      | none => rw [hg] at ev; cases ev
      | some v' =>
        rw [hg] at ev
        simp only [Option.map_some, Option.some.injEq, Prod.mk.injEq] at ev
        obtain ⟨rfl, rfl⟩ := ev
        obtain ⟨a, ua, rfl, _, pa, ra, ca⟩ := S.list hi r1
        exact h X A s α a xs ua v' Q E hR pa ra ca hg fun u h' tk k hu => P.heap k S (hu _ _ _)
noncomputable def gLen (vs : List V) : Option V := some (.int vs.length)
theorem B_len : SoundV w lvl (fun us => call (.builtin "len") us) (onList gLen) :=
  V_onList fun X A s α a vs us v Q E hR p r hc hg hQ => by
    cases hg
    refine len_list p.isList (by simp only [List.size_toArray]; rw [capLine] at hc; omega) ?_
    simp only [List.size_toArray]
    rw [← r.length]
    exact hQ _ s.heap _ (Sub.refl _) fun _ _ _ => .int _ _
noncomputable def gSum (vs : List V) : Option V := (ints? vs).map fun ns => .int ns.sum
theorem B_sum : SoundV w lvl (fun us => call (.builtin "sum") us) (onList gSum) :=
  V_onList fun X A s α a vs us v Q E hR p r hc hg hQ => by
    unfold gSum at hg
    cases hn : ints? vs with
    | none => rw [hn] at hg; cases hg
    | some ns =>
      rw [hn] at hg
      simp only [Option.map_some, Option.some.injEq] at hg
      subst hg
      have hi := ints_are r hn
      obtain ⟨xs, e⟩ := hi.allInts.items
      have hl := p.isList
      rw [e] at hl
      refine sum_intListG hR.handled hl fun h' tk t' hk => ?_
      rw [preSum_eq, List.take_of_length_le (by simp), ← nums_intItems, ← e]
      rw [show us.toArray.toList = us from rfl, hi.numsOf]
      exact hQ _ h' tk hk fun _ _ _ => .int _ _
noncomputable def gMin (vs : List V) : Option V := match ints? vs with
  | some (n :: ns) => some (.int (ns.foldl min n))
  | _ => none
noncomputable def gMax (vs : List V) : Option V := match ints? vs with
  | some (n :: ns) => some (.int (ns.foldl max n))
  | _ => none
theorem foldl_min (ns : List Int) : ∀ n : Int, ns.foldl min n ∈ n :: ns ∧ ∀ a ∈ n :: ns, ns.foldl min n ≤ a := by
  induction ns with
  | nil => intro n; simp
  | cons m r ih =>
    intro n
    obtain ⟨h1, h2⟩ := ih (min n m)
    rw [List.foldl_cons]
    constructor
    · rcases List.mem_cons.mp h1 with q | q
      · rw [q]; rcases Int.le_total n m with z | z
        · rw [Int.min_eq_left z]; simp
        · rw [Int.min_eq_right z]; simp
      · simp [q]
    · intro a ha
      have h3 := h2 (min n m) (by simp)
      rcases List.mem_cons.mp ha with q | q
      · subst q; omega
      · rcases List.mem_cons.mp q with q | q
        · subst q; omega
        · exact h2 a (by simp [q])
theorem foldl_max (ns : List Int) : ∀ n : Int, ns.foldl max n ∈ n :: ns ∧ ∀ a ∈ n :: ns, a ≤ ns.foldl max n := by
  induction ns with
  | nil => intro n; simp
  | cons m r ih =>
    intro n
    obtain ⟨h1, h2⟩ := ih (max n m)
    rw [List.foldl_cons]
    constructor
    · rcases List.mem_cons.mp h1 with q | q
      · rw [q]; rcases Int.le_total n m with z | z
        · rw [Int.max_eq_right z]; simp
        · rw [Int.max_eq_left z]; simp
      · simp [q]
    · intro a ha
      have h3 := h2 (max n m) (by simp)
      rcases List.mem_cons.mp ha with q | q
      · subst q; omega
      · rcases List.mem_cons.mp q with q | q
        · subst q; omega
        · exact h2 a (by simp [q])
theorem B_min : SoundV w lvl (fun us => call (.builtin "min") us) (onList gMin) :=
  V_onList fun X A s α a vs us v Q E hR p r hc hg hQ => by
    unfold gMin at hg
    split at hg
    · rename_i n ns hn
      cases hg
      have hi := ints_are r hn
      obtain ⟨xs, e⟩ := hi.allInts.items
      have hns : n :: ns = xs.toList.map (·.1) := by
        rw [← hi.numsOf, ← nums_intItems, ← e]
      have hsz : 0 < xs.size := by
        have h3 : 0 < (n :: ns).length := by simp
        rw [hns, List.length_map, Array.length_toList] at h3; exact h3
      have hl := p.isList
      rw [e] at hl
      refine min_intList hR.handled hl hsz fun v h' tk hv hk => ?_
      obtain ⟨t, rfl⟩ := intItems_at hv
      obtain ⟨h1, h2⟩ := argBest_lt (numAt xs) (xs.size - 1)
      have hm : numAt xs (argBest (fun i j => decide (numAt xs i < numAt xs j)) (xs.size - 1)) = ns.foldl min n := by
        obtain ⟨f1, f2⟩ := foldl_min ns n
        have m1 : numAt xs (argBest (fun i j => decide (numAt xs i < numAt xs j)) (xs.size - 1)) ∈ n :: ns := by
          rw [hns, numAt_eq]; exact getD_mem (by rw [List.length_map, Array.length_toList]; omega)
        have m2 : ∀ b ∈ n :: ns, numAt xs (argBest (fun i j => decide (numAt xs i < numAt xs j)) (xs.size - 1)) ≤ b := fun b hb => by
          rw [hns] at hb
          obtain ⟨j, hj, rfl⟩ := mem_getD hb
          rw [List.length_map, Array.length_toList] at hj
          rw [← numAt_eq]; exact h2 j (by omega)
        have a1 := f2 _ m1
        have a2 := m2 _ f1
        omega
      rw [hm]
      exact hQ _ h' tk hk fun _ _ _ => .int _ _
    · cases hg
theorem B_max : SoundV w lvl (fun us => call (.builtin "max") us) (onList gMax) :=
  V_onList fun X A s α a vs us v Q E hR p r hc hg hQ => by
    unfold gMax at hg
    split at hg
    · rename_i n ns hn
      cases hg
      have hi := ints_are r hn
      obtain ⟨xs, e⟩ := hi.allInts.items
      have hns : n :: ns = xs.toList.map (·.1) := by
        rw [← hi.numsOf, ← nums_intItems, ← e]
      have hsz : 0 < xs.size := by
        have h3 : 0 < (n :: ns).length := by simp
        rw [hns, List.length_map, Array.length_toList] at h3; exact h3
      have hl := p.isList
      rw [e] at hl
      refine max_intList hR.handled hl hsz fun v h' tk hv hk => ?_
      obtain ⟨t, rfl⟩ := intItems_at hv
      obtain ⟨h1, h2⟩ := argBest_gt (numAt xs) (xs.size - 1)
      have hm : numAt xs (argBest (fun i j => decide (numAt xs i > numAt xs j)) (xs.size - 1)) = ns.foldl max n := by
        obtain ⟨f1, f2⟩ := foldl_max ns n
        have m1 : numAt xs (argBest (fun i j => decide (numAt xs i > numAt xs j)) (xs.size - 1)) ∈ n :: ns := by
          rw [hns, numAt_eq]; exact getD_mem (by rw [List.length_map, Array.length_toList]; omega)
        have m2 : ∀ b ∈ n :: ns, b ≤ numAt xs (argBest (fun i j => decide (numAt xs i > numAt xs j)) (xs.size - 1)) := fun b hb => by
          rw [hns] at hb
          obtain ⟨j, hj, rfl⟩ := mem_getD hb
          rw [List.length_map, Array.length_toList] at hj
          rw [← numAt_eq]; exact h2 j (by omega)
        have a1 := f2 _ m1
        have a2 := m2 _ f1
        omega
      rw [hm]
      exact hQ _ h' tk hk fun _ _ _ => .int _ _
    · cases hg

noncomputable def gAbs : V → Option V
  | .int a => some (.int (if a < 0 then -a else a))
  | _ => none
theorem B_abs : SoundV w lvl (fun us => call (.builtin "abs") us) (f1 gAbs) :=
  V_flat1 fun X A s h₀ α a v u1 Q E _ r hf hQ => by
    cases r <;> first | (cases hf; done) | skip
    cases hf; exact call_abs_int fun u tk => hQ _ _ fun _ _ _ => .int _ _
noncomputable def gInt : V → Option V
  | .int a => some (.int a)
  | _ => none
theorem B_int : SoundV w lvl (fun us => call (.type "int") us) (f1 gInt) :=
  V_flat1 fun X A s h₀ α a v u1 Q E _ r hf hQ => by
    cases r <;> first | (cases hf; done) | skip
    cases hf; exact call_int_int (hQ _ s.toks fun _ _ _ => .int _ _)
noncomputable def fDivmod : Fn := fun vs σ => match vs with
  | [.int a, .int b] => if 0 < b ∧ b < 2 ^ 30 then some (.tup [.int (a / b), .int (a % b)], σ) else none
  | _ => none
theorem B_divmod : SoundV w lvl (fun us => call (.builtin "divmod") us) fDivmod := by
  intro X A s α σ vs us v σ' Q E hR G S rs ev P
  match vs, us, rs with
  | [], _, _ => simp [fDivmod] at ev
  | [_], _, _ => simp [fDivmod] at ev
  | _ :: _ :: _ :: _, _, _ => simp [fDivmod] at ev
  | [a, b], [u1, u2], .cons r1 (.cons r2 .nil) =>
    cases a <;> cases b <;> first | (simp [fDivmod] at ev; done) | skip
    simp only [fDivmod] at ev
    split at ev
    · rename_i hb
      simp only [Option.some.injEq, Prod.mk.injEq] at ev
      obtain ⟨rfl, rfl⟩ := ev
      cases r1; cases r2
      refine divmod_int (by omega) ?_ (.inl (PyProof.noPylong_small (by omega)))
      rw [Int.fdiv_eq_ediv_of_nonneg _ (by omega), Int.fmod_eq_emod_of_nonneg _ (by omega)]
      exact P.heap (Sub.push s.heap _) S (.tup (us := [_, _]) (S.new (Heap.get?_none_of_le (Nat.le_refl _))) ⟨_, Heap.get?_push_size _ rfl, rfl, _, rfl⟩ (.cons (.int _ _) (.cons (.int _ _) .nil)))
    · cases ev

noncomputable def gIndex : V → V → Option V
  | .str x, .str y => if (Builtin.Str.occurrences x y 0 x.length 1).isEmpty = false then some (.int (Txt.find x y)) else none
  | _, _ => none
theorem B_index : SoundV w lvl (fun us => call (.builtin "str.index") us) (f2 gIndex) :=
  V_flat2 fun X A s h₀ α a b v u1 u2 Q E hR r1 r2 hf hQ => by
    cases r1 <;> cases r2 <;> first | (cases hf; done) | skip
    simp only [gIndex] at hf
    split at hf
    · rename_i hc
      cases hf
      exact index_or hR.handled (fun _ e => by rw [hc] at e; cases e) (fun _ _ => hQ _ _ fun _ _ _ => .int _ _)
    · cases hf
end Mine
end

section
open PySem PySem.W PyProof.Rows PySem.Calls
set_option Elab.async false
set_option autoImplicit false
namespace Mine
variable {X : List Addr} {w : World} {lvl : Nat} {sc : Scope}

/-- an item: a place within, from the front or from behind -/
noncomputable def pyIdx {α : Type} (vs : List α) (k : Int) : Option α :=
  if 0 ≤ k then (if k < 100000 then vs[k.toNat]? else none) else if -(vs.length : Int) ≤ k ∧ -100000 < k then vs[(k + vs.length).toNat]? else none
noncomputable def fItem : Fn := fun vs σ => match vs with
  | [.lst l, .int k] => (match σ[l]? with
    | some xs => (pyIdx xs k).map (·, σ)
    | none => none)
  | [.tup xs, .int k] => (pyIdx xs k).map (·, σ)
  | [.str x, .int k] => if 0 ≤ k ∧ k < 100000 then (x.cps[k.toNat]?).map fun c => (.str ⟨#[c]⟩, σ) else none
  | _ => none

theorem seqIndex_pos {i : Int} {n : Nat} (h0 : 0 ≤ i) (h1 : i.toNat < n) : seqIndex? i n = some i.toNat := by
  unfold seqIndex?
  have a : ¬ i < 0 := by omega
  have b : i < (n : Int) := by omega
  simp [a, h0, b]
theorem seqIndex_neg {i : Int} {n : Nat} (h0 : i < 0) (h1 : -(n : Int) ≤ i) : seqIndex? i n = some (i + n).toNat := by
  unfold seqIndex?
  have a : 0 ≤ i + (n : Int) := by omega
  have b : i + (n : Int) < n := by omega
  simp [h0, a, b]
theorem E_item {value slice : Expr} {pos : Pos} {a b : Den} (ha : SoundE w lvl sc value a) (hb : SoundE w lvl sc slice b)
    (hs : ∀ o i, subscripted slice false o i = operate [o, i] (getItem o i) := by intro _ _; rfl) :
    SoundE w lvl sc (.Subscript value slice pos) (dFlat (d2 fItem a b)) := by
  refine SoundE.flat ?_
  refine SoundE.mk ?_
  intro X env A s ρ α σ v σ' Q E hE hR G R S ev P
  refine Subscript_ ?_
  obtain ⟨x, σ1, y, σ2, h1, h2, h3⟩ := d2_inv ev
  refine ha.run X env A s ρ α σ x σ1 _ E hE hR G R S h1 fun u h' tk' β k hfr S1 r => ?_
  refine hb.run X env A _ ρ (α ++ β) σ1 y σ2 _ E hE hR (G.keeps k) (R.mono k) S1 h2 fun u2 h2' tk2 β2 k2 hfr2 S2 r2 => ?_
  have r' : Rp X h2' (α ++ β ++ β2) x u := Rp.mono k2 r
  have P' : EPost X { s with heap := h2', toks := tk2 } (α ++ β ++ β2) σ' v Q := by
    intro u3 h3' tk3 β3 k3 hfr3 S3 r3
    have := P u3 h3' tk3 (β ++ β2 ++ β3) ((k.trans k2).trans k3) ((hfr.app k hfr2).app (k.trans k2) hfr3) (by rw [← List.append_assoc, ← List.append_assoc]; exact S3) (by rw [← List.append_assoc, ← List.append_assoc]; exact r3)
    exact this
  show wpAny _ A (subscriptTail value slice u u2) Q E { s with heap := h2', toks := tk2 }
  cases x with
  | lst l =>
    cases y with
    | int i =>
      simp only [fItem] at h3
      cases hl : σ2[l]? with
      | none => rw [hl] at h3; cases h3
      | some xs =>
        rw [hl] at h3
        dsimp only at h3
        cases hx : pyIdx xs i with
        | none => rw [hx] at h3; cases h3
        | some v' =>
          rw [hx] at h3
          simp only [Option.map_some, Option.some.injEq, Prod.mk.injEq] at h3
          obtain ⟨rfl, rfl⟩ := h3
          obtain ⟨a, ua, rfl, _, pa, ra, ca⟩ := S2.list hl r'
          cases r2 with
          | int _ t =>
            refine tail_any (pa.isList).typeIs slot_list_getitem.lookup ?_ (hs _ _)
            unfold pyIdx at hx
            split at hx
            · rename_i h0
              split at hx
              · rename_i h9
                obtain ⟨u', e, ru⟩ := ra.get hx
                exact wpAny_getItem_list pa.isList h0 (by omega) (by simpa using e) (P'.same (tk := tk2) S2 ru)
              · cases hx
            · split at hx
              · rename_i h0 h9
                obtain ⟨u', e, ru⟩ := ra.get hx
                rw [ra.length] at e h9
                exact wpAny_getItem_list_neg pa.isList (by omega) (by simp only [List.size_toArray]; exact h9.1) (by omega) (by simpa using e) (P'.same (tk := tk2) S2 ru)
              · cases hx
    | _ => simp [fItem] at h3
  | tup xs =>
    cases y with
    | int i =>
      simp only [fItem] at h3
      cases hx : pyIdx xs i with
      | none => rw [hx] at h3; cases h3
      | some v' =>
        rw [hx] at h3
        simp only [Option.map_some, Option.some.injEq, Prod.mk.injEq] at h3
        obtain ⟨rfl, rfl⟩ := h3
        cases r' with
        | @tup _ us a _ ht ra =>
          cases r2 with
          | int _ t =>
            have hlen := ra.length
            have key : ∀ j u', seqIndex? i us.toArray.size = some j → us[j]? = some u' → Rp X h2' (α ++ β ++ β2) v' u' → -(2 ^ 63) ≤ i → i < 2 ^ 63 →
                wpAny (model Prg w) A (subscriptTail value slice (.ref a) (.int i t)) Q E { s with heap := h2', toks := tk2 } := fun j u' e1 e2 ru b1 b2 =>
              item_tupleT ht b1 b2 e1 (by simpa using e2) (P'.same (tk := tk2) S2 ru) (hs _ _)
            unfold pyIdx at hx
            split at hx
            · rename_i h0
              split at hx
              · rename_i h9
                obtain ⟨u', e, ru⟩ := ra.get hx
                have hlt := (List.getElem?_eq_some_iff.mp e).1
                exact key i.toNat u' (seqIndex_pos h0 (by simpa using hlt)) e ru (by omega) (by omega)
              · cases hx
            · split at hx
              · rename_i h0 h9
                obtain ⟨u', e, ru⟩ := ra.get hx
                rw [hlen] at e h9
                have hlt := (List.getElem?_eq_some_iff.mp e).1
                exact key _ u' (by have := seqIndex_neg (n := us.toArray.size) (i := i) (by omega) (by simpa using h9.1); simpa using this) e ru (by omega) (by omega)
              · cases hx
    | _ => simp [fItem] at h3
  | str x =>
    cases y with
    | int i =>
      simp only [fItem] at h3
      split at h3
      · rename_i h0
        cases hx : x.cps[i.toNat]? with
        | none => rw [hx] at h3; cases h3
        | some c =>
          rw [hx] at h3
          simp only [Option.map_some, Option.some.injEq, Prod.mk.injEq] at h3
          obtain ⟨rfl, rfl⟩ := h3
          cases r' with
          | str _ t1 =>
            cases r2 with
            | int _ t =>
              have hlt := (Array.getElem?_eq_some_iff.mp hx).1
              refine tail_any (typeIs_str _ _ _) F.slot_str_getitem.lookup (getItem_str (c := c) ?_ ?_ (P'.same S2 (.str _ _))) (hs _ _)
              · simp; omega
              · have : seqIndex? i x.length = some i.toNat := seqIndex_pos h0.1 hlt
                rw [this]; exact hx
      · cases h3
    | _ => simp [fItem] at h3
  | _ => cases y <;> simp [fItem] at h3

/-- a part of a slice: an int or none -/
noncomputable def dPart : Option Den → Loc → Store → Option (Option Int)
  | none, _, _ => some none
  | some d, ρ, σ => match d ρ σ with
    | some (.int i, _) => some (some i)
    | _ => none
inductive SoundP (w : World) (lvl : Nat) (sc : Scope) : Option Expr → Option Den → Prop
  | none : SoundP w lvl sc none none
  | some {e : Expr} {d : Den} : SoundE w lvl sc e d → SoundP w lvl sc (some e) (some d)
theorem SoundP.run {l : Option Expr} {d : Option Den} (h : SoundP w lvl sc l d) {env : Env} {A : Around} {s : Shared} {ρ : Loc} {α : List Addr} {σ : Store} {oi : Option Int} {Q E : Value → Shared → Prop}
    (hE : EnvOk env sc) (hR : Room A lvl) (G : Gd w s.heap) (R : EnvR X env s.heap α ρ) (S : StR X s.heap α σ) (ev : dPart d ρ σ = Option.some oi)
    (P : ∀ v h' tk', Sub s.heap h' → IsPart v oi → Q v { s with heap := h', toks := tk' }) : wpAny (model Prg w) A (evalPart l env) Q E s := by
  cases h with
  | none =>
    simp only [dPart, Option.some.injEq] at ev
    subst ev
    rw [evalPart_none]
    exact wpAny_pure (P _ _ s.toks (Sub.refl _) .none)
  | @some e d he =>
    rw [evalPart_some]
    unfold dPart at ev
    dsimp only at ev
    cases h1 : d ρ σ with
    | none => rw [h1] at ev; cases ev
    | some p =>
      obtain ⟨v, σ1⟩ := p
      rw [h1] at ev
      cases v <;> first | (cases ev; done) | skip
      simp only [Option.some.injEq] at ev
      subst ev
      refine he.run X env A s ρ α σ _ σ1 _ E hE hR G R S h1 fun u h' tk' β k hfr S1 r => ?_
      cases r with
      | int _ t => exact P _ _ _ k (.int _ t)

noncomputable def vSlice {α : Type} (vs : List α) (lo hi st : Option Int) : List α :=
  (sliceRange (sliceBounds lo hi st vs.length).1 (sliceBounds lo hi st vs.length).2.1 (sliceBounds lo hi st vs.length).2.2).filterMap (vs[·]?)
theorem Rps.pick {h : Heap} {α : List Addr} {vs : List V} {us : List Value} (r : Rps X h α vs us) : ∀ l : List Nat, Rps X h α (l.filterMap (vs[·]?)) (l.filterMap (us[·]?))
  | [] => .nil
  | i :: l => by
    have ih := r.pick l
    simp only [List.filterMap_cons]
    cases hv : vs[i]? with
    | none =>
      have : us[i]? = none := by
        rw [List.getElem?_eq_none_iff] at hv ⊢
        rw [← r.length]; exact hv
      rw [this]; exact ih
    | some v =>
      obtain ⟨u, e, ru⟩ := r.get hv
      rw [e]; exact .cons ru ih
theorem Rps.slice {h : Heap} {α : List Addr} {vs : List V} {us : List Value} (r : Rps X h α vs us) (lo hi st : Option Int) : Rps X h α (vSlice vs lo hi st) (slicePick us.toArray lo hi st).toList := by
  unfold vSlice slicePick
  rw [r.length]
  have := r.pick (sliceRange (sliceBounds lo hi st us.length).1 (sliceBounds lo hi st us.length).2.1 (sliceBounds lo hi st us.length).2.2)
  simpa using this

/-- list[lo:hi] -/
noncomputable def dSliceL (a : Den) (dl du : Option Den) : Den := fun ρ σ => match a ρ σ with
  | some (.lst l, σ1) => (match dPart dl ρ σ1, dPart du ρ σ1, σ1[l]? with
    | some lo, some hi, some xs => alloc (vSlice xs lo hi none) σ1
    | _, _, _ => none)
  | _ => none
theorem E_sliceL {value : Expr} {lower upper : Option Expr} {p pos : Pos} {a : Den} {dl du : Option Den} (ha : SoundE w lvl sc value a) (hl : SoundP w lvl sc lower dl) (hu : SoundP w lvl sc upper du)
    (ht : ∀ o r, letTemporaryGo value o r = pure () := by intro _ _; rfl) :
    SoundE w lvl sc (.Subscript value (.Slice lower upper none p) pos) (dSliceL a dl du) := by
  refine SoundE.mk ?_
  intro X env A s ρ α σ v σ' Q E hE hR G R S ev P
  unfold dSliceL at ev
  cases h1 : a ρ σ with
  | none => rw [h1] at ev; cases ev
  | some q =>
    obtain ⟨x, σ1⟩ := q
    rw [h1] at ev
    cases x <;> first | (cases ev; done) | skip
    rename_i l
    dsimp only at ev
    cases h2 : dPart dl ρ σ1 with
    | none => rw [h2] at ev; cases ev
    | some lo =>
      cases h3 : dPart du ρ σ1 with
      | none => rw [h2, h3] at ev; cases ev
      | some hi =>
        cases h4 : σ1[l]? with
        | none => rw [h2, h3, h4] at ev; cases ev
        | some xs =>
          rw [h2, h3, h4] at ev
          dsimp only at ev
          refine wpAny_Subscript_list_slice ?_ ht
          refine ha.run X env A s ρ α σ _ σ1 _ E hE hR G R S h1 fun u h' tk' β k hfr S1 r => ?_
          refine hl.run (s := { s with heap := h', toks := tk' }) hE hR (G.keeps k) (R.mono k) S1 h2 fun vl hA tA kA pA => ?_
          refine hu.run (s := { s with heap := hA, toks := tA }) hE hR ((G.keeps k).keeps kA) (by have := EnvR.mono (β := []) (R.mono (β := β) k) kA; simpa using this) (S1.mono kA) h3 fun vu hB tB kB pB => ?_
          have kAB : Sub h' hB := Sub.trans kA kB
          obtain ⟨a', ua, rfl, _, pa, ra, ca⟩ := S1.list h4 r
          refine ⟨a', ua.toArray, lo, hi, rfl, (pa.isList).at fun o => kAB _ o, by simp only [List.size_toArray]; rw [sizeLine_is]; rw [capLine] at ca; omega, pA, pB, ?_⟩
          have P' : EPost X { s with heap := h', toks := tk' } (α ++ β) σ' v Q := by
            intro u3 h3' tk3 β3 k3 hfr3 S3 r3
            have := P u3 h3' tk3 (β ++ β3) (k.trans k3) (hfr.app k hfr3) (by rw [← List.append_assoc]; exact S3) (by rw [← List.append_assoc]; exact r3)
            exact this
          have kS := Sub.push hB { cls := .type "slice", data := .fields #[vl, vu, .none] }
          have fin := alloc_post2 (h₁ := hB.push { cls := .type "slice", data := .fields #[vl, vu, .none] }) (n := 0) (tk := tB) (us := (slicePick ua.toArray lo hi none).toList) S1 (kAB.trans kS) (ra.slice lo hi none) ev P'
          have e1 : (hB.push { cls := .type "slice", data := .fields #[vl, vu, .none] }).objs.size = hB.objs.size + 1 := Heap.size_push ..
          rw [e1] at fin
          simpa using fin

theorem EPost.on {s : Shared} {α β : List Addr} {σ' : Store} {v : V} {Q : Value → Shared → Prop} {h' : Heap} {tk' : Nat} (P : EPost X s α σ' v Q) (k : Sub s.heap h') (hfr : Fresh s.heap β) : EPost X { s with heap := h', toks := tk' } (α ++ β) σ' v Q := by
  intro u3 h3' tk3 β3 k3 hfr3 S3 r3
  have := P u3 h3' tk3 (β ++ β3) (k.trans k3) (hfr.app k hfr3) (by rw [← List.append_assoc]; exact S3) (by rw [← List.append_assoc]; exact r3)
  exact this
theorem EnvR.mono0 {env : Env} {h h' : Heap} {α : List Addr} {ρ : Loc} (R : EnvR X env h α ρ) (k : Sub h h') : EnvR X env h' α ρ := by
  have := EnvR.mono (β := []) R k; simpa using this

/-- list[lo::st] -/
noncomputable def dStep (a : Den) (dl dt : Option Den) : Den := fun ρ σ => match a ρ σ with
  | some (.lst l, σ1) => (match dPart dl ρ σ1, dPart dt ρ σ1, σ1[l]? with
    | some lo, some (some st), some xs => if st ≠ 0 then alloc (vSlice xs lo none (some st)) σ1 else none
    | _, _, _ => none)
  | _ => none
theorem E_step {value : Expr} {lower : Option Expr} {st : Expr} {p pos : Pos} {a : Den} {dl dt : Option Den} (ha : SoundE w lvl sc value a) (hl : SoundP w lvl sc lower dl) (hu : SoundP w lvl sc (some st) dt)
    (ht : ∀ o r, letTemporaryGo value o r = pure () := by intro _ _; rfl) :
    SoundE w lvl sc (.Subscript value (.Slice lower none (some st) p) pos) (dStep a dl dt) := by
  refine SoundE.mk ?_
  intro X env A s ρ α σ v σ' Q E hE hR G R S ev P
  unfold dStep at ev
  cases h1 : a ρ σ with
  | none => rw [h1] at ev; cases ev
  | some q =>
    obtain ⟨x, σ1⟩ := q
    rw [h1] at ev
    cases x <;> first | (cases ev; done) | skip
    rename_i l
    dsimp only at ev
    cases h2 : dPart dl ρ σ1 with
    | none => rw [h2] at ev; cases ev
    | some lo =>
      cases h3 : dPart dt ρ σ1 with
      | none => rw [h2, h3] at ev; cases ev
      | some ot =>
        cases ot with
        | none => rw [h2, h3] at ev; cases ev
        | some stp =>
          cases h4 : σ1[l]? with
          | none => rw [h2, h3, h4] at ev; cases ev
          | some xs =>
            rw [h2, h3, h4] at ev
            dsimp only at ev
            split at ev
            · rename_i h0
              refine wpAny_Subscript_Slice_step (T := "list") list_getitem_lookup ?_ ht
              refine ha.run X env A s ρ α σ _ σ1 _ E hE hR G R S h1 fun u h' tk' β k hfr S1 r => ?_
              refine wpAny_Slice ?_
              refine hl.run (s := { s with heap := h', toks := tk' }) hE hR (G.keeps k) (R.mono k) S1 h2 fun vl hA tA kA pA => ?_
              rw [evalPart_none]
              refine wpAny_pure ?_
              refine hu.run (s := { s with heap := hA, toks := tA }) hE hR ((G.keeps k).keeps kA) ((R.mono (β := β) k).mono0 kA) (S1.mono kA) h3 fun vt hB tB kB pB => ?_
              have kAB : Sub h' hB := Sub.trans kA kB
              obtain ⟨a', ua, rfl, _, pa, ra, ca⟩ := S1.list h4 r
              have kS := Sub.push hB { cls := .type "slice", data := .fields #[vl, .none, vt] }
              have hlist : (hB.push { cls := .type "slice", data := .fields #[vl, .none, vt] }).IsList a' ua.toArray := (pa.isList).at fun o e => kS _ o (kAB _ o e)
              refine ⟨hlist.typeIs, ?_⟩
              refine wpAny_getItem_list_slice hlist (Heap.IsSliceOf.new ..) pA .none pB (by simpa using h0) ?_ (by simp only [List.size_toArray]; rw [sizeLine_is]; rw [capLine] at ca; omega)
              have fin := alloc_post2 (h₁ := hB.push { cls := .type "slice", data := .fields #[vl, .none, vt] }) (n := 0) (tk := tB) (us := (slicePick ua.toArray lo none (some stp)).toList) S1 (kAB.trans kS) (ra.slice lo none (some stp)) ev (P.on (tk' := tk') k hfr)
              simpa using fin
            · cases ev

theorem Subscript_Slice' {M : Model} {A : Around} {E : Value → Shared → Prop} {s : Shared} {env : Env} {value : Expr} {lower upper : Option Expr} {p pos : Pos} {T id : String} {Q : Value → Shared → Prop}
    (hl : typeLookup (.type T) "__getitem__" = pure (some (.builtin id)))
    (h : wpAny M A (eval value env) (fun o s₁ => wpAny M A (eval (.Slice lower upper none p) env) (fun i s₂ => (∀ r, letTemporaryGo value o r = pure ()) ∧ s₂.TypeIs o T ∧ wpAny M A (getItem o i) Q E s₂) E s₁) E s) :
    wpAny M A (eval (.Subscript value (.Slice lower upper none p) pos) env) Q E s := by
  rw [eval_Subscript]
  refine wpAny_bind (wpAny_mono h (fun o s₁ h₁ => wpAny_bind (wpAny_holding (wpAny_mono h₁ (fun i s₂ h₂ => wpAny_bind (wpAny_standAt ?_)) fun _ _ x => x)))
    fun _ _ x => x)
  obtain ⟨ht, h₂⟩ := h₂
  have fin : wpAny M A (operate [i, o] (getItem o i)) (fun r s₃ => wpAny M A (letTemporaryGo value o r >>= fun _ => pure r) Q E s₃) E s₂ :=
    wpAny_operating (wpAny_mono h₂.2 (fun r s₃ h₃ => wpAny_bind (wpAny_of_eq (ht r) (wpAny_pure h₃))) fun _ _ x => x)
  first
    | (refine wpAny_bind ?_
       rw [getitemInPython_of_ne h₂.1.not_modules]
       refine wpAny_bind (wpAny_specialOf h₂.1 hl ?_)
       first
         | exact wpAny_pure (wpAny_bind fin)
         | exact wpAny_bind (wpAny_pure (wpAny_bind fin))
         | exact wpAny_bind fin)
    | (refine wpAny_bind (wpAny_specialOf h₂.1 hl ?_)
       first
         | exact wpAny_bind (wpAny_pure (wpAny_bind fin))
         | exact wpAny_bind fin)
/-- str[lo:hi] -/
noncomputable def dSliceS (a : Den) (dl du : Option Den) : Den := fun ρ σ => match a ρ σ with
  | some (.str x, σ1) => (match dPart dl ρ σ1, dPart du ρ σ1 with
    | some lo, some hi => if x.length ≤ 100000 then some (.str (Txt.slice x lo hi), σ) else none
    | _, _ => none)
  | _ => none
theorem E_sliceS {value : Expr} {lower upper : Option Expr} {p pos : Pos} {a : Den} {dl du : Option Den} (ha : SoundE w lvl sc value a) (hl : SoundP w lvl sc lower dl) (hu : SoundP w lvl sc upper du)
    (ht : ∀ x t r, letTemporaryGo value (.str x t) r = pure () := by intro _ _ _; rfl) :
    SoundE w lvl sc (.Subscript value (.Slice lower upper none p) pos) (dSliceS a dl du) := by
  refine SoundE.mk ?_
  intro X env A s ρ α σ v σ' Q E hE hR G R S ev P
  unfold dSliceS at ev
  cases h1 : a ρ σ with
  | none => rw [h1] at ev; cases ev
  | some q =>
    obtain ⟨x, σ1⟩ := q
    rw [h1] at ev
    cases x <;> first | (cases ev; done) | skip
    rename_i x
    dsimp only at ev
    cases h2 : dPart dl ρ σ1 with
    | none => rw [h2] at ev; cases ev
    | some lo =>
      cases h3 : dPart du ρ σ1 with
      | none => rw [h2, h3] at ev; cases ev
      | some hi =>
        rw [h2, h3] at ev
        dsimp only at ev
        split at ev
        · rename_i hx
          simp only [Option.some.injEq, Prod.mk.injEq] at ev
          obtain ⟨rfl, rfl⟩ := ev
          have hz : x.length ≤ sizeLine := by rw [sizeLine_is]; omega
          refine Subscript_Slice' (T := "str") F.slot_str_getitem.lookup ?_
          refine ha.run X env A s ρ α σ _ σ1 _ E hE hR G R S h1 fun u h' tk' β k hfr S1 r => ?_
          refine wpAny_Slice ?_
          refine hl.run (s := { s with heap := h', toks := tk' }) hE hR (G.keeps k) (R.mono k) S1 h2 fun vl hA tA kA pA => ?_
          refine hu.run (s := { s with heap := hA, toks := tA }) hE hR ((G.keeps k).keeps kA) ((R.mono (β := β) k).mono0 kA) (S1.mono kA) h3 fun vu hB tB kB pB => ?_
          rw [evalPart_none]
          refine wpAny_pure ?_
          cases r with
          | str _ t =>
            refine ⟨ht _ _, typeIs_str _ _ _, ?_⟩
            have fin : ∀ h2 t' kk, Sub hB h2 → Q (.str (Txt.slice x lo hi) t') { s with heap := h2, toks := kk } := fun h2 t' kk k2 => P.heap (k.trans (kA.trans (kB.trans k2))) S (.str _ _)
            have kept : KeptH (Sub hB) := fun h ob kk => kk.trans (Sub.push h ob)
            cases pA with
            | none =>
              cases pB with
              | none => exact (SBH.sliceItem_nn (s := { s with heap := hB, toks := tB }) kept (Sub.refl _) fin hz).elim fun _ ⟨_, _, _, z⟩ => z
              | int j tj => exact (SBH.sliceItem_ns (s := { s with heap := hB, toks := tB }) kept (Sub.refl _) fin hz).elim fun _ ⟨_, _, _, z⟩ => z
            | int i ti =>
              cases pB with
              | none => exact (SBH.sliceItem_sn (s := { s with heap := hB, toks := tB }) kept (Sub.refl _) fin hz).elim fun _ ⟨_, _, _, z⟩ => z
              | int j tj => exact (SBH.sliceItem_ss (s := { s with heap := hB, toks := tB }) kept (Sub.refl _) fin hz).elim fun _ ⟨_, _, _, z⟩ => z
        · cases ev

/-- bytes[lo:hi] -/
noncomputable def dSliceB (a : Den) (dl du : Option Den) : Den := fun ρ σ => match a ρ σ with
  | some (.bytes x, σ1) => (match dPart dl ρ σ1, dPart du ρ σ1 with
    | some lo, some hi => if x.size ≤ 100000 then some (.bytes (KBy.picked x lo hi), σ) else none
    | _, _ => none)
  | _ => none
theorem E_sliceB {value : Expr} {lower upper : Option Expr} {p pos : Pos} {a : Den} {dl du : Option Den} (ha : SoundE w lvl sc value a) (hl : SoundP w lvl sc lower dl) (hu : SoundP w lvl sc upper du)
    (ht : ∀ o r, letTemporaryGo value o r = pure () := by intro _ _; rfl) :
    SoundE w lvl sc (.Subscript value (.Slice lower upper none p) pos) (dSliceB a dl du) := by
  refine SoundE.mk ?_
  intro X env A s ρ α σ v σ' Q E hE hR G R S ev P
  unfold dSliceB at ev
  cases h1 : a ρ σ with
  | none => rw [h1] at ev; cases ev
  | some q =>
    obtain ⟨x, σ1⟩ := q
    rw [h1] at ev
    cases x <;> first | (cases ev; done) | skip
    rename_i x
    dsimp only at ev
    cases h2 : dPart dl ρ σ1 with
    | none => rw [h2] at ev; cases ev
    | some lo =>
      cases h3 : dPart du ρ σ1 with
      | none => rw [h2, h3] at ev; cases ev
      | some hi =>
        rw [h2, h3] at ev
        dsimp only at ev
        split at ev
        · rename_i hx
          simp only [Option.some.injEq, Prod.mk.injEq] at ev
          obtain ⟨rfl, rfl⟩ := ev
          refine wpAny_Subscript_Slice (T := "bytes") FB.slot_bytes_getitem.lookup ?_ ht
          refine ha.run X env A s ρ α σ _ σ1 _ E hE hR G R S h1 fun u h' tk' β k hfr S1 r => ?_
          refine wpAny_Slice ?_
          refine hl.run (s := { s with heap := h', toks := tk' }) hE hR (G.keeps k) (R.mono k) S1 h2 fun vl hA tA kA pA => ?_
          refine hu.run (s := { s with heap := hA, toks := tA }) hE hR ((G.keeps k).keeps kA) ((R.mono (β := β) k).mono0 kA) (S1.mono kA) h3 fun vu hB tB kB pB => ?_
          rw [evalPart_none]
          refine wpAny_pure ?_
          cases r with
          | bytes _ t =>
            refine ⟨typeIs_bytes _ _ _, ?_⟩
            exact getItem_meets (typeIs_bytes _ _ _) (by decide) FB.slot_bytes_getitem FB.entry_bytes_getitem (FB.args_bytes_getitem_2 _ _) (KBc.meets_slice2 x t _ pA pB)
              ⟨Heap.IsSliceOf.new _ _ _ _, Nat.le_trans (KBc.size_picked_le x lo hi) (by rw [sizeLine_is]; omega), fun t' kk => P.heap (k.trans (kA.trans (kB.trans (Sub.push _ _)))) S (.bytes _ _)⟩
        · cases ev
end Mine
end

section
open PySem PySem.W PyProof.Rows PySem.Calls
set_option Elab.async false
set_option autoImplicit false
namespace Mine
variable {X : List Addr} {w : World} {lvl : Nat} {sc : Scope}

/-- displays -/
noncomputable def dList (Ds : List Den) : Den := dApp alloc Ds
noncomputable def fTup : Fn := fun vs σ => if vs.length ≤ cap then some (.tup vs, σ) else none
noncomputable def dTup (Ds : List Den) : Den := dApp fTup Ds
theorem E_list {es : List Expr} {pos : Pos} {Ds : List Den} (h : SoundA w lvl sc es Ds) : SoundE w lvl sc (.List es pos) (dList Ds) := by
  refine SoundE.mk ?_
  intro X env A s ρ α σ v σ' Q E hE hR G R S ev P
  refine wpAny_List ?_
  obtain ⟨vs, σ1, h1, h2⟩ := dApp_inv ev
  refine h.run X env A s ρ α σ vs σ1 pos _ E hE hR G R S h1 fun us h' tk' β k hfr S1 rs => ?_
  have hc := (alloc_inv h2).1
  refine ⟨by rw [← rs.length, sizeLine_is]; rw [capLine] at hc; omega, ?_⟩
  exact alloc_post (s := { s with heap := h', toks := tk' }) (n := 0) (tk := tk') S1 rs h2 (P.on (tk' := tk') k hfr)
theorem E_tup {es : List Expr} {n : Nat} {pos : Pos} {Ds : List Den} (h : SoundA w lvl sc es Ds) : SoundE w lvl sc (.Tuple es n pos) (dTup Ds) := by
  refine SoundE.mk ?_
  intro X env A s ρ α σ v σ' Q E hE hR G R S ev P
  refine wpAny_Tuple ?_
  obtain ⟨vs, σ1, h1, h2⟩ := dApp_inv ev
  refine h.run X env A s ρ α σ vs σ1 pos _ E hE hR G R S h1 fun us h' tk' β k hfr S1 rs => ?_
  unfold fTup at h2
  split at h2
  · rename_i hc
    simp only [Option.some.injEq, Prod.mk.injEq] at h2
    obtain ⟨rfl, rfl⟩ := h2
    refine ⟨by rw [← rs.length, sizeLine_is]; rw [capLine] at hc; omega, ?_⟩
    have k2 := Sub.push h' { cls := .type "tuple", data := .seq us.toArray }
    exact (P.on (tk' := tk') k hfr).heap k2 S1 (.tup (S1.new (Heap.get?_none_of_le (Nat.le_refl _))) ⟨_, Heap.get?_push_size _ rfl, rfl, _, rfl⟩ (by have := Rps.mono (β := []) k2 rs; simpa using this))
  · cases h2

/-- tests -/
noncomputable abbrev Tst := Loc → Store → Option Bool
noncomputable def SoundT (w : World) (lvl : Nat) (sc : Scope) (e : Expr) (D : Tst) : Prop :=
  ∀ (X : List Addr) (env : Env) (A : Around) (s : Shared) (ρ : Loc) (α : List Addr) (σ : Store) (b : Bool) (Q : Bool → Shared → Prop) (E : Value → Shared → Prop),
    EnvOk env sc → Room A lvl → Gd w s.heap → EnvR X env s.heap α ρ → StR X s.heap α σ → D ρ σ = some b →
    (∀ h' tk', Sub s.heap h' → Q b { s with heap := h', toks := tk' }) → ∀ whole, (whole = eval e env) → wpAny (model Prg w) A (isTrue e env whole) Q E s
theorem SoundT.run {w : World} {lvl : Nat} {sc : Scope} {e : Expr} {D : Tst} (h : SoundT w lvl sc e D) : SoundT w lvl sc e D := h

noncomputable def vTruth (σ : Store) : V → Option Bool
  | .bool b => some b
  | .int i => some (decide (i ≠ 0))
  | .lst l => (σ[l]?).map fun xs => !xs.isEmpty
  | _ => none
theorem truthV {A : Around} {s : Shared} {α : List Addr} {σ : Store} {v : V} {u : Value} {b : Bool} {Q : Bool → Shared → Prop} {E : Value → Shared → Prop} (S : StR X s.heap α σ) (r : Rp X s.heap α v u) (e : vTruth σ v = some b) (h : ∀ tk, Q b { s with toks := tk }) :
    wpAny (model Prg w) A (truthy u) Q E s := by
  cases r with
  | bool c => simp only [vTruth, Option.some.injEq] at e; subst e; exact wpAny_truthy_bool (h s.toks)
  | int i t =>
    simp only [vTruth, Option.some.injEq] at e
    subst e
    have : (i != 0) = decide (i ≠ 0) := by by_cases hi : i = 0 <;> simp [hi]
    exact truthy_int (by rw [this]; exact h s.toks)
  | @lst l a ea =>
    simp only [vTruth] at e
    cases hl : σ[l]? with
    | none => rw [hl] at e; cases e
    | some xs =>
      rw [hl] at e
      simp only [Option.map_some, Option.some.injEq] at e
      subst e
      obtain ⟨a', ua, hh, _, pa, ra, ca⟩ := S.list hl (.lst ea)
      cases hh
      refine wpAny_truthy_list pa.isList (by simp only [List.size_toArray]; rw [capLine] at ca; omega) ?_
      have : (!ua.toArray.isEmpty) = !xs.isEmpty := by
        cases ra <;> simp
      rw [this]
      exact h _
  | _ => simp [vTruth] at e

noncomputable def dTruth (d : Den) : Tst := fun ρ σ => match d ρ σ with
  | some (v, σ1) => vTruth σ1 v
  | none => none
theorem T_val {e : Expr} {d : Den} (h : SoundE w lvl sc e d) (he : ∀ env whole, isTrue e env whole = (do let v ← whole; standAt e.pos; holding [v] (truthy v)) := by intro _ _; rfl) : SoundT w lvl sc e (dTruth d) := by
  intro X env A s ρ α σ b Q E hE hR G R S ev P whole hw
  subst hw
  unfold dTruth at ev
  cases h1 : d ρ σ with
  | none => rw [h1] at ev; cases ev
  | some q =>
    obtain ⟨v, σ1⟩ := q
    rw [h1] at ev
    refine isTrue_plain ?_ (he env _)
    refine h.run X env A s ρ α σ v σ1 _ E hE hR G R S h1 fun u h' tk' β k hfr S1 r => ?_
    exact truthV (s := { s with heap := h', toks := tk' }) S1 r ev fun tk => P _ _ k
noncomputable def t2 (f : Fn) (a b : Den) : Tst := fun ρ σ => match d2 f a b ρ σ with
  | some (.bool c, _) => some c
  | _ => none
theorem T_cmp {l r : Expr} {op : CmpOp} {pos : Pos} {a b : Den} {f : Fn} (ha : SoundE w lvl sc l a) (hb : SoundE w lvl sc r b) (hf : SoundV w lvl (tCmp op) f)
    (hm : behindInMarks op r = false := by with_unfolding_all rfl) : SoundT w lvl sc (.Compare l [op] [r] pos) (t2 f a b) := by
  intro X env A s ρ α σ c Q E hE hR G R S ev P whole hw
  unfold t2 at ev
  cases h1 : d2 f a b ρ σ with
  | none => rw [h1] at ev; cases ev
  | some q =>
    obtain ⟨v, σ1⟩ := q
    rw [h1] at ev
    cases v <;> first | (cases ev; done) | skip
    simp only [Option.some.injEq] at ev
    subst ev
    refine wpAny_isTrue_Compare1 ?_ hm
    refine two (Q := fun c s₃ => wpAny (model Prg w) A (truthy c) Q E s₃) ha hb hf hE hR G R S h1 ?_
    intro u h' tk' β k hfr S1 rr
    cases rr
    exact wpAny_truthy_bool (P _ _ k)
noncomputable def tAnd (a b : Tst) : Tst := fun ρ σ => match a ρ σ with
  | some true => b ρ σ
  | some false => some false
  | none => none
noncomputable def tOr (a b : Tst) : Tst := fun ρ σ => match a ρ σ with
  | some true => some true
  | some false => b ρ σ
  | none => none
theorem T_and {x y : Expr} {pos : Pos} {a b : Tst} (ha : SoundT w lvl sc x a) (hb : SoundT w lvl sc y b) : SoundT w lvl sc (.BoolOp .And [x, y] pos) (tAnd a b) := by
  intro X env A s ρ α σ c Q E hE hR G R S ev P whole hw
  refine isTrue_and ?_
  unfold tAnd at ev
  cases h1 : a ρ σ with
  | none => rw [h1] at ev; cases ev
  | some t =>
    rw [h1] at ev
    refine ha.run X env A s ρ α σ t _ E hE hR G R S h1 (fun h' tk' k => ?_) _ rfl
    cases t with
    | false =>
      simp only [Option.some.injEq] at ev
      subst ev
      exact P _ _ k
    | true =>
      refine isTrue_and ?_
      refine hb.run X env A { s with heap := h', toks := tk' } ρ α σ c _ E hE hR (G.keeps k) (R.mono0 k) (S.mono k) ev (fun h'' tk'' k' => ?_) _ rfl
      cases c with
      | false => exact P _ _ (k.trans k')
      | true => exact isTrue_and_nil (P _ _ (k.trans k'))
theorem T_or {x y : Expr} {pos : Pos} {a b : Tst} (ha : SoundT w lvl sc x a) (hb : SoundT w lvl sc y b) : SoundT w lvl sc (.BoolOp .Or [x, y] pos) (tOr a b) := by
  intro X env A s ρ α σ c Q E hE hR G R S ev P whole hw
  refine isTrue_or ?_
  unfold tOr at ev
  cases h1 : a ρ σ with
  | none => rw [h1] at ev; cases ev
  | some t =>
    rw [h1] at ev
    refine ha.run X env A s ρ α σ t _ E hE hR G R S h1 (fun h' tk' k => ?_) _ rfl
    cases t with
    | true =>
      simp only [Option.some.injEq] at ev
      subst ev
      exact P _ _ k
    | false =>
      refine isTrue_or ?_
      refine hb.run X env A { s with heap := h', toks := tk' } ρ α σ c _ E hE hR (G.keeps k) (R.mono0 k) (S.mono k) ev (fun h'' tk'' k' => ?_) _ rfl
      cases c with
      | true => exact P _ _ (k.trans k')
      | false => exact isTrue_or_nil (P _ _ (k.trans k'))
noncomputable def dIf (t : Tst) (a b : Den) : Den := fun ρ σ => match t ρ σ with
  | some true => a ρ σ
  | some false => b ρ σ
  | none => none
theorem E_if {test body orelse : Expr} {pos : Pos} {t : Tst} {a b : Den} (ht : SoundT w lvl sc test t) (ha : SoundE w lvl sc body a) (hb : SoundE w lvl sc orelse b) : SoundE w lvl sc (.IfExp test body orelse pos) (dIf t a b) := by
  refine SoundE.mk ?_
  intro X env A s ρ α σ v σ' Q E hE hR G R S ev P
  refine IfExp_ ?_
  unfold dIf at ev
  cases h1 : t ρ σ with
  | none => rw [h1] at ev; cases ev
  | some c =>
    rw [h1] at ev
    refine ht.run X env A s ρ α σ c _ E hE hR G R S h1 (fun h' tk' k => ?_) _ rfl
    have P' : EPost X { s with heap := h', toks := tk' } α σ' v Q := by
      have := EPost.on (β := []) (tk' := tk') P k (Fresh.nil _)
      simpa using this
    cases c with
    | true => exact ha.run X env A _ ρ α σ v σ' Q E hE hR (G.keeps k) (R.mono0 k) (S.mono k) ev P'
    | false => exact hb.run X env A _ ρ α σ v σ' Q E hE hR (G.keeps k) (R.mono0 k) (S.mono k) ev P'
noncomputable def gNot : V → Option V
  | .bool b => some (.bool (!b))
  | _ => none
theorem O_not : SoundV w lvl (tUn .Not) (f1 gNot) :=
  V_flat1 fun X A s h₀ α a v u1 Q E _ r hf hQ => by
    cases r <;> first | (cases hf; done) | skip
    cases hf
    exact not_of (wpAny_truthy_bool (hQ _ s.toks fun _ _ _ => .bool _))

/-- the text's table -/
noncomputable def tokOf (x : Str) : Option Int :=
  if x = Str.ofString "(" then some 7 else if x = Str.ofString ")" then some 8 else if x = Str.ofString "|" then some 18 else if x = Str.ofString "&" then some 19 else if x = Str.ofString "~" then some 31 else none
noncomputable def gTok : V → Option V
  | .str x => (tokOf x).map .int
  | _ => none
end Mine
end

section
open PySem PySem.W PyProof.Rows PySem.Calls
set_option Elab.async false
set_option autoImplicit false
namespace Mine
variable {w : World} {lvl : Nat} {sc : Scope}
set_option maxRecDepth 100000 in
set_option maxHeartbeats 1000000 in
theorem table (w : World) : ∃ es n, (Kf w).lookup 15 = some ⟨.type "dict", none, .dict es n, #[]⟩ ∧ KeysLit w.params es.toList ∧ nsIn (Kf w) mainGlobals (Str.ofString "EXACT_TOKEN_TYPES") = some (some (.ref 15)) ∧
    ∀ x n, tokOf x = some n → ∃ t, nsIn (Kf w) 15 x = some (some (.int n t)) := by
  refine ⟨_, _, rfl, ?_, rfl, ?_⟩
  · k_keys
  · intro x n h
    unfold tokOf at h
    repeat' split at h
    all_goals first | (cases h; done) | skip
    all_goals (rename_i hx; subst hx; cases h; exact ⟨_, rfl⟩)

theorem E_tok {slice : Expr} {p pos : Pos} {b : Den} (hb : SoundE w lvl sc slice b) (hx : (sc.names.lookup (Str.ofString "EXACT_TOKEN_TYPES")) = some .globalImplicit)
    (hs : ∀ o i, subscripted slice false o i = operate [o, i] (getItem o i) := by intro _ _; rfl) :
    SoundE w lvl sc (.Subscript (.Name (Str.ofString "EXACT_TOKEN_TYPES") p) slice pos) (dFlat (d1 (f1 gTok) b)) := by
  refine SoundE.flat ?_
  refine SoundE.mk ?_
  intro X env A s ρ α σ v σ' Q E hE hR G R S ev P
  obtain ⟨es, n, hl, hk, hn, hv⟩ := table w
  obtain ⟨y, σ1, h1, h2⟩ := d1_inv ev
  refine Subscript_ (global hE G hx hn (by decide) ?_)
  refine hb.run X env A s ρ α σ y σ1 _ E hE hR G R S h1 fun u h' tk' β k hfr S1 r => ?_
  simp only [f1] at h2
  cases y <;> first | (simp [gTok] at h2; done) | skip
  rename_i x
  simp only [gTok] at h2
  cases ht : tokOf x with
  | none => rw [ht] at h2; simp at h2
  | some z =>
    rw [ht] at h2
    simp only [Option.map_some, Option.some.injEq, Prod.mk.injEq] at h2
    obtain ⟨rfl, rfl⟩ := h2
    obtain ⟨t, e⟩ := hv x z ht
    cases r with
    | str _ t1 =>
      have hm := mapOf_K (prog := Prg) (G.keeps k).1 hl hk
      refine tail_any hm.typeIs slot_dict_getitem.lookup (wpAny_getItem_of (strKind_is Prg w x t1) hm (find_K hl e) ?_) (hs _ _)
      exact (P.on (tk' := tk') k hfr).same S1 (.int _ _)
end Mine
end

section
open PySem PySem.W PyProof.Rows PySem.Calls
set_option Elab.async false
set_option autoImplicit false
namespace Mine
variable {X : List Addr} {w : World} {lvl : Nat} {sc : Scope}

/-- the tuples stand -/
noncomputable def TK (hS h : Heap) : Prop := ∀ b o, hS.get? b = some o → o.cls = .type "tuple" → (∃ xs n, o.data = .seq xs n) → h.get? b = some o
theorem TK.of {a b : Heap} (k : Sub a b) : TK a b := fun p o e _ _ => k p o e
theorem TK.step {hS h h' : Heap} {wr : List Addr} (t : TK hS h) (hw : ∀ b ∈ wr, hS.get? b = Option.none) (k : ∀ b o, b ∉ wr → h.get? b = some o → h'.get? b = some o) : TK hS h' := fun b o e c d =>
  k b o (fun hb => by rw [hw b hb] at e; cases e) (t b o e c d)
theorem Rp.tk0 {hS h : Heap} {α : List Addr} {v : V} {u : Value} (r : Rp X hS α v u) (t : TK hS h) : Rp X h α v u := by
  have := Rp.mono' (β := []) (h' := h) (fun a o _ e c d => t a o e c d) r; simpa using this
mutual
theorem Rp.wider {hS : Heap} {α : List Addr} {wr : List Addr} (hw : ∀ b ∈ wr, hS.get? b = Option.none) : ∀ {v : V} {u : Value}, Rp X hS α v u → Rp (X ++ wr) hS α v u
  | _, _, .none => .none
  | _, _, .bool b => .bool b
  | _, _, .int i t => .int i t
  | _, _, .str s t => .str s t
  | _, _, .bytes b t => .bytes b t
  | _, _, .tup x t r => .tup (fun q => by
      rcases List.mem_append.mp q with q | q
      · exact x q
      · obtain ⟨o, e, _⟩ := t; rw [hw _ q] at e; cases e) t (Rps.wider hw r)
  | _, _, .lst e => .lst e
theorem Rps.wider {hS : Heap} {α : List Addr} {wr : List Addr} (hw : ∀ b ∈ wr, hS.get? b = Option.none) : ∀ {v : List V} {u : List Value}, Rps X hS α v u → Rps (X ++ wr) hS α v u
  | _, _, .nil => .nil
  | _, _, .cons a b => .cons (Rp.wider hw a) (Rps.wider hw b)
end
mutual
theorem Rp.less {hS : Heap} {α : List Addr} {wr : List Addr} : ∀ {v : V} {u : Value}, Rp (X ++ wr) hS α v u → Rp X hS α v u
  | _, _, .none => .none
  | _, _, .bool b => .bool b
  | _, _, .int i t => .int i t
  | _, _, .str s t => .str s t
  | _, _, .bytes b t => .bytes b t
  | _, _, .tup x t r => .tup (fun q => x (List.mem_append.mpr (.inl q))) t (Rps.less r)
  | _, _, .lst e => .lst e
theorem Rps.less {hS : Heap} {α : List Addr} {wr : List Addr} : ∀ {v : List V} {u : List Value}, Rps (X ++ wr) hS α v u → Rps X hS α v u
  | _, _, .nil => .nil
  | _, _, .cons a b => .cons (Rp.less a) (Rps.less b)
end
theorem Rp.tk {hS h : Heap} {α : List Addr} {v : V} {u : Value} {wr : List Addr} (r : Rp X hS α v u) (t : TK hS h) (hw : ∀ b ∈ wr, hS.get? b = Option.none) : Rp (X ++ wr) h α v u := (r.wider hw).tk0 t
noncomputable def Live (X : List Addr) (h : Heap) : Prop := ∀ a ∈ X, ∃ o, h.get? a = some o

structure Itr (X : List Addr) (w : World) (A : Around) (target : Expr) (I : Addr) (wr fp : List Addr) (items : List V) (α : List Addr) (hS : Heap) (St : Nat → Heap → Prop) : Prop where
  sub : ∀ b ∈ wr, b ∈ fp
  old : ∀ b ∈ wr, hS.get? b = none
  live : ∀ i h, St i h → Live wr h
  frame : ∀ i h h', St i h → (∀ b ∈ fp, ∀ o, h.get? b = some o → h'.get? b = some o) → St i h'
  step : ∀ i (s : Shared) (Q : Option Value → Shared → Prop) (E : Value → Shared → Prop), St i s.heap → TK hS s.heap → Live X s.heap → i ≤ items.length →
    (∀ v u h' tk, items[i]? = some v → Rp (X ++ wr) h' α v u → St (i + 1) h' → (∀ b o, b ∉ wr → s.heap.get? b = some o → h'.get? b = some o) → Q (some u) { s with heap := h', toks := tk }) →
    (∀ h' tk, items[i]? = none → (∀ b o, b ∉ wr → s.heap.get? b = some o → h'.get? b = some o) → Q none { s with heap := h', toks := tk }) →
    wpAny (model Prg w) A (pyNext (.ref I)) (fun r s₁ => match r with | none => Q none s₁ | some u => wpAny (model Prg w) A (letOwnedTupleGo target (.ref I) u) (fun _ s₂ => Q (some u) s₂) E s₁) E s
  self : ∀ i (s : Shared) (Q : Value → Shared → Prop) (E : Value → Shared → Prop), St i s.heap → Q (.ref I) s → wpAny (model Prg w) A (pyIter (.ref I)) Q E s

theorem Itr.ofWalks {A : Around} {target : Expr} {I : Addr} {wr fp : List Addr} {items : List V} {α : List Addr} {hS : Heap} {P : Nat → Value → Prop} {St : Nat → Heap → Prop} (W : Walks Prg w A I fp wr items.length P St)
    (old : ∀ b ∈ wr, hS.get? b = none) (live : ∀ i h, St i h → Live wr h)
    (hgo : ∀ i (s : Shared) u (Q : Unit → Shared → Prop) (E : Value → Shared → Prop), St i s.heap → Q () s → wpAny (model Prg w) A (letOwnedTupleGo target (.ref I) u) Q E s)
    (hP : ∀ i u h', P i u → TK hS h' → i < items.length → ∃ v, items[i]? = some v ∧ Rp (X ++ wr) h' α v u) : Itr X w A target I wr fp items α hS St where
  sub := W.sub
  old := old
  live := live
  frame := W.frame
  step := fun i s Q E hst tk hX hi hsome hnone => by
    by_cases hlt : i < items.length
    · refine W.item i s _ E hlt hst fun u h' tk' p st' k => ?_
      obtain ⟨v, e, r⟩ := hP i u h' p (tk.step old k) hlt
      exact hgo (i + 1) _ u _ E st' (hsome v u h' tk' e r st' k)
    · have : i = items.length := by omega
      subst this
      exact W.done s _ E hst fun h' tk' k => hnone h' tk' (by simp) k
  self := W.self
theorem Itr.ofT {A : Around} {elts : List Expr} {kk : Nat} {pos : Pos} {I : Addr} {wr fp : List Addr} {items : List V} {α : List Addr} {hS : Heap} {Pt : Nat → Array Value → Prop} {St : Nat → Heap → Prop} {Mid : Nat → Addr → Heap → Prop} (W : WalksT Prg w A I fp wr items.length Pt St Mid)
    (old : ∀ b ∈ wr, hS.get? b = none) (live : ∀ i h, St i h → Live wr h)
    (hP : ∀ i vals h', Pt i vals → TK hS h' → i < items.length → ∃ vs, items[i]? = some (.tup vs) ∧ Rps (X ++ wr) h' α vs vals.toList) : Itr X w A (.Tuple elts kk pos) I wr fp items α hS St where
  sub := W.sub
  old := old
  live := live
  frame := W.frame
  step := fun i s Q E hst tk hX hi hsome hnone => by
    by_cases hlt : i < items.length
    · refine W.item i s _ E hlt hst fun T vals h' tk' p hge hT hm k => ?_
      refine W.go elts kk pos i T _ _ E hm fun h'' st'' k'' => ?_
      have k2 : ∀ b o, b ∉ wr → s.heap.get? b = some o → h''.get? b = some o := fun b o hb e => k'' b o hb (k b o hb e)
      obtain ⟨vs, e, r⟩ := hP i vals h'' p (tk.step old k2) hlt
      refine hsome (.tup vs) (.ref T) h'' tk' e (.tup (us := vals.toList) ?_ ?_ r) st'' k2
      · intro q
        rcases List.mem_append.mp q with q | q
        · obtain ⟨o, eo⟩ := hX T q
          exact absurd (Heap.lt_size eo) (Nat.not_lt.mpr hge)
        · exact W.apart _ _ _ hm q
      obtain ⟨o, ho, hc, hd⟩ := hT
      exact ⟨o, k'' T o (W.apart _ _ _ hm) ho, hc, hd⟩
    · have : i = items.length := by omega
      subst this
      exact W.done s _ E hst fun h' tk' k => hnone h' tk' (by simp) k
  self := W.self

noncomputable def FpOk (fp : List Addr) (hS h : Heap) (α : List Addr) (fz : Nat) : Prop := ∀ b ∈ fp, (hS.get? b = none ∧ ∃ o, h.get? b = some o) ∨ ∃ i, i < fz ∧ α[i]? = some b

noncomputable abbrev ItD := Loc → Store → Option (List V × Store × Nat)
noncomputable def IPost (X : List Addr) (w : World) (A : Around) (target : Expr) (s : Shared) (α : List Addr) (items : List V) (σ' : Store) (fz : Nat) (Q : Value → Shared → Prop) : Prop :=
  ∀ I wr fp St hS h' tk' β, Sub s.heap hS → Sub hS h' → Fresh s.heap β → StR X hS (α ++ β) σ' → Itr X w A target I wr fp items (α ++ β) hS St → St 0 h' → FpOk fp hS h' (α ++ β) fz → Q (.ref I) { s with heap := h', toks := tk' }
noncomputable def SoundI (w : World) (lvl : Nat) (sc : Scope) (target iter : Expr) (D : ItD) : Prop :=
  ∀ (X : List Addr) (env : Env) (A : Around) (s : Shared) (ρ : Loc) (α : List Addr) (σ : Store) (items : List V) (σ' : Store) (fz : Nat) (Q E : Value → Shared → Prop),
    EnvOk env sc → Room A lvl → Gd w s.heap → EnvR X env s.heap α ρ → StR X s.heap α σ → D ρ σ = some (items, σ', fz) → IPost X w A target s α items σ' fz Q →
    wpAny (model Prg w) A (eval iter env) (fun x s₁ => wpAny (model Prg w) A (pyIter x) Q E s₁) E s
theorem SoundI.run {w : World} {lvl : Nat} {sc : Scope} {target iter : Expr} {D : ItD} (h : SoundI w lvl sc target iter D) : SoundI w lvl sc target iter D := h

theorem IPost.on {A : Around} {target : Expr} {s : Shared} {α β : List Addr} {items : List V} {σ' : Store} {fz : Nat} {Q : Value → Shared → Prop} {h' : Heap} {tk' : Nat} (P : IPost X w A target s α items σ' fz Q) (k : Sub s.heap h') (hfr : Fresh s.heap β) : IPost X w A target { s with heap := h', toks := tk' } (α ++ β) items σ' fz Q := by
  intro I wr fp St hS h2 tk2 β2 k1 k2 hf S W st ok
  have := P I wr fp St hS h2 tk2 (β ++ β2) (k.trans k1) k2 (hfr.app k hf) (by rw [← List.append_assoc]; exact S) (by rw [← List.append_assoc]; exact W) st (by rw [← List.append_assoc]; exact ok)
  exact this

/-- the targets that a list's iterator lets go of nothing for -/
theorem letGo_list {A : Around} {target : Expr} {I l : Addr} {i : Nat} {v : Value} {Q : Unit → Shared → Prop} {E : Value → Shared → Prop} {s : Shared} (hit : s.heap.IsListIter I l i) (h : Q () s) : wpAny (model Prg w) A (letOwnedTupleGo target (.ref I) v) Q E s := by
  obtain ⟨o, ho, hc, hd⟩ := hit
  unfold letOwnedTupleGo
  cases target <;> first
    | exact wpAny_pure h
    | (cases v <;> first
        | exact wpAny_pure h
        | (refine wpAny_bind (wpAny_load ho ?_)
           rw [hc, hd]
           exact wpAny_pure h))

noncomputable def chars (x : Str) : List V := x.cps.toList.map fun c => V.str ⟨#[c]⟩

theorem iterList {target : Expr} {A : Around} {s : Shared} {α : List Addr} {σ : Store} {l : Nat} {xs : List V} {u : Value} {Q E : Value → Shared → Prop} (hR : Room A lvl) (S : StR X s.heap α σ) (hl : σ[l]? = some xs) (r : Rp X s.heap α (.lst l) u)
    (P : IPost X w A target s α xs σ (l + 1) Q) : wpAny (model Prg w) A (pyIter u) Q E s := by
  obtain ⟨a, ua, rfl, ea, pa, ra, ca⟩ := S.list hl r
  have hlt : a < s.heap.objs.size := let ⟨_, e⟩ := pa; Heap.lt_size e
  have hf : s.heap.get? s.heap.objs.size = none := Heap.get?_none_of_le (Nat.le_refl _)
  refine wpAny_pyIter_list pa.isList ?_
  have W := Walks.list (prog := Prg) (w := w) hR.handled s.heap.objs.size a (Nat.ne_of_lt hlt) ua.toArray
  have hlen : ua.toArray.size = xs.length := by simp [ra.length]
  rw [hlen] at W
  refine P s.heap.objs.size _ _ _ s.heap (s.heap.push _) s.toks [] (Sub.refl _) (Sub.push _ _) (Fresh.nil _) (by simpa using S) (Itr.ofWalks W (fun b hb => by rw [List.mem_singleton.mp hb]; exact hf) (fun i h st b hb => by rw [List.mem_singleton.mp hb]; exact let ⟨o, e, _⟩ := st.1; ⟨o, e⟩) (fun i s u Q E st hq => letGo_list st.1 hq) ?_)
    ⟨⟨_, Heap.get?_push_size _ rfl, rfl, rfl⟩, (pa.isList).push _⟩ ?_
  · intro i u h2 e tk hi
    obtain ⟨u', e', r'⟩ := ra.get (i := i) (List.getElem?_eq_getElem hi)
    have : u = u' := by
      have e2 : ua[i]? = some u := by simpa using e
      rw [e'] at e2; exact (Option.some.inj e2).symm
    subst this
    exact ⟨xs[i], List.getElem?_eq_getElem hi, by have := r'.tk (wr := [s.heap.objs.size]) tk (fun b hb => by rw [List.mem_singleton.mp hb]; exact hf); simpa using this⟩
  · intro b hb
    rcases List.mem_cons.mp hb with q | q
    · exact .inl ⟨by rw [q]; exact hf, by rw [q]; exact ⟨_, Heap.get?_push_size _ rfl⟩⟩
    · exact .inr ⟨l, Nat.lt_succ_self _, by rw [List.mem_singleton.mp q]; simpa using ea⟩
theorem iterStr {n : Str} {p : Pos} {A : Around} {s : Shared} {α : List Addr} {σ : Store} {x : Str} {u : Value} {Q E : Value → Shared → Prop} (hR : Room A lvl) (S : StR X s.heap α σ) (r : Rp X s.heap α (.str x) u)
    (P : IPost X w A (.Name n p) s α (chars x) σ 0 Q) : wpAny (model Prg w) A (pyIter u) Q E s := by
  cases r with
  | str _ t =>
    refine wpAny_pyIter_strU ?_
    have hf : s.heap.get? s.heap.objs.size = none := Heap.get?_none_of_le (Nat.le_refl _)
    have hlen : (chars x).length = x.cps.size := by simp [chars]
    generalize ho : ({ cls := .type (strIterType x), data := .fields #[.str x t, .int 0 0] } : Obj) = o
    have go : ∀ T : String, (Walks Prg w A s.heap.objs.size [s.heap.objs.size] [s.heap.objs.size] x.cps.size (SignAt x) (fun i h => h.IsStrIter s.heap.objs.size T x t i)) → (s.heap.push o).IsStrIter s.heap.objs.size T x t 0 → Q (.ref s.heap.objs.size) { s with heap := s.heap.push o } := by
      intro T W st
      rw [← hlen] at W
      refine P s.heap.objs.size [s.heap.objs.size] [s.heap.objs.size] _ s.heap (s.heap.push o) s.toks [] (Sub.refl _) (Sub.push _ _) (Fresh.nil _) (by simpa using S) (Itr.ofWalks (P := SignAt x) W (fun b hb => by rw [List.mem_singleton.mp hb]; exact hf)
        (fun i h st b hb => by rw [List.mem_singleton.mp hb]; exact let ⟨o, e, _⟩ := st; ⟨o, e⟩) (fun i s u Q E hst hq => wpAny_pure hq) ?_) st (fun b hb => .inl ⟨by rw [List.mem_singleton.mp hb]; exact hf, by rw [List.mem_singleton.mp hb]; exact let ⟨o, e, _⟩ := st; ⟨o, e⟩⟩)
      rintro i u h2 ⟨c, tt, e1, rfl⟩ _ hi
      refine ⟨.str ⟨#[c]⟩, ?_, .str _ _⟩
      simp [chars, e1]
    have hg : (s.heap.push o).get? s.heap.objs.size = some o := by subst ho; exact Heap.get?_push_size _ rfl
    cases ha : x.cps.all (· < 128) with
    | true =>
      have hs : strIterType x = "str_ascii_iterator" := by simp [strIterType, ha]
      exact go "str_ascii_iterator" (Walks.strAscii hR.handled _ x t) ⟨o, hg, by subst ho; simp [hs], by subst ho; rfl⟩
    | false =>
      have hs : strIterType x = "str_iterator" := by simp [strIterType, ha]
      exact go "str_iterator" (Walks.strWide hR.handled _ x t) ⟨o, hg, by subst ho; simp [hs], by subst ho; rfl⟩

/-- iterating a list or a str -/
noncomputable def dIter (d : Den) : ItD := fun ρ σ => match d ρ σ with
  | some (.lst l, σ1) => (match σ1[l]? with
    | some xs => some (xs, σ1, l + 1)
    | none => none)
  | some (.str x, _) => some (chars x, σ, 0)
  | _ => none
theorem I_name {n : Str} {p : Pos} {iter : Expr} {d : Den} (h : SoundE w lvl sc iter d) : SoundI w lvl sc (.Name n p) iter (dIter d) := by
  intro X env A s ρ α σ items σ' fz Q E hE hR G R S ev P
  unfold dIter at ev
  cases h1 : d ρ σ with
  | none => rw [h1] at ev; cases ev
  | some q =>
    obtain ⟨v, σ1⟩ := q
    rw [h1] at ev
    refine h.run X env A s ρ α σ v σ1 _ E hE hR G R S h1 fun u h' tk' β k hfr S1 r => ?_
    cases v <;> first | (cases ev; done) | skip
    · rename_i x
      simp only [Option.some.injEq, Prod.mk.injEq] at ev
      obtain ⟨rfl, rfl, rfl⟩ := ev
      have P' := IPost.on (β := []) (tk' := tk') P k (Fresh.nil _)
      rw [List.append_nil] at P'
      exact iterStr (s := { s with heap := h', toks := tk' }) hR (S.mono k) (r.flat rfl) P'
    · rename_i l
      dsimp only at ev
      cases hl : σ1[l]? with
      | none => rw [hl] at ev; cases ev
      | some xs =>
        rw [hl] at ev
        simp only [Option.some.injEq, Prod.mk.injEq] at ev
        obtain ⟨rfl, rfl, rfl⟩ := ev
        exact iterList (s := { s with heap := h', toks := tk' }) hR S1 hl r (P.on k hfr)
noncomputable def dIterL (d : Den) : ItD := fun ρ σ => match d ρ σ with
  | some (.lst l, σ1) => (match σ1[l]? with
    | some xs => some (xs, σ1, l + 1)
    | none => none)
  | _ => none
theorem I_list {target iter : Expr} {d : Den} (h : SoundE w lvl sc iter d) : SoundI w lvl sc target iter (dIterL d) := by
  intro X env A s ρ α σ items σ' fz Q E hE hR G R S ev P
  unfold dIterL at ev
  cases h1 : d ρ σ with
  | none => rw [h1] at ev; cases ev
  | some q =>
    obtain ⟨v, σ1⟩ := q
    rw [h1] at ev
    refine h.run X env A s ρ α σ v σ1 _ E hE hR G R S h1 fun u h' tk' β k hfr S1 r => ?_
    cases v <;> first | (cases ev; done) | skip
    rename_i l
    dsimp only at ev
    cases hl : σ1[l]? with
    | none => rw [hl] at ev; cases ev
    | some xs =>
      rw [hl] at ev
      simp only [Option.some.injEq, Prod.mk.injEq] at ev
      obtain ⟨rfl, rfl, rfl⟩ := ev
      exact iterList (s := { s with heap := h', toks := tk' }) hR S1 hl r (P.on k hfr)

/-- a built-in class called for its iterator -/
theorem callRaw {n T : String} {p pos : Pos} {e : Expr} {args : List Expr} {Ds : List Den} {vs : List V} {σ1 : Store}
    (hx : (sc.names.lookup (Str.ofString n)) = some .globalImplicit) (hn : nsIn (Kf w) mainGlobals (Str.ofString n) = some none) (hb : bootBuiltins (Str.ofString n) = some (.type T))
    (hA : SoundA w lvl sc (e :: args) Ds)
    (he : ∀ env, starEach (e :: args) env = (false, eval e env) :: starEach args env)
    (hpl : ∀ env, (backTo pos (starEach (e :: args) env)).any (·.1) = false)
    (hne : Str.ofString n ≠ ("__name__" : Str))
    (hdb : (Str.ofString n == ("__debug__" : Str)) = false)
    {env : Env} {A : Around} {s : Shared} {ρ : Loc} {α : List Addr} {σ : Store} {Q E : Value → Shared → Prop}
    (hE : EnvOk env sc) (hR : Room A lvl) (G : Gd w s.heap) (R : EnvR X env s.heap α ρ) (S : StR X s.heap α σ) (ev : dArgs Ds ρ σ = some (vs, σ1))
    (h : ∀ us h' tk' β, Sub s.heap h' → Fresh s.heap β → StR X h' (α ++ β) σ1 → Rps X h' (α ++ β) vs us → wpAny (model Prg w) A (call (.type T) us) Q E { s with heap := h', toks := tk' }) :
    wpAny (model Prg w) A (eval (.Call (.Name (Str.ofString n) p) (e :: args) [] pos) env) Q E s := by
  refine Call_Name rfl (builtin hE G hx hn hb hne hdb ?_)
  refine PyProof.Rows.callWith_type (hpl env) ?_
  have hs : backTo pos (starEach (e :: args) env) = (false, eval e env) :: backTo pos (starEach args env) := by rw [he]; rfl
  rw [hs]
  refine evalArgs_plain ?_
  rw [← hs]
  exact hA.run X env A s ρ α σ vs σ1 pos _ E hE hR G R S ev h

noncomputable def upTo (n : Nat) : List V := (List.range n).map fun (i : Nat) => V.int (i : Int)
noncomputable def dRange (d : Den) : ItD := fun ρ σ => match dArgs [d] ρ σ with
  | some ([.int n], _) => if 0 ≤ n ∧ n ≤ 4096 then some (upTo n.toNat, σ, 0) else none
  | _ => none
theorem I_range {n : Str} {tp p pos : Pos} {e : Expr} {d : Den} (h : SoundE w lvl sc e d)
    (hx : (sc.names.lookup (Str.ofString "range")) = some .globalImplicit)
    (he : ∀ env, starEach [e] env = (false, eval e env) :: starEach [] env := by exact fun env => star_of rfl env)
    (hpl : ∀ env, (backTo pos (starEach [e] env)).any (·.1) = false := by exact fun env => plain_of rfl env) :
    SoundI w lvl sc (.Name n tp) (.Call (.Name (Str.ofString "range") p) [e] [] pos) (dRange d) := by
  intro X env A s ρ α σ items σ' fz Q E hE hR G R S ev P
  unfold dRange at ev
  cases h1 : dArgs [d] ρ σ with
  | none => rw [h1] at ev; cases ev
  | some q =>
    obtain ⟨vs, σ1⟩ := q
    rw [h1] at ev
    refine callRaw (T := "range") hx rfl rfl (SoundA.cons h SoundA.nil he) he hpl (by decide) (by decide) hE hR G R S h1 fun us h' tk' β k hfr S1 rs => ?_
    split at ev
    · rename_i m _ hq
      cases hq
      split at ev
      · rename_i hm
        simp only [Option.some.injEq, Prod.mk.injEq] at ev
        obtain ⟨rfl, rfl, rfl⟩ := ev
        cases rs with
        | cons r0 r1 =>
          cases r1
          cases r0 with
          | int _ t =>
            refine call_range_1 ?_
            have hf : h'.get? h'.objs.size = none := Heap.get?_none_of_le (Nat.le_refl _)
            refine wpAny_pyIter_range (IsRange.new h' 0 m 1 tk' t (tk' + 1)) (small_one (by decide) (by decide) (by omega) (by omega)) ?_
            have hz : Builtin.Range.rangeSize 0 m 1 = m := by rw [rangeSize_one]; split <;> omega
            rw [hz]
            have k1 := Sub.push h' { cls := .type "range", data := .fields #[.int 0 tk', .int m t, .int 1 (tk' + 1)] }
            generalize hH : h'.push { cls := .type "range", data := .fields #[.int 0 tk', .int m t, .int 1 (tk' + 1)] } = H at *
            have hfH : H.get? H.objs.size = none := Heap.get?_none_of_le (Nat.le_refl _)
            have W := Walks.range (prog := Prg) (w := w) hR.handled H.objs.size 0 1 m.toNat
            have hlen : m.toNat = (upTo m.toNat).length := by simp [upTo]
            rw [hlen] at W
            have P' := P H.objs.size _ _ _ H (H.push { cls := .type "range_iterator", data := .fields #[rawInt 0, rawInt m, rawInt 1] }) (tk' + 1 + 1) [] (k.trans k1) (Sub.push _ _) (Fresh.nil _) (by simpa using S.mono (k.trans k1))
              (Itr.ofWalks W (fun b hb => by rw [List.mem_singleton.mp hb]; exact hfH) (fun i h st b hb => by rw [List.mem_singleton.mp hb]; exact ⟨_, st⟩) (fun i s u Q E st hq => wpAny_pure hq) (fun i u h2 hi tk hlt => ?_)) ?_ (fun b hb => .inl ⟨by rw [List.mem_singleton.mp hb]; exact hfH, by rw [List.mem_singleton.mp hb]; exact ⟨_, Heap.get?_push_size _ rfl⟩⟩)
            · exact P'
            · obtain ⟨t2, rfl⟩ := hi
              have hlt' : i < m.toNat := by rw [← hlen] at hlt; exact hlt
              refine ⟨.int i, by simp [upTo, hlt'], ?_⟩
              have : (0 : Int) + (i : Int) * 1 = i := by omega
              rw [this]; exact .int _ _
            · have : IsRangeIter (H.push { cls := .type "range_iterator", data := .fields #[rawInt 0, rawInt m, rawInt 1] }) H.objs.size 0 m 1 := Heap.get?_push_size _ rfl
              have e1 : (0 : Int) + ((0 : Nat) : Int) * 1 = 0 := by decide
              have e2 : (((upTo m.toNat).length : Nat) : Int) - ((0 : Nat) : Int) = m := by rw [← hlen]; omega
              rw [e1, e2]; exact this
      · cases ev
    · cases ev
end Mine
end

section
open PySem PySem.W PyProof.Rows PySem.Calls
set_option Elab.async false
set_option autoImplicit false
namespace Mine
variable {X : List Addr} {w : World} {lvl : Nat} {sc : Scope}

noncomputable def enum (xs : List V) : List V := xs.mapIdx fun (i : Nat) x => V.tup [.int (i : Int), x]
theorem enum_get {xs : List V} {i : Nat} (h : i < xs.length) : (enum xs)[i]? = some (.tup [.int (i : Int), xs[i]]) := by
  unfold enum
  simp [h]
theorem enum_len (xs : List V) : (enum xs).length = xs.length := by simp [enum]

noncomputable def dEnum (d : Den) : ItD := fun ρ σ => match dArgs [d] ρ σ with
  | some ([.lst l], σ1) => (match σ1[l]? with
    | some xs => some (enum xs, σ1, l + 1)
    | none => none)
  | some ([.str x], _) => some (enum (chars x), σ, 0)
  | _ => none
theorem I_enum {es : List Expr} {kk : Nat} {tp p pos : Pos} {e : Expr} {d : Den} (h : SoundE w lvl sc e d)
    (hx : (sc.names.lookup (Str.ofString "enumerate")) = some .globalImplicit)
    (he : ∀ env, starEach [e] env = (false, eval e env) :: starEach [] env := by exact fun env => star_of rfl env)
    (hpl : ∀ env, (backTo pos (starEach [e] env)).any (·.1) = false := by exact fun env => plain_of rfl env) :
    SoundI w lvl sc (.Tuple es kk tp) (.Call (.Name (Str.ofString "enumerate") p) [e] [] pos) (dEnum d) := by
  intro X env A s ρ α σ items σ' fz Q E hE hR G R S ev P
  unfold dEnum at ev
  cases h1 : dArgs [d] ρ σ with
  | none => rw [h1] at ev; cases ev
  | some q =>
    obtain ⟨vs, σ1⟩ := q
    rw [h1] at ev
    refine callRaw (T := "enumerate") hx rfl rfl (SoundA.cons h SoundA.nil he) he hpl (by decide) (by decide) hE hR G R S h1 fun us h' tk' β k hfr S1 rs => ?_
    split at ev
    · rename_i l σ2 hq
      cases hq
      cases hl : σ1[l]? with
      | none => rw [hl] at ev; cases ev
      | some xs =>
        rw [hl] at ev
        simp only [Option.some.injEq, Prod.mk.injEq] at ev
        obtain ⟨rfl, rfl, rfl⟩ := ev
        cases rs with
        | cons r0 r1 =>
          cases r1
          obtain ⟨a, ua, rfl, ea, pa, ra, ca⟩ := S1.list hl r0
          have hlt : a < h'.objs.size := let ⟨_, e⟩ := pa; Heap.lt_size e
          refine call_enumerate_list (s := { s with heap := h', toks := tk' }) pa.isList fun H hen hit hz hk => ?_
          refine wpAny_pyIter_enum hen ?_
          have f1 : h'.get? h'.objs.size = none := Heap.get?_none_of_le (Nat.le_refl _)
          have f2 : h'.get? (h'.objs.size + 1) = none := Heap.get?_none_of_le (Nat.le_succ _)
          have W := WalksT.enumerate (prog := Prg) (w := w) hR.handled (h'.objs.size + 1) h'.objs.size a (Nat.succ_ne_self _) (Nat.ne_of_lt (Nat.lt_succ_of_lt hlt)) (Nat.ne_of_lt hlt) ua.toArray
          have hlen : ua.toArray.size = (enum xs).length := by simp [enum_len, ra.length]
          rw [hlen] at W
          have hold : ∀ b ∈ [h'.objs.size + 1, h'.objs.size], h'.get? b = none := by
            intro b hb
            rcases List.mem_cons.mp hb with q | q
            · rw [q]; exact f2
            · rw [List.mem_singleton.mp q]; exact f1
          refine P (h'.objs.size + 1) _ _ _ h' H tk' β k hk hfr S1 (Itr.ofT W hold ?_ ?_) ⟨⟨_, hen⟩, hit, (pa.isList).at fun o => hk _ o⟩ ?_
          · rintro i hh ⟨⟨old, s1⟩, ⟨o2, s2, _⟩, s3⟩ b hb
            rcases List.mem_cons.mp hb with q | q
            · rw [q]; exact ⟨_, s1⟩
            · rw [List.mem_singleton.mp q]; exact ⟨_, s2⟩
          · rintro i vals h2 ⟨t, x, e1, rfl⟩ tk hi
            rw [enum_len] at hi
            obtain ⟨u', e', r'⟩ := ra.get (i := i) (List.getElem?_eq_getElem hi)
            have : x = u' := by
              have e2 : ua[i]? = some x := by simpa using e1
              rw [e'] at e2; exact (Option.some.inj e2).symm
            subst this
            exact ⟨_, enum_get hi, .cons (.int _ _) (.cons (r'.tk tk hold) .nil)⟩
          · intro b hb
            rcases List.mem_cons.mp hb with q | hb
            · exact .inl ⟨by rw [q]; exact f2, by rw [q]; exact ⟨_, hen⟩⟩
            · rcases List.mem_cons.mp hb with q | q
              · exact .inl ⟨by rw [q]; exact f1, by rw [q]; exact let ⟨o, e, _⟩ := hit; ⟨o, e⟩⟩
              · exact .inr ⟨l, Nat.lt_succ_self _, by rw [List.mem_singleton.mp q]; exact ea⟩
    · rename_i x σ2 hq
      cases hq
      simp only [Option.some.injEq, Prod.mk.injEq] at ev
      obtain ⟨rfl, rfl, rfl⟩ := ev
      cases rs with
      | cons r0 r1 =>
        cases r1
        cases r0 with
        | str _ t =>
          refine call_enumerate_str (s := { s with heap := h', toks := tk' }) fun H hen hit hz hk => ?_
          refine wpAny_pyIter_enum hen ?_
          have f1 : h'.get? h'.objs.size = none := Heap.get?_none_of_le (Nat.le_refl _)
          have f2 : h'.get? (h'.objs.size + 1) = none := Heap.get?_none_of_le (Nat.le_succ _)
          have hlen : x.cps.size = (enum (chars x)).length := by simp [enum_len, chars]
          have key : ∀ (St : Nat → Heap → Prop), Draws Prg w A.in1 h'.objs.size [h'.objs.size] x.cps.size (fun i v => ∃ c u, x.cps[i]? = some c ∧ v = .str ⟨#[c]⟩ u) St → St 0 H →
              Q (.ref (h'.objs.size + 1)) { s with heap := H, toks := tk' } := by
            intro St D st
            have W := WalksT.enumerateD D (h'.objs.size + 1) (Nat.succ_ne_self _) (by simp) (by simp)
            rw [hlen] at W
            have hold : ∀ b ∈ [h'.objs.size + 1, h'.objs.size], h'.get? b = none := by
              intro b hb
              rcases List.mem_cons.mp hb with q | q
              · rw [q]; exact f2
              · rw [List.mem_singleton.mp q]; exact f1
            refine P (h'.objs.size + 1) _ _ _ h' H tk' [] k hk (Fresh.nil _) (by simpa using S.mono k) (Itr.ofT W hold ?_ ?_) ⟨⟨_, hen⟩, st⟩ ?_
            · rintro i hh ⟨⟨old, s1⟩, s2⟩ b hb
              rcases List.mem_cons.mp hb with q | q
              · rw [q]; exact ⟨_, s1⟩
              · rw [List.mem_singleton.mp q]; exact D.live _ _ s2
            · rintro i vals h2 ⟨tt, xx, ⟨c, u, e1, rfl⟩, rfl⟩ tk hi
              rw [enum_len] at hi
              refine ⟨_, enum_get hi, .cons (.int _ _) (.cons ?_ .nil)⟩
              have : (chars x)[i] = V.str ⟨#[c]⟩ := by
                have h3 : (chars x)[i]? = some (V.str ⟨#[c]⟩) := by simp [chars, e1]
                rw [List.getElem?_eq_getElem hi] at h3
                exact Option.some.inj h3
              rw [this]; exact .str _ _
            · intro b hb
              rcases List.mem_cons.mp hb with q | hb
              · exact .inl ⟨by rw [q]; exact f2, by rw [q]; exact ⟨_, hen⟩⟩
              · exact .inl ⟨by rw [List.mem_singleton.mp hb]; exact f1, by rw [List.mem_singleton.mp hb]; exact D.live _ _ st⟩
          cases ha : x.cps.all (· < 128) with
          | true =>
            have hs : strIterType x = "str_ascii_iterator" := by simp [strIterType, ha]
            rw [hs] at hit
            exact key _ (Draws.strAscii (A := A.in1) hR.handled _ x t) hit
          | false =>
            have hs : strIterType x = "str_iterator" := by simp [strIterType, ha]
            rw [hs] at hit
            exact key _ (Draws.strWide (A := A.in1) hR.handled _ x t) hit
    · cases ev

theorem zipApart {n a b : Nat} (ha : a < n) (hb : b < n) : ZipApart (n + 4) (n + 2) (n + 3) n (n + 1) a b := by
  constructor <;> (refine neN ?_; omega)
noncomputable def dZip (d1 d2 : Den) : ItD := fun ρ σ => match dArgs [d1, d2] ρ σ with
  | some ([.lst i, .lst j], σ1) => (match σ1[i]?, σ1[j]? with
    | some xs, some ys => some ((xs.zip ys).map fun p => V.tup [p.1, p.2], σ1, max i j + 1)
    | _, _ => none)
  | _ => none
theorem I_zip {es : List Expr} {kk : Nat} {tp p pos : Pos} {e1 e2 : Expr} {d1 d2 : Den} (ha : SoundE w lvl sc e1 d1) (hb : SoundE w lvl sc e2 d2)
    (hx : (sc.names.lookup (Str.ofString "zip")) = some .globalImplicit)
    (he : ∀ env, starEach [e1, e2] env = (false, eval e1 env) :: starEach [e2] env := by exact fun env => star_of rfl env)
    (he2 : ∀ env, starEach [e2] env = (false, eval e2 env) :: starEach [] env := by exact fun env => star_of rfl env)
    (hpl : ∀ env, (backTo pos (starEach [e1, e2] env)).any (·.1) = false := by exact fun env => plain_of rfl env) :
    SoundI w lvl sc (.Tuple es kk tp) (.Call (.Name (Str.ofString "zip") p) [e1, e2] [] pos) (dZip d1 d2) := by
  intro X env A s ρ α σ items σ' fz Q E hE hR G R S ev P
  unfold dZip at ev
  cases h1 : dArgs [d1, d2] ρ σ with
  | none => rw [h1] at ev; cases ev
  | some q =>
    obtain ⟨vs, σ1⟩ := q
    rw [h1] at ev
    refine callRaw (T := "zip") hx rfl rfl (SoundA.cons ha (SoundA.cons hb SoundA.nil he2) he) he hpl (by decide) (by decide) hE hR G R S h1 fun us h' tk' β k hfr S1 rs => ?_
    split at ev
    · rename_i i j σ2 hq
      cases hq
      cases hi : σ1[i]? with
      | none => rw [hi] at ev; cases ev
      | some xs =>
        cases hj : σ1[j]? with
        | none => rw [hi, hj] at ev; cases ev
        | some ys =>
          rw [hi, hj] at ev
          simp only [Option.some.injEq, Prod.mk.injEq] at ev
          obtain ⟨rfl, rfl, rfl⟩ := ev
          cases rs with
          | cons r0 r1 =>
            cases r1 with
            | cons r1 r2 =>
              cases r2
              obtain ⟨a, ua, rfl, ea, pa, ra, ca⟩ := S1.list hi r0
              obtain ⟨b, ub, rfl, eb, pb, rb, cb⟩ := S1.list hj r1
              have ha : a < h'.objs.size := let ⟨_, e⟩ := pa; Heap.lt_size e
              have hb : b < h'.objs.size := let ⟨_, e⟩ := pb; Heap.lt_size e
              have f : ∀ n, h'.get? (h'.objs.size + n) = none := fun n => Heap.get?_none_of_le (Nat.le_add_right _ _)
              refine call_zip_2 (s := { s with heap := h', toks := tk' }) pa.isList pb.isList fun H hz hTI hTO h1 h2 hsz hk => ?_
              refine wpAny_pyIter_zip hz ?_
              have D : ZipApart (h'.objs.size + 4) (h'.objs.size + 2) (h'.objs.size + 3) h'.objs.size (h'.objs.size + 1) a b := zipApart ha hb
              have W := WalksT.zip2 (prog := Prg) (w := w) hR.handled _ _ _ _ _ _ _ D ua.toArray ub.toArray
              have hlen : min ua.toArray.size ub.toArray.size = ((xs.zip ys).map fun p => V.tup [p.1, p.2]).length := by simp [ra.length, rb.length]
              rw [hlen] at W
              have hold : ∀ c ∈ [h'.objs.size + 4, h'.objs.size + 3, h'.objs.size, h'.objs.size + 1], h'.get? c = none := by
                intro c hc
                simp only [List.mem_cons, List.not_mem_nil, or_false] at hc
                rcases hc with rfl | rfl | rfl | rfl
                · exact f 4
                · exact f 3
                · exact f 0
                · exact f 1
              refine P (h'.objs.size + 4) _ _ _ h' H tk' β k hk hfr S1 (Itr.ofT W hold ?_ ?_) ⟨hz, hTI, ⟨_, _, hTO⟩, h1, h2, (pa.isList).at fun o => hk _ o, (pb.isList).at fun o => hk _ o⟩ ?_
              · rintro i hh ⟨s1, s2, ⟨_, _, s3⟩, ⟨_, s4, _⟩, ⟨_, s5, _⟩, _⟩ c hc
                simp only [List.mem_cons, List.not_mem_nil, or_false] at hc
                rcases hc with rfl | rfl | rfl | rfl
                · exact ⟨_, s1⟩
                · exact ⟨_, s3⟩
                · exact ⟨_, s4⟩
                · exact ⟨_, s5⟩
              · rintro n vals h2 ⟨x, y, g1, g2, rfl⟩ tk hn
                have hn1 : n < xs.length := by simp at hn; omega
                have hn2 : n < ys.length := by simp at hn; omega
                obtain ⟨u1, e1, r1⟩ := ra.get (i := n) (List.getElem?_eq_getElem hn1)
                obtain ⟨u2, e2, r2⟩ := rb.get (i := n) (List.getElem?_eq_getElem hn2)
                have q1 : x = u1 := by
                  have e3 : ua[n]? = some x := by simpa using g1
                  rw [e1] at e3; exact (Option.some.inj e3).symm
                have q2 : y = u2 := by
                  have e3 : ub[n]? = some y := by simpa using g2
                  rw [e2] at e3; exact (Option.some.inj e3).symm
                subst q1 q2
                refine ⟨[xs[n], ys[n]], ?_, .cons (r1.tk tk hold) (.cons (r2.tk tk hold) .nil)⟩
                have hzip : (xs.zip ys)[n]? = some (xs[n], ys[n]) := List.getElem?_zip_eq_some.mpr ⟨List.getElem?_eq_getElem hn1, List.getElem?_eq_getElem hn2⟩
                rw [List.getElem?_map, hzip]; rfl
              · intro c hc
                simp only [List.mem_cons, List.not_mem_nil, or_false] at hc
                rcases hc with rfl | rfl | rfl | rfl | rfl | rfl | rfl
                · exact .inl ⟨f 4, ⟨_, hz⟩⟩
                · exact .inl ⟨f 2, ⟨_, hTI⟩⟩
                · exact .inl ⟨f 3, ⟨_, hTO⟩⟩
                · exact .inl ⟨f 0, let ⟨o, e, _⟩ := h1; ⟨o, e⟩⟩
                · exact .inl ⟨f 1, let ⟨o, e, _⟩ := h2; ⟨o, e⟩⟩
                · exact .inr ⟨i, by omega, ea⟩
                · exact .inr ⟨j, by omega, eb⟩
    · cases ev
end Mine
end

section
open PySem PySem.W PyProof.Rows PySem.Calls
set_option Elab.async false
set_option autoImplicit false
namespace Mine
variable {X : List Addr} {w : World} {lvl : Nat} {sc : Scope}

noncomputable def upd (ρ : Loc) (n : String) (v : V) : Loc := fun m => if m = n then some v else ρ m
theorem ofString_inj {a b : String} (h : Str.ofString a = Str.ofString b) : a = b := by
  rw [Str.ofString_eq_toList, Str.ofString_eq_toList] at h
  have h1 : a.toList.map Char.toNat = b.toList.map Char.toNat := by
    have := congrArg Str.cps h
    simpa using this
  have h2 : a.toList = b.toList := by
    refine List.map_inj_right (fun x y e => ?_) |>.mp h1
    exact Char.toNat_inj.mp e
  exact String.ext h2

noncomputable def Mut (env : Env) (C : List Addr) (lo : Nat) (α : List Addr) (b : Addr) : Prop := b = env.locals ∨ b ∈ C ∨ ∃ i, lo ≤ i ∧ α[i]? = some b
noncomputable def Keep (env : Env) (C : List Addr) (lo : Nat) (α : List Addr) (h h' : Heap) : Prop := ∀ b o, ¬ Mut env C lo α b → h.get? b = some o → h'.get? b = some o
theorem Keep.of {env : Env} {C : List Addr} {lo : Nat} {α : List Addr} {h h' : Heap} (k : Sub h h') : Keep env C lo α h h' := fun b o _ e => k b o e
theorem Mut.of {env : Env} {C : List Addr} {lo : Nat} {α β : List Addr} {h : Heap} {b : Addr} {o : Obj} (f : Fresh h β) (e : h.get? b = some o) (m : Mut env C lo (α ++ β) b) : Mut env C lo α b := by
  rcases m with q | q | ⟨i, hi, q⟩
  · exact .inl q
  · exact .inr (.inl q)
  · by_cases hl : i < α.length
    · rw [List.getElem?_append_left hl] at q; exact .inr (.inr ⟨i, hi, q⟩)
    · rw [List.getElem?_append_right (Nat.le_of_not_lt hl)] at q
      rw [f b (List.mem_of_getElem? q)] at e; cases e
theorem Keep.trans {env : Env} {C : List Addr} {lo : Nat} {α β : List Addr} {h h' h'' : Heap} (x : Keep env C lo α h h') (y : Keep env C lo (α ++ β) h' h'') (f : Fresh h β) : Keep env C lo α h h'' :=
  fun b o m e => y b o (fun q => m (q.of f e)) (x b o m e)
theorem Keep.lower {env : Env} {C : List Addr} {lo lo' : Nat} {α : List Addr} {h h' : Heap} (x : Keep env C lo' α h h') (hl : lo ≤ lo') : Keep env C lo α h h' :=
  fun b o m e => x b o (fun q => m (by
    rcases q with q | q | ⟨i, hi, q⟩
    · exact .inl q
    · exact .inr (.inl q)
    · exact .inr (.inr ⟨i, Nat.le_trans hl hi, q⟩))) e

/-- no list, no tuple -/
noncomputable def Plain (o : Obj) : Prop := ∀ xs n, o.data ≠ .seq xs n

theorem StR.but {h h' : Heap} {α : List Addr} {σ : Store} (S : StR X h α σ) (k1 : ∀ a ∈ α, ∀ o, h.get? a = some o → h'.get? a = some o)
    (k2 : ∀ a o, a ∉ X → h.get? a = some o → o.cls = .type "tuple" → (∃ xs n, o.data = .seq xs n) → h'.get? a = some o) (k3 : Live X h') : StR X h' α σ where
  len := S.len
  nodup := S.nodup
  get := fun i vs e => let ⟨a, us, e1, p, r⟩ := S.get i vs e; ⟨a, us, e1, p.at fun o => k1 a (List.mem_of_getElem? e1) o, by have := Rps.mono' (β := []) k2 r; simpa using this⟩
  cap := S.cap
  live := k3
theorem StR.offP {h h' : Heap} {α : List Addr} {σ : Store} (S : StR X h α σ) {P : Addr → Prop} (hP : ∀ b, P b → ∀ o, h.get? b = some o → Plain o) (k : ∀ b o, ¬ P b → h.get? b = some o → h'.get? b = some o) (hl : ∀ b, P b → b ∈ X → ∃ o, h'.get? b = some o) :
    StR X h' α σ := by
  refine S.but (fun a ha o e => k a o (fun p => ?_) e) (fun a o _ e _ d => k a o (fun p => ?_) e) fun a ha => ?_
  · obtain ⟨us, n, e'⟩ := S.addr ha
    rw [e'] at e; cases e
    exact hP _ p _ e' _ _ rfl
  · obtain ⟨xs, n, d⟩ := d
    exact hP _ p _ e _ _ d
  · obtain ⟨o, e⟩ := S.live a ha
    by_cases p : P a
    · exact hl a p ha
    · exact ⟨o, k a o p e⟩
theorem Rp.offP {h h' : Heap} {α : List Addr} {v : V} {u : Value} (r : Rp X h α v u) {P : Addr → Prop} (hP : ∀ b, P b → ∀ o, h.get? b = some o → Plain o) (k : ∀ b o, ¬ P b → h.get? b = some o → h'.get? b = some o) : Rp X h' α v u := by
  have := Rp.mono' (β := []) (h' := h') (fun a o _ e _ d => k a o (fun p => by obtain ⟨xs, n, d⟩ := d; exact hP _ p _ e _ _ d) e) r
  simpa using this

structure Frm (X : List Addr) (w : World) (env : Env) (C : List Addr) (lo : Nat) (hb h : Heap) (α : List Addr) (ρ : Loc) (σ : Store) : Prop where
  gd : Gd w hb
  sub : Sub hb h
  loc : hb.get? env.locals = none
  cel : ∀ c ∈ C, hb.get? c = none ∧ ∃ v, h.IsCell c v
  own : ∀ i b, lo ≤ i → α[i]? = some b → hb.get? b = none
  env : EnvR X env h α ρ
  st : StR X h α σ

theorem Frm.good {env : Env} {C : List Addr} {lo : Nat} {hb h : Heap} {α : List Addr} {ρ : Loc} {σ : Store} (F : Frm X w env C lo hb h α ρ σ) : Gd w h := F.gd.keeps F.sub
theorem Frm.grow {env : Env} {C : List Addr} {lo : Nat} {hb h h' : Heap} {α β : List Addr} {ρ : Loc} {σ σ' : Store} (F : Frm X w env C lo hb h α ρ σ) (k : Sub h h') (f : Fresh h β) (S : StR X h' (α ++ β) σ') : Frm X w env C lo hb h' (α ++ β) ρ σ' where
  gd := F.gd
  sub := F.sub.trans k
  loc := F.loc
  cel := fun c hc => ⟨(F.cel c hc).1, let ⟨v, q⟩ := (F.cel c hc).2; ⟨v, q.keeps k⟩⟩
  own := fun i b hi e => by
    by_cases hl : i < α.length
    · rw [List.getElem?_append_left hl] at e; exact F.own i b hi e
    · rw [List.getElem?_append_right (Nat.le_of_not_lt hl)] at e
      exact F.sub.none (f b (List.mem_of_getElem? e))
  env := F.env.mono k
  st := S
theorem Frm.grow0 {env : Env} {C : List Addr} {lo : Nat} {hb h h' : Heap} {α : List Addr} {ρ : Loc} {σ : Store} (F : Frm X w env C lo hb h α ρ σ) (k : Sub h h') : Frm X w env C lo hb h' α ρ σ := by
  have := F.grow (β := []) k (Fresh.nil _) (by simpa using F.st.mono k)
  simpa using this
theorem Frm.raise {env : Env} {C : List Addr} {lo lo' : Nat} {hb h : Heap} {α : List Addr} {ρ : Loc} {σ : Store} (F : Frm X w env C lo hb h α ρ σ) (hl : lo ≤ lo') : Frm X w env C lo' hb h α ρ σ :=
  { F with own := fun i b hi e => F.own i b (Nat.le_trans hl hi) e }

theorem Frm.locObj {env : Env} {C : List Addr} {lo : Nat} {hb h : Heap} {α : List Addr} {ρ : Loc} {σ : Store} (F : Frm X w env C lo hb h α ρ σ) : ∀ o, h.get? env.locals = some o → ∃ es n, o.data = .dict es n := fun o e => by
  obtain ⟨m, ⟨o', es, ep, e', d, _⟩, _, _⟩ := F.env
  rw [e] at e'; cases e'; exact ⟨_, _, d⟩

/-- a local name is bound -/
theorem Frm.setLocal {env : Env} {A : Around} {s : Shared} {C : List Addr} {lo : Nat} {hb : Heap} {α : List Addr} {ρ : Loc} {σ : Store} {n : String} {v : V} {u : Value} {Q : Unit → Shared → Prop} {E : Value → Shared → Prop}
    (F : Frm X w env C lo hb s.heap α ρ σ) (hE : EnvOk env sc) (hl : sc.names.lookup (Str.ofString n) = some .local) (r : Rp X s.heap α v u)
    (h : ∀ h' tk, Keep env C lo α s.heap h' → Frm X w env C lo hb h' α (upd ρ n v) σ → Q () { s with heap := h', toks := tk }) : wpAny (model Prg w) A (storeName env (Str.ofString n) u) Q E s := by
  obtain ⟨m, hn, hcs, g⟩ := F.env
  have hk : env.kindOf (Str.ofString n) = some .local := by unfold Env.kindOf; rw [hE.same]; exact hl
  have hp : (env.scope.kind == .class || (env.scope.kind == .module && env.locals != env.globals)) = false := by rw [hE.same, hE.kind]; rfl
  have ho := F.locObj
  refine wpAny_storeName_local hk hn (fun h' hn' sb => ?_) hp
  have hP : ∀ b, b = env.locals → ∀ o, s.heap.get? b = some o → Plain o := fun b q o e xs k d => by
    subst q; obtain ⟨es, n, d'⟩ := ho o e; rw [d'] at d; cases d
  have kk : ∀ b o, ¬ (b = env.locals) → s.heap.get? b = some o → h'.get? b = some o := fun b o q e => (sb.2 b q).trans e
  have hc : ∀ c v, s.heap.IsCell c v → h'.IsCell c v := fun c v ⟨o, e, d⟩ => ⟨o, kk c o (fun q => by subst q; obtain ⟨es, n, d'⟩ := ho o e; rw [d'] at d; cases d) e, d⟩
  refine h h' _ (fun b o q e => kk b o (fun q' => q (.inl q')) e) ⟨F.gd, fun b o e => kk b o (fun q => ?_) (F.sub b o e), F.loc, fun c hc' => ⟨(F.cel c hc').1, let ⟨v, q⟩ := (F.cel c hc').2; ⟨v, hc _ _ q⟩⟩, F.own, ?_, ?_⟩
  · rw [q, F.loc] at e; cases e
  · refine ⟨_, hn', fun x c e => let ⟨v, q⟩ := hcs x c e; ⟨v, hc _ _ q⟩, fun k vv e => ?_⟩
    unfold upd at e
    by_cases q : k = n
    · subst q
      rw [if_pos rfl] at e; cases e
      exact .inl ⟨hk, u, by simp, r.offP hP kk⟩
    · rw [if_neg q] at e
      rcases g k vv e with ⟨a, u', b, c⟩ | ⟨a, c, u', b, d, f⟩
      · exact .inl ⟨a, u', by rw [if_neg fun q' => q (ofString_inj q')]; exact b, c.offP hP kk⟩
      · exact .inr ⟨a, c, u', b, hc _ _ d, f.offP hP kk⟩
  · refine F.st.offP hP kk fun b q _ => ?_
    subst q
    obtain ⟨o, _, _, e, _⟩ := hn'
    exact ⟨o, e⟩
/-- a name that is a cell is bound -/
theorem Frm.setCell {env : Env} {A : Around} {s : Shared} {C : List Addr} {lo : Nat} {hb : Heap} {α : List Addr} {ρ : Loc} {σ : Store} {n : String} {v : V} {u : Value} {Q : Unit → Shared → Prop} {E : Value → Shared → Prop}
    (F : Frm X w env C lo hb s.heap α ρ σ) (hE : EnvOk env sc) (hC : ∀ x c, env.cells.lookup x = some c → c ∈ C) (inj : ∀ x y c, env.cells.lookup x = some c → env.cells.lookup y = some c → x = y) (hl : sc.names.lookup (Str.ofString n) = some .cell) (r : Rp X s.heap α v u)
    (h : ∀ h' tk, Keep env C lo α s.heap h' → Frm X w env C lo hb h' α (upd ρ n v) σ → Q () { s with heap := h', toks := tk }) : wpAny (model Prg w) A (storeName env (Str.ofString n) u) Q E s := by
  obtain ⟨m, hn, hcs, g⟩ := F.env
  obtain ⟨c, hc⟩ := hE.cells _ hl
  have hcC := hC _ _ hc
  obtain ⟨hc0, v₀, hv⟩ := F.cel c hcC
  have hk : env.kindOf (Str.ofString n) = some .cell := by unfold Env.kindOf; rw [hE.same]; exact hl
  have hkf : env.scope.kind = .function := by rw [hE.same]; exact hE.kind
  have ho := F.locObj
  refine wpAny_storeName_cell hkf hk hc hv fun h' hv' sb => ?_
  have hP : ∀ b, b = c → ∀ o, s.heap.get? b = some o → Plain o := fun b q o e xs k d => by
    subst q; obtain ⟨o', e', d'⟩ := hv; rw [e] at e'; cases e'; rw [d'] at d; cases d
  have kk : ∀ b o, ¬ (b = c) → s.heap.get? b = some o → h'.get? b = some o := fun b o q e => (sb.2 b q).trans e
  have hnl : env.locals ≠ c := fun q => by
    obtain ⟨o', e', d'⟩ := hv
    obtain ⟨es, n, d⟩ := ho o' (by rw [q]; exact e')
    rw [d'] at d; cases d
  have cells : ∀ c' v', s.heap.IsCell c' v' → c' ≠ c → h'.IsCell c' v' := fun c' v' ⟨o, e, d⟩ q => ⟨o, kk c' o q e, d⟩
  refine h h' s.toks (fun b o q e => kk b o (fun q' => q (.inr (.inl (q' ▸ hcC)))) e) ⟨F.gd, fun b o e => kk b o (fun q => ?_) (F.sub b o e), F.loc, fun c' hc' => ⟨(F.cel c' hc').1, ?_⟩, F.own, ?_, ?_⟩
  · rw [q, hc0] at e; cases e
  · by_cases q : c' = c
    · subst q; exact ⟨_, hv'⟩
    · obtain ⟨v, x⟩ := (F.cel c' hc').2; exact ⟨v, cells _ _ x q⟩
  · refine ⟨m, hn.at fun o e => kk _ o hnl e, fun x c' e => ?_, fun k vv e => ?_⟩
    · by_cases q : c' = c
      · subst q; exact ⟨_, hv'⟩
      · obtain ⟨v, x⟩ := hcs x c' e; exact ⟨v, cells _ _ x q⟩
    unfold upd at e
    by_cases q : k = n
    · subst q
      rw [if_pos rfl] at e; cases e
      exact .inr ⟨hk, c, u, hc, hv', r.offP hP kk⟩
    · rw [if_neg q] at e
      rcases g k vv e with ⟨a, u', b, d⟩ | ⟨a, c', u', b, d, f⟩
      · exact .inl ⟨a, u', b, d.offP hP kk⟩
      · refine .inr ⟨a, c', u', b, cells _ _ d fun q' => ?_, f.offP hP kk⟩
        subst q'
        exact q (ofString_inj (inj _ _ _ b hc))
  · refine F.st.offP hP kk fun b q _ => ?_
    subst q
    obtain ⟨o, e, _⟩ := hv'
    exact ⟨o, e⟩

noncomputable abbrev Tgt := V → Loc → Option Loc
structure Hold (env : Env) (sc : Scope) (full : Bool) (C : List Addr) : Prop where
  ok : EnvOk env sc
  inj : full = true → ∀ x y c, env.cells.lookup x = some c → env.cells.lookup y = some c → x = y
  cel : full = true → ∀ x c, env.cells.lookup x = some c → c ∈ C
noncomputable def SoundG (w : World) (sc : Scope) (full : Bool) (target : Expr) (T : Tgt) : Prop :=
  ∀ (X : List Addr) (env : Env) (A : Around) (s : Shared) (C : List Addr) (lo : Nat) (hb : Heap) (ρ : Loc) (α : List Addr) (σ : Store) (v : V) (u : Value) (ρ' : Loc) (Q : Unit → Shared → Prop) (E : Value → Shared → Prop),
    Hold env sc full C → A.handled = none → Frm X w env C lo hb s.heap α ρ σ → Rp X s.heap α v u → T v ρ = some ρ' →
    (∀ h' tk, Keep env C lo α s.heap h' → Frm X w env C lo hb h' α ρ' σ → Q () { s with heap := h', toks := tk }) → wpAny (model Prg w) A (assign target env u) Q E s
theorem SoundG.run {w : World} {sc : Scope} {full : Bool} {target : Expr} {T : Tgt} (h : SoundG w sc full target T) : SoundG w sc full target T := h
noncomputable def tName (n : String) : Tgt := fun v ρ => some (upd ρ n v)
theorem G_local {full : Bool} {n : String} {pos : Pos} (hl : sc.names.lookup (Str.ofString n) = some .local) : SoundG w sc full (.Name (Str.ofString n) pos) (tName n) := by
  intro X env A s C lo hb ρ α σ v u ρ' Q E H hh F r ev P
  cases ev
  exact wpAny_assign_Name (F.setLocal H.ok hl r P)
theorem G_cell {n : String} {pos : Pos} (hl : sc.names.lookup (Str.ofString n) = some .cell) : SoundG w sc true (.Name (Str.ofString n) pos) (tName n) := by
  intro X env A s C lo hb ρ α σ v u ρ' Q E H hh F r ev P
  cases ev
  exact wpAny_assign_Name (F.setCell H.ok (H.cel rfl) (H.inj rfl) hl r P)

noncomputable def tAll : List Tgt → List V → Loc → Option Loc
  | [], [], ρ => some ρ
  | T :: Ts, v :: vs, ρ => match T v ρ with
    | some ρ1 => tAll Ts vs ρ1
    | none => none
  | _, _, _ => none
theorem tAll_len : ∀ {Ts : List Tgt} {vs : List V} {ρ ρ' : Loc}, tAll Ts vs ρ = some ρ' → Ts.length = vs.length
  | [], [], _, _, _ => rfl
  | T :: Ts, v :: vs, ρ, ρ', h => by
    unfold tAll at h
    split at h
    · simp [tAll_len h]
    · cases h
noncomputable def tTup (Ts : List Tgt) : Tgt := fun v ρ => match v with
  | .tup vs => tAll Ts vs ρ
  | _ => none
structure SoundGs (w : World) (sc : Scope) (full : Bool) (elts : List Expr) (Ts : List Tgt) : Prop where
  len : ∀ env, (assignEach elts env).length = Ts.length
  star : ∀ env, (assignEach elts env).findIdx? (·.1) = none
  run : ∀ (X : List Addr) (env : Env) (A : Around) (s : Shared) (C : List Addr) (lo : Nat) (hb : Heap) (ρ : Loc) (α : List Addr) (σ : Store) (vs : List V) (us : List Value) (ρ' : Loc) (Q : Unit → Shared → Prop) (E : Value → Shared → Prop),
    Hold env sc full C → A.handled = none → Frm X w env C lo hb s.heap α ρ σ → Rps X s.heap α vs us → tAll Ts vs ρ = some ρ' →
    (∀ h' tk, Keep env C lo α s.heap h' → Frm X w env C lo hb h' α ρ' σ → Q () { s with heap := h', toks := tk }) → wpAny (model Prg w) A (assignInOrder ((assignEach elts env).map (·.2)) us) Q E s
theorem Keep.refl (env : Env) (C : List Addr) (lo : Nat) (α : List Addr) (h : Heap) : Keep env C lo α h h := fun _ _ _ e => e
theorem Keep.trans0 {env : Env} {C : List Addr} {lo : Nat} {α : List Addr} {h h' h'' : Heap} (x : Keep env C lo α h h') (y : Keep env C lo α h' h'') : Keep env C lo α h h'' := fun b o m e => y b o m (x b o m e)
/-- values outlive what a frame changes -/
theorem Frm.noTup {env : Env} {C : List Addr} {lo : Nat} {hb h : Heap} {α : List Addr} {ρ : Loc} {σ : Store} (F : Frm X w env C lo hb h α ρ σ) {b : Addr} {o : Obj} (e : h.get? b = some o) (ht : o.cls = .type "tuple") (hd : ∃ xs n, o.data = .seq xs n) : ¬ Mut env C lo α b := by
  obtain ⟨xs, n, hd⟩ := hd
  rintro (q | q | ⟨i, _, q⟩)
  · subst q
    obtain ⟨es, k, d⟩ := F.locObj o e
    rw [d] at hd; cases hd
  · obtain ⟨v, o', e', d⟩ := (F.cel b q).2
    rw [e] at e'; cases e'
    rw [d] at hd; cases hd
  · obtain ⟨us, k, e'⟩ := F.st.addr (List.mem_of_getElem? q)
    rw [e] at e'; cases e'; simp at ht
theorem Frm.keepRp {env : Env} {C : List Addr} {lo : Nat} {hb h h' : Heap} {α : List Addr} {ρ : Loc} {σ : Store} (F : Frm X w env C lo hb h α ρ σ) (k : Keep env C lo α h h') {v : V} {u : Value} (r : Rp X h α v u) : Rp X h' α v u := by
  have := Rp.mono' (β := []) (h' := h') (fun a o _ e c d => k a o (F.noTup e c d) e) r
  simpa using this
theorem Frm.keepRps {env : Env} {C : List Addr} {lo : Nat} {hb h h' : Heap} {α : List Addr} {ρ : Loc} {σ : Store} (F : Frm X w env C lo hb h α ρ σ) (k : Keep env C lo α h h') {v : List V} {u : List Value} (r : Rps X h α v u) : Rps X h' α v u := by
  have := Rps.mono' (β := []) (h' := h') (fun a o _ e c d => k a o (F.noTup e c d) e) r
  simpa using this
theorem Gs_nil {full : Bool} : SoundGs w sc full [] [] where
  len := fun _ => rfl
  star := fun _ => rfl
  run := fun X env A s C lo hb ρ α σ vs us ρ' Q E H hh F r ev P => by
    cases r with
    | nil =>
      cases ev
      exact wpAny_pure (P s.heap s.toks (Keep.refl _ _ _ _ _) F)
    | cons a b => cases ev
theorem Gs_cons {full : Bool} {e : Expr} {es : List Expr} {T : Tgt} {Ts : List Tgt} (h : SoundG w sc full e T) (hs : SoundGs w sc full es Ts) (he : ∀ env, assignEach (e :: es) env = (false, assign e env) :: assignEach es env := by intro _; rfl) : SoundGs w sc full (e :: es) (T :: Ts) where
  len := fun env => by rw [he]; simp [hs.len env]
  star := fun env => by rw [he, List.findIdx?_cons]; simp [hs.star env]
  run := fun X env A s C lo hb ρ α σ vs us ρ' Q E H hh F r ev P => by
    cases r with
    | nil => cases ev
    | cons a b =>
      unfold tAll at ev
      split at ev
      · rename_i ρ1 h1
        rw [he]
        refine wpAny_bind (wpAny_holding (h.run X env A s C lo hb ρ α σ _ _ ρ1 _ E H hh F a h1 fun h' tk k F' => ?_))
        refine hs.run X env A _ C lo hb ρ1 α σ _ _ ρ' _ E H hh F' (F.keepRps k b) ev fun h'' tk' k' F'' => ?_
        exact P h'' tk' (k.trans0 k') F''
      · cases ev
theorem extSize {h h' : Heap} (k : Heap.ExtBut h.objs.size h h') : Sub h h' := fun b o e => k b o (Nat.ne_of_lt (Heap.lt_size e)) e
theorem G_tup {full : Bool} {elts : List Expr} {kk : Nat} {pos : Pos} {Ts : List Tgt} (hs : SoundGs w sc full elts Ts) : SoundG w sc full (.Tuple elts kk pos) (tTup Ts) := by
  intro X env A s C lo hb ρ α σ v u ρ' Q E H hh F r ev P
  cases v <;> first | (cases ev; done) | skip
  cases r with
  | tup x t rs =>
    rename_i vs us a
    refine wpAny_assign_Tuple hh t ?_ (hs.star env) fun h' k => ?_
    · rw [hs.len env, tAll_len ev, rs.length]; simp
    · have k' := extSize k
      refine hs.run X env A { s with heap := h' } C lo hb ρ α σ vs us ρ' Q E H hh (F.grow0 k') ?_ ev fun h'' tk'' k'' F'' => ?_
      · have := Rps.mono (β := []) k' rs
        simpa using this
      · exact P h'' tk'' ((Keep.of k').trans0 k'') F''
end Mine
end

section
open PySem PySem.W PyProof.Rows PySem.Calls
set_option Elab.async false
set_option autoImplicit false
namespace Mine
variable {X : List Addr} {w : World} {lvl : Nat} {sc : Scope}

/-- a change off what the frame holds -/
theorem Frm.off {env : Env} {C : List Addr} {lo : Nat} {hb h h' : Heap} {α : List Addr} {ρ : Loc} {σ : Store} (F : Frm X w env C lo hb h α ρ σ) (P : Addr → Prop)
    (k : ∀ b o, ¬ P b → h.get? b = some o → h'.get? b = some o)
    (p0 : ∀ b, P b → hb.get? b = none) (p1 : ∀ b, P b → b ≠ env.locals) (p2 : ∀ b, P b → b ∉ C) (p3 : ∀ b, P b → ∀ x c, env.cells.lookup x = some c → c ≠ b) (p4 : ∀ b, P b → b ∉ α)
    (p5 : ∀ b, P b → b ∈ X ∨ ∀ o, h.get? b = some o → o.cls = .type "tuple" → (∃ xs n, o.data = .seq xs n) → False) (p6 : ∀ b, P b → b ∈ X → ∃ o, h'.get? b = some o) : Frm X w env C lo hb h' α ρ σ := by
  have kt : ∀ a o, a ∉ X → h.get? a = some o → o.cls = .type "tuple" → (∃ xs n, o.data = .seq xs n) → h'.get? a = some o := fun a o hx e c d =>
    k a o (fun p => (p5 a p).elim hx fun q => q o e c d) e
  have up : ∀ {v u}, Rp X h α v u → Rp X h' α v u := fun r => by have := Rp.mono' (β := []) kt r; simpa using this
  refine ⟨F.gd, fun b o e => k b o (fun p => by rw [p0 b p] at e; cases e) (F.sub b o e), F.loc, fun c hc => ⟨(F.cel c hc).1, ?_⟩, F.own, ?_, ?_⟩
  · obtain ⟨v, o, e, d⟩ := (F.cel c hc).2
    exact ⟨v, o, k c o (fun p => p2 c p hc) e, d⟩
  · obtain ⟨m, hn, hcs, g⟩ := F.env
    have hc : ∀ x c v, env.cells.lookup x = some c → h.IsCell c v → h'.IsCell c v := fun x c v hx ⟨o, e, d⟩ => ⟨o, k c o (fun p => p3 c p x c hx rfl) e, d⟩
    refine ⟨m, hn.at fun o e => k _ o (fun p => p1 _ p rfl) e, fun x c e => let ⟨v, q⟩ := hcs x c e; ⟨v, hc x c v e q⟩, fun n v e => ?_⟩
    rcases g n v e with ⟨a, u', b, c⟩ | ⟨a, c, u', b, d, f⟩
    · exact .inl ⟨a, u', b, up c⟩
    · exact .inr ⟨a, c, u', b, hc _ _ _ b d, up f⟩
  · refine F.st.but (fun a ha o e => k a o (fun p => p4 a p ha) e) kt fun a ha => ?_
    obtain ⟨o, e⟩ := F.st.live a ha
    by_cases p : P a
    · exact p6 a p ha
    · exact ⟨o, k a o p e⟩

noncomputable def V.solid : V → Bool
  | .lst _ => false
  | .tup vs => vs.all V.flat
  | _ => true
theorem Rps.flat {h : Heap} {α α' : List Addr} : ∀ {vs : List V} {us : List Value}, vs.all V.flat = true → Rps X h α vs us → Rps X h α' vs us
  | _, _, _, .nil => .nil
  | _, _, e, .cons a b => by
    simp only [List.all_cons, Bool.and_eq_true] at e
    exact .cons (a.flat e.1) (Rps.flat e.2 b)
theorem Rp.solid {h : Heap} {α α' : List Addr} {v : V} {u : Value} (hv : v.solid = true) (r : Rp X h α v u) : Rp X h α' v u := by
  cases r with
  | tup x t rs => exact .tup x t (Rps.flat hv rs)
  | lst e => cases hv
  | none => exact .none
  | bool b => exact .bool b
  | int i t => exact .int i t
  | str s t => exact .str s t
  | bytes b t => exact .bytes b t

/-- a comprehension's conditions -/
noncomputable def SoundFs (w : World) (lvl : Nat) (sc : Scope) (ifs : List Expr) (D : Tst) : Prop :=
  ∀ (X : List Addr) (env : Env) (A : Around) (s : Shared) (ρ : Loc) (α : List Addr) (σ : Store) (b : Bool) (Q : Bool → Shared → Prop) (E : Value → Shared → Prop),
    EnvOk env sc → Room A lvl → Gd w s.heap → EnvR X env s.heap α ρ → StR X s.heap α σ → D ρ σ = some b →
    (∀ h' tk', Sub s.heap h' → Q b { s with heap := h', toks := tk' }) →
    wpAny (model Prg w) A (forIn ifs true fun c r => if r = true then do let ok ← isTrue c env (eval c env); pure (ForInStep.yield ok) else pure (ForInStep.yield r)) Q E s
theorem SoundFs.run {w : World} {lvl : Nat} {sc : Scope} {ifs : List Expr} {D : Tst} (h : SoundFs w lvl sc ifs D) : SoundFs w lvl sc ifs D := h
noncomputable def tYes : Tst := fun _ _ => some true
theorem Fs_nil : SoundFs w lvl sc [] tYes := by
  intro X env A s ρ α σ b Q E hE hR G R S ev P
  cases ev
  exact wpAny_tests_nil (P s.heap s.toks (Sub.refl _))
theorem Fs_one {c : Expr} {t : Tst} (h : SoundT w lvl sc c t) : SoundFs w lvl sc [c] t := by
  intro X env A s ρ α σ b Q E hE hR G R S ev P
  exact wpAny_tests_one (h.run X env A s ρ α σ b Q E hE hR G R S ev P _ rfl)

noncomputable def compGo (T : Tgt) (t : Tst) (d : Den) : List V → Loc → Store → Option (List V)
  | [], _, _ => some []
  | v :: rest, ρ, σ => match T v ρ with
    | none => none
    | some ρ1 => match t ρ1 σ with
      | none => none
      | some false => compGo T t d rest ρ1 σ
      | some true => match d ρ1 σ with
        | none => none
        | some (x, _) => if x.solid then (match compGo T t d rest ρ1 σ with
          | some xs => some (x :: xs)
          | none => none) else none

section
variable {prog : Program} {A : Around} {R : Result → Shared → Prop} {s : Shared}
theorem compLoopAll {elt target iter : Expr} {ifs : List Expr} {scope : Scope} {pos : Pos} {it acc : Value} {env : Env} (I : Nat → Shared → Prop)
    (turn : ∀ n s, I n s → wpAny (model prog w) A (pyNext it) (fun r s₁ => match r with
      | none => R (.ok .next) s₁
      | some v => wpAny (model prog w) A (letOwnedTupleGo target it v) (fun _ s₁' => wpAny (model prog w) A (assign target env v) (fun _ s₂ =>
          wpAny (model prog w) A (forIn ifs true fun c r => if r = true then do let ok ← isTrue c env (eval c env); pure (ForInStep.yield ok) else pure (ForInStep.yield r)) (fun ok s₃ =>
            if ok = true then wpAny (model prog w) A (eval elt env) (fun x s₄ =>
              wpAny (model prog w) A (call (.builtin "list.append") [acc, x]) (fun _ s₅ => ∃ m, m < n ∧ I m s₅) (notedBy (model prog w) A env fun e s' => R (.error e) s') s₄) (notedBy (model prog w) A env fun e s' => R (.error e) s') s₃
            else ∃ m, m < n ∧ I m s₃) (notedBy (model prog w) A env fun e s' => R (.error e) s') s₂) (notedBy (model prog w) A env fun e s' => R (.error e) s') s₁') (notedBy (model prog w) A env fun e s' => R (.error e) s') s₁) (notedBy (model prog w) A env fun e s' => R (.error e) s') s)
    (n : Nat) (h : I n s) :
    codeAny (model prog w) A (.compLoop (.ListComp elt [⟨target, iter, ifs, 0⟩] scope pos) 0 it acc env) R s := by
  refine codeAny_loop rfl I (fun n s hI => ?_) n h
  show wpAny _ A ((compTurn (.ListComp elt [⟨target, iter, ifs, 0⟩] scope pos) 0 it acc env).onRaise (fun x => do noteFrame x env; theTreesLotGoes x)) _ _ s
  refine wpAny_noted ?_
  rw [compTurn_list]
  refine wpAny_bind (wpAny_standAt (wpAny_bind (wpAny_mono (turn n s hI) (fun r s₁ h₁ => ?_) fun _ _ h' => h')))
  cases r with
  | none => exact wpAny_pure h₁
  | some v =>
    refine wpAny_bind (wpAny_mono h₁ (fun _ s₁' h₁' => ?_) fun _ _ h' => h')
    refine wpAny_bind (wpAny_mono h₁' (fun _ s₂ h₂ => wpAny_bind (wpAny_mono h₂ (fun ok s₃ h₃ => ?_) fun _ _ h' => h')) fun _ _ h' => h')
    cases ok with
    | false => exact wpAny_pure ⟨rfl, h₃⟩
    | true =>
      exact wpAny_bind (wpAny_bind (wpAny_mono h₃ (fun x s₄ h₄ => wpAny_bind (wpAny_mono h₄ (fun _ s₅ h₅ => wpAny_pure (wpAny_pure ⟨rfl, h₅⟩)) fun _ _ h' => h')) fun _ _ h' => h'))
end

/-- the scope a comprehension's names are read by -/
noncomputable def relabelS (csc sc : Scope) : Scope :=
  { csc with names := csc.names.map fun (n, k) => if (k == .free && sc.kind == .function && sc.names.lookup n == some .cell) then (n, .cell) else (n, k) }
theorem relabel_is {csc : Scope} {env : Env} (hE : EnvOk env sc) : relabel csc env = relabelS csc sc := by
  unfold relabel relabelS Env.kindOf
  rw [hE.same]
theorem relabel_cell {sc : Scope} {x : Str} : ∀ {names : List (Str × NameKind)}, (∀ y ∈ names, y.2 ≠ .cell) →
    (names.map fun (n, k) => if (k == NameKind.free && sc.kind == .function && sc.names.lookup n == some .cell) then (n, NameKind.cell) else (n, k)).lookup x = some .cell → (x, NameKind.free) ∈ names
  | [], _, h => by simp at h
  | (n, k) :: r, hc, h => by
    have ih := @relabel_cell sc x r (fun y hy => hc y (List.mem_cons_of_mem _ hy))
    have h' : List.lookup x ((if (k == NameKind.free && sc.kind == .function && sc.names.lookup n == some .cell) = true then (n, NameKind.cell) else (n, k)) :: (r.map fun (n, k) => if (k == NameKind.free && sc.kind == .function && sc.names.lookup n == some .cell) then (n, NameKind.cell) else (n, k))) = some .cell := h
    by_cases q : (k == NameKind.free && sc.kind == .function && sc.names.lookup n == some .cell) = true
    · rw [if_pos q, List.lookup_cons] at h'
      cases hx : x == n with
      | true =>
        have hk : k = .free := by simp only [Bool.and_eq_true] at q; exact of_decide_eq_true (by simpa using q.1.1)
        rw [hk, eq_of_beq hx]; exact List.mem_cons_self
      | false => rw [hx] at h'; exact List.mem_cons_of_mem _ (ih h')
    · rw [if_neg q, List.lookup_cons] at h'
      cases hx : x == n with
      | true =>
        rw [hx] at h'
        simp only [Option.some.injEq] at h'
        exact absurd h' (hc (n, k) List.mem_cons_self)
      | false => rw [hx] at h'; exact List.mem_cons_of_mem _ (ih h')

noncomputable def closureGo (cells : List (Str × Addr)) : List (Str × NameKind) → List (Str × Addr) → List (Str × Addr)
  | [], acc => acc
  | (n, k) :: r, acc => if k == .free then closureGo cells r ((n, (cells.lookup n).getD 0) :: acc) else closureGo cells r acc
theorem closureGo_good {cells : List (Str × Addr)} : ∀ {names : List (Str × NameKind)} {acc : List (Str × Addr)}, (∀ x ∈ names, x.2 = .free → ∃ c, cells.lookup x.1 = some c) →
    (∀ y c, acc.lookup y = some c → cells.lookup y = some c) → ∀ y c, (closureGo cells names acc).lookup y = some c → cells.lookup y = some c
  | [], acc, _, h, y, c, e => h y c e
  | (n, k) :: r, acc, hn, h, y, c, e => by
    unfold closureGo at e
    split at e
    · rename_i hk
      refine closureGo_good (fun x hx => hn x (List.mem_cons_of_mem _ hx)) (fun z c' e' => ?_) y c e
      rw [List.lookup_cons] at e'
      cases hz : z == n with
      | true =>
        rw [hz] at e'
        obtain ⟨c0, h0⟩ := hn (n, k) List.mem_cons_self (of_decide_eq_true (by simpa using hk))
        rw [eq_of_beq hz]
        simp only [h0, Option.getD_some, Option.some.injEq] at e'
        rw [h0, e']
      | false => rw [hz] at e'; exact h z c' e'
    · exact closureGo_good (fun x hx => hn x (List.mem_cons_of_mem _ hx)) h y c e
theorem closureGo_keep {cells : List (Str × Addr)} {x : Str} : ∀ {names : List (Str × NameKind)} {acc : List (Str × Addr)}, (∃ c, acc.lookup x = some c) → ∃ c, (closureGo cells names acc).lookup x = some c
  | [], acc, h => h
  | (n, k) :: r, acc, h => by
    unfold closureGo
    split
    · refine closureGo_keep ?_
      rw [List.lookup_cons]
      cases hz : x == n with
      | true => exact ⟨_, rfl⟩
      | false => exact h
    · exact closureGo_keep h
theorem closureGo_has {cells : List (Str × Addr)} {x : Str} : ∀ {names : List (Str × NameKind)} {acc : List (Str × Addr)}, (x, NameKind.free) ∈ names → ∃ c, (closureGo cells names acc).lookup x = some c
  | (n, k) :: r, acc, h => by
    unfold closureGo
    rcases List.mem_cons.mp h with q | q
    · cases q
      rw [if_pos (show (NameKind.free == NameKind.free) = true from rfl)]
      exact closureGo_keep ⟨_, by rw [List.lookup_cons, beq_self_eq_true]⟩
    · split
      · exact closureGo_has q
      · exact closureGo_has q
theorem closureFor_is {csc : Scope} {env : Env} (h : ∀ x ∈ csc.names, x.2 = .free → ∃ c, env.cells.lookup x.1 = some c) : closureFor csc env = pure (closureGo env.cells csc.names []) := by
  have go : ∀ (names : List (Str × NameKind)) (acc : List (Str × Addr)), (∀ x ∈ names, x.2 = .free → ∃ c, env.cells.lookup x.1 = some c) →
      (forIn names acc fun (x : Str × NameKind) (cs : List (Str × Addr)) => match x with
        | (name, kind) => if (kind == NameKind.free) = true then do let a ← cellOf env name; pure (ForInStep.yield ((name, a) :: cs)) else pure (ForInStep.yield cs) : Sem (List (Str × Addr))) = pure (closureGo env.cells names acc) := by
    intro names
    induction names with
    | nil => intro acc _; rfl
    | cons x r ih =>
      intro acc hn
      obtain ⟨n, k⟩ := x
      rw [List.forIn_cons]
      dsimp only
      unfold closureGo
      by_cases hk : (k == NameKind.free) = true
      · obtain ⟨c, hc⟩ := hn (n, k) List.mem_cons_self (of_decide_eq_true (by simpa using hk))
        have hc' : cellOf env n = pure c := by unfold cellOf; rw [show env.cells.lookup n = some c from hc]
        rw [if_pos hk, if_pos hk, hc', pure_bind, pure_bind, show env.cells.lookup n = some c from hc]
        exact ih _ fun x hx => hn x (List.mem_cons_of_mem _ hx)
      · rw [if_neg hk, if_neg hk, pure_bind]
        exact ih _ fun x hx => hn x (List.mem_cons_of_mem _ hx)
  unfold closureFor
  have h2 := go csc.names [] h
  exact (congrArg (fun m => m >>= fun r => pure r) h2).trans (pure_bind _ _)
noncomputable def only (fv : List String) (ρ : Loc) : Loc := fun n => if n ∈ fv then ρ n else none
end Mine
end

section
open PySem PySem.W PyProof.Rows PySem.Calls
set_option Elab.async false
set_option autoImplicit false
namespace Mine
variable {X : List Addr} {w : World} {lvl : Nat} {sc : Scope}

structure CompOk (w : World) (lvl : Nat) (sc csc : Scope) (elt target : Expr) (ifs : List Expr) (fv : List String) (T : Tgt) (t : Tst) (d : Den) : Prop where
  tgt : SoundG w (relabelS csc sc) false target T
  tst : SoundFs w lvl (relabelS csc sc) ifs t
  den : SoundE w lvl (relabelS csc sc) elt d
  kind : csc.kind = .function
  cell : ∀ y ∈ csc.names, y.2 ≠ .cell
  free : ∀ x ∈ csc.names, x.2 = .free → sc.names.lookup x.1 = some .cell
  fv : ∀ n ∈ fv, (relabelS csc sc).names.lookup (Str.ofString n) = some .cell ∧ sc.names.lookup (Str.ofString n) = some .cell
  loc : ∀ y ∈ csc.names, y.2 = .local → csc.names.lookup y.1 = some .local

theorem Rps.wide0 {hS h : Heap} {α : List Addr} {v : List V} {u : List Value} (r : Rps X hS α v u) (k : Sub hS h) : Rps X h α v u := by
  have := Rps.mono (β := []) k r; simpa using this
theorem StR.wide {hS h : Heap} {α : List Addr} {σ : Store} {wr : List Addr} (S : StR X hS α σ) (k : Sub hS h) (hw : ∀ b ∈ wr, hS.get? b = none) (hl : Live wr h) : StR (X ++ wr) h α σ where
  len := S.len
  nodup := S.nodup
  get := fun i vs e => let ⟨a, us, e1, p, r⟩ := S.get i vs e; ⟨a, us, e1, p.at fun o => k _ o, (r.wider hw).wide0 k⟩
  cap := S.cap
  live := fun a ha => by
    rcases List.mem_append.mp ha with q | q
    · obtain ⟨o, e⟩ := S.live a q; exact ⟨o, k a o e⟩
    · exact hl a q

noncomputable def CInv (X : List Addr) (w : World) (cenv : Env) (D : Addr) (hS : Heap) (s₂ : Shared) (items : List V) (St : Nat → Heap → Prop) (α : List Addr) (σ : Store) (T : Tgt) (t : Tst) (d : Den) (vs : List V) (n : Nat) (s' : Shared) : Prop :=
  ∃ h tk i us xs rest ρ1, s' = { s₂ with heap := h, toks := tk } ∧ n = items.length + 1 - i ∧ i ≤ items.length ∧ St i h ∧ h.PlainList D us.toArray ∧ Rps X h α xs us ∧
        Frm X w cenv [] α.length hS h α ρ1 σ ∧ compGo T t d (items.drop i) ρ1 σ = some rest ∧ xs ++ rest = vs
theorem compRun {csc : Scope} {elt target iter : Expr} {ifs : List Expr} {pos : Pos} {fv : List String} {T : Tgt} {t : Tst} {d : Den} (O : CompOk w lvl sc csc elt target ifs fv T t d)
    {env : Env} {A : Around} {s₂ : Shared} {hS : Heap} {I : Addr} {wr fp : List Addr} {St : Nat → Heap → Prop} {items : List V} {α : List Addr} {fz : Nat} {σ : Store} {ρ : Loc} {vs : List V} {RR : Value → Addr → Result → Shared → Prop} {E : Value → Shared → Prop}
    (hE : EnvOk env sc) (hR : Room A lvl) (G : Gd w hS) (R : EnvR X env hS α ρ) (S : StR X hS α σ) (W : Itr X w A target I wr fp items α hS St) (k : Sub hS s₂.heap) (st : St 0 s₂.heap) (ok : FpOk fp hS s₂.heap α fz)
    (ev : compGo T t d items (only fv ρ) σ = some vs) (hc : vs.length ≤ cap)
    (hRR : ∀ D L h' tk m us, hS.get? D = none → hS.get? L = none → D ≠ L → h'.Ns L m → h'.PlainList D us.toArray → Rps X h' α vs us → Sub hS h' → RR (.ref D) L (.ok .next) { s₂ with heap := h', toks := tk }) :
    wpAny (model Prg w) A (newList []) (fun acc s₃ => wpAny (model Prg w) A (newFunctionEnv csc env.globals (closureGo env.cells csc.names []) [] env.qual none .none (some env)) (fun cenv s₄ =>
      codeAny (model Prg w) A (.compStart (.ListComp elt [⟨target, iter, ifs, 0⟩] csc pos) 0 (.ref I) acc { cenv with scope := relabel csc env }) (RR acc cenv.locals) s₄) E s₃) E s₂ := by
  have hfree : ∀ x ∈ csc.names, x.2 = .free → ∃ c, env.cells.lookup x.1 = some c := fun x hx e => hE.cells _ (O.free x hx e)
  have good := closureGo_good (acc := []) hfree (fun y c e => by simp at e)
  refine wpAny_newObj_type (wpAny_newFunctionEnv O.cell (by intro y hy; simp at hy) (fun h₁ hns₁ hsb₁ => ?_) O.kind)
  dsimp only at hns₁ hsb₁ ⊢
  generalize hH2 : s₂.heap.push { cls := .type "list", dict := none, data := .seq ([] : List Value).toArray } = H2 at hns₁ hsb₁ ⊢
  have hL : H2.objs.size = s₂.heap.objs.size + 1 := by rw [← hH2, Heap.size_push]
  generalize hDD : s₂.heap.objs.size = D at *
  generalize hLL : H2.objs.size = L at *
  have hDL : D ≠ L := by rw [hL]; exact Nat.ne_of_lt (Nat.lt_succ_self _)
  have fD : s₂.heap.get? D = none := Heap.get?_none_of_le (by rw [hDD]; exact Nat.le_refl _)
  have fL : s₂.heap.get? L = none := Heap.get?_none_of_le (by rw [hDD, hL]; exact Nat.le_succ _)
  have k1 : Sub s₂.heap h₁ := fun b o e => hsb₁.extBut b o (fun q => by rw [q, fL] at e; cases e) (Heap.get?_push_of_some _ (hH2 ▸ Heap.get?_push_of_some _ e))
  have hacc : h₁.PlainList D #[] := ⟨_, hsb₁.extBut _ _ hDL (Heap.get?_push_of_some _ (hH2 ▸ hDD ▸ Heap.get?_push_size _ rfl))⟩
  have kS : Sub hS h₁ := k.trans k1
  have gD : hS.get? D = none := k.none fD
  have gL : hS.get? L = none := k.none fL
  have alive2 : ∀ b ∈ fp, ∃ o, s₂.heap.get? b = some o := fun b hb => by
    rcases ok b hb with ⟨_, q⟩ | ⟨i, _, q⟩
    · exact q
    · obtain ⟨us, n, e⟩ := S.addr (List.mem_of_getElem? q); exact ⟨_, k b _ e⟩
  have fpD : D ∉ fp := fun q => by obtain ⟨o, e⟩ := alive2 _ q; rw [fD] at e; cases e
  have fpL : L ∉ fp := fun q => by obtain ⟨o, e⟩ := alive2 _ q; rw [fL] at e; cases e
  have hin : ∀ a ∈ α, ∃ o, hS.get? a = some o := fun a ha => by obtain ⟨us, n, e⟩ := S.addr ha; exact ⟨_, e⟩
  have hX : ∀ a ∈ X, ∃ o, hS.get? a = some o := S.live
  have hcells : ∀ x c, env.cells.lookup x = some c → ∃ o, hS.get? c = some o := fun x c e => by
    obtain ⟨m, _, hcs, _⟩ := R
    obtain ⟨v, o, e', _⟩ := hcs x c e; exact ⟨o, e'⟩
  generalize hcl : closureGo env.cells csc.names [] = cl at *
  have hsc : relabel csc env = relabelS csc sc := relabel_is hE
  rw [hsc]
  have start : ∀ s₃ : Shared, s₃ = { s₂ with heap := h₁, toks := s₂.toks + ([] : List (Str × Value)).length } → ∀ cenv : Env, cenv.scope = relabelS csc sc → cenv.locals = L → cenv.globals = env.globals → cenv.builtins = env.builtins → cenv.cells = cl →
      codeAny (model Prg w) A (.compLoop (.ListComp elt [⟨target, iter, ifs, 0⟩] csc pos) 0 (.ref I) (.ref D) cenv) (RR (.ref D) L) s₃ := by
    intro s₃ hs₃ cenv e1 e2 e3 e4 e5
    have hEc : EnvOk cenv (relabelS csc sc) := ⟨e1, O.kind, e3.trans hE.gl, e4.trans hE.bl, fun x hx => by rw [e5, ← hcl]; exact closureGo_has (relabel_cell O.cell hx)⟩
    have hH : Hold cenv (relabelS csc sc) false [] := ⟨hEc, (fun h => nomatch h), (fun h => nomatch h)⟩
    have S1 : StR (X ++ wr) h₁ α σ := S.wide kS W.old (W.live 0 _ (W.frame 0 _ _ st fun b _ o e => k1 b o e))
    have F0 : Frm (X ++ wr) w cenv [] α.length hS h₁ α (only fv ρ) σ := by
      refine ⟨G, kS, by rw [e2]; exact gL, fun c hc => (nomatch hc), (fun i b hi e => by rw [List.getElem?_eq_none hi] at e; exact (nomatch e)), ?_, S1⟩
      refine ⟨_, by rw [e2]; exact hns₁, fun x c e => ?_, fun n v e => ?_⟩
      · rw [e5] at e
        obtain ⟨m, _, hcs, _⟩ := R
        obtain ⟨v, q⟩ := hcs x c (good x c e)
        exact ⟨v, q.keeps kS⟩
      · unfold only at e
        split at e
        · rename_i hn
          obtain ⟨f1, f2⟩ := O.fv n hn
          obtain ⟨m, _, hcs, g⟩ := R
          rcases g n v e with ⟨a, _⟩ | ⟨a, c, u, b, x, r⟩
          · unfold Env.kindOf at a; rw [hE.same, f2] at a; cases a
          · obtain ⟨c', hc'⟩ := closureGo_has (cells := env.cells) (acc := []) (relabel_cell O.cell f1)
            have : c' = c := by
              have := good _ _ (by rw [← hcl]; exact hc')
              rw [b] at this; exact (Option.some.inj this).symm
            subst this
            refine .inr ⟨by unfold Env.kindOf; rw [e1]; exact f1, c', u, by rw [e5, ← hcl]; exact hc', x.keeps kS, ?_⟩
            have := Rp.mono (β := []) kS (r.wider W.old); simpa using this
        · cases e
    refine compLoopAll (CInv (X ++ wr) w cenv D hS s₂ items St α σ T t d vs) ?_ (items.length + 1)
      ⟨h₁, s₂.toks + 0, 0, [], [], vs, only fv ρ, hs₃, rfl, Nat.zero_le _, W.frame 0 _ _ st fun b _ o e => k1 b o e, hacc, .nil, F0, ev, rfl⟩
    rintro n s' ⟨h, tk, i, us, xs, rest, ρ1, rfl, rfl, hi, st1, hac, hr, F, hg, hv⟩
    have stp := fun Q E h1 h2 => W.step i { s₂ with heap := h, toks := tk } Q E st1 (TK.of F.sub) (fun a ha => F.st.live a (List.mem_append.mpr (.inl ha))) hi h1 h2
    have offwr : ∀ h', (∀ b o, b ∉ wr → h.get? b = some o → h'.get? b = some o) → Live wr h' → Frm (X ++ wr) w cenv [] α.length hS h' α ρ1 σ := fun h' kk lv => by
      refine F.off (· ∈ wr) kk (fun b hb => W.old b hb) (fun b hb q => fpL (by rw [e2] at q; rw [← q]; exact W.sub b hb)) (fun b hb q => nomatch q) (fun b hb x c e q => ?_) (fun b hb q => ?_) (fun b hb => .inl (List.mem_append.mpr (.inr hb))) (fun b hb _ => lv b hb)
      · subst q
        rw [e5] at e
        obtain ⟨o, e'⟩ := hcells x c (good x c e)
        rw [W.old c hb] at e'; cases e'
      · obtain ⟨o, e'⟩ := hin b q
        rw [W.old b hb] at e'; cases e'
    refine wpAny_mono (stp (fun r s₁ => match r with
      | none => RR (.ref D) L (.ok .next) s₁
      | some v => wpAny (model Prg w) A (assign target cenv v) (fun _ s₂' =>
          wpAny (model Prg w) A (forIn ifs true fun c r => if r = true then do let ok ← isTrue c cenv (eval c cenv); pure (ForInStep.yield ok) else pure (ForInStep.yield r)) (fun ok s₃ =>
            if ok = true then wpAny (model Prg w) A (eval elt cenv) (fun x s₄ =>
              wpAny (model Prg w) A (call (.builtin "list.append") [.ref D, x]) (fun _ s₅ => ∃ m, m < items.length + 1 - i ∧ CInv (X ++ wr) w cenv D hS s₂ items St α σ T t d vs m s₅) (notedBy (model Prg w) A cenv fun e s' => RR (.ref D) L (.error e) s') s₄) (notedBy (model Prg w) A cenv fun e s' => RR (.ref D) L (.error e) s') s₃
            else ∃ m, m < items.length + 1 - i ∧ CInv (X ++ wr) w cenv D hS s₂ items St α σ T t d vs m s₃) (notedBy (model Prg w) A cenv fun e s' => RR (.ref D) L (.error e) s') s₂') (notedBy (model Prg w) A cenv fun e s' => RR (.ref D) L (.error e) s') s₁)
      (notedBy (model Prg w) A cenv fun e s' => RR (.ref D) L (.error e) s') ?_ ?_) (fun r s₁ q => by cases r <;> exact q) (fun _ _ e => e)
    · intro v u h2 tk2 hv2 r2 st2 kk2
      have hlt : i < items.length := (List.getElem?_eq_some_iff.mp hv2).1
      have hdrop : items.drop i = v :: items.drop (i + 1) := by
        rw [List.drop_eq_getElem_cons hlt]; congr 1
        exact Option.some.inj ((List.getElem?_eq_getElem hlt).symm.trans hv2)
      rw [hdrop] at hg
      unfold compGo at hg
      have F2 := offwr h2 kk2 (W.live _ _ st2)
      have hac2 : h2.PlainList D us.toArray := hac.at fun o e => kk2 D o (fun q => fpD (W.sub D q)) e
      have hr2 : Rps (X ++ wr) h2 α xs us := by
        have := Rps.mono' (β := []) (h' := h2) (fun a o hx e _ _ => kk2 a o (fun q => hx (List.mem_append.mpr (.inr q))) e) hr
        simpa using this
      split at hg
      · cases hg
      rename_i ρ2 hT
      refine O.tgt (X ++ wr) cenv A _ [] α.length hS ρ1 α σ v u ρ2 _ _ hH hR.handled F2 r2 hT fun h3 tk3 kk3 F3 => ?_
      have nm : ∀ b o, h2.get? b = some o → b ≠ L → h3.get? b = some o := fun b o e q => kk3 b o (by
        rintro (q' | q' | ⟨j, hj, q'⟩)
        · exact q (by rw [q', e2])
        · exact nomatch q'
        · rw [List.getElem?_eq_none hj] at q'; exact nomatch q') e
      have st3 : St (i + 1) h3 := W.frame _ _ _ st2 fun b hb o e => nm b o e (fun q => fpL (q ▸ hb))
      have hac3 : h3.PlainList D us.toArray := hac2.at fun o e => nm D o e hDL
      have hr3 := F2.keepRps kk3 hr2
      split at hg
      · cases hg
      · rename_i ht
        refine O.tst (X ++ wr) cenv A _ ρ2 α σ false _ _ hEc hR F3.good F3.env F3.st ht fun h4 tk4 k4 => ?_
        exact ⟨items.length + 1 - (i + 1), by omega, h4, tk4, i + 1, us, xs, rest, ρ2, rfl, rfl, hlt, W.frame _ _ _ st3 fun b _ o e => k4 b o e, hac3.at fun o e => k4 D o e, hr3.wide0 k4, F3.grow0 k4, hg, hv⟩
      · rename_i ht
        split at hg
        · cases hg
        rename_i x σ' hd
        split at hg
        · rename_i hsol
          split at hg
          · rename_i ys hys
            cases hg
            refine O.tst (X ++ wr) cenv A _ ρ2 α σ true _ _ hEc hR F3.good F3.env F3.st ht fun h4 tk4 k4 => ?_
            have F4 := F3.grow0 k4
            refine O.den.run (X ++ wr) cenv A _ ρ2 α σ x σ' _ _ hEc hR F4.good F4.env F4.st hd fun ux h5 tk5 β k5 hfr S5 r5 => ?_
            have r5' : Rp (X ++ wr) h5 α x ux := r5.solid hsol
            have F5 := F4.grow0 k5
            have hac5 : h5.PlainList D us.toArray := hac3.at fun o e => k5 D o (k4 D o e)
            have hr5 := hr3.wide0 (k4.trans k5)
            have st5 : St (i + 1) h5 := W.frame _ _ _ st3 fun b _ o e => k5 b o (k4 b o e)
            have hsz : us.toArray.size ≤ sizeLine := by
              have := hr.length
              have h7 : xs.length ≤ cap := by rw [← hv, List.length_append] at hc; omega
              rw [List.size_toArray, ← this, sizeLine_is]; rw [capLine] at h7; omega
            refine wpAny_list_append_plain hac5 (fun h6 hp6 sb6 => ?_) hsz
            have kk6 : ∀ b o, ¬ (b = D) → h5.get? b = some o → h6.get? b = some o := fun b o q e => (sb6.2 b q).trans e
            have noD : ∀ o, h5.get? D = some o → o.cls ≠ .type "tuple" := fun o e => by
              obtain ⟨n, e'⟩ := hac5; rw [e] at e'; cases e'; simp
            have F6 : Frm (X ++ wr) w cenv [] α.length hS h6 α ρ2 σ := by
              refine F5.off (· = D) kk6 (fun b q => q ▸ gD) (fun b q q' => hDL (by rw [← q, q', e2])) (fun b q q' => nomatch q') (fun b q x c e q' => ?_) (fun b q q' => ?_) (fun b q => .inr fun o e c _ => noD o (q ▸ e) c) fun b q _ => ?_
              · rw [e5] at e
                obtain ⟨o, e'⟩ := hcells x c (good x c e)
                rw [q', q, gD] at e'; cases e'
              · obtain ⟨o, e'⟩ := hin b q'
                rw [q, gD] at e'; cases e'
              · obtain ⟨n, e'⟩ := hp6; exact ⟨_, q ▸ e'⟩
            have up6 : ∀ {vs us}, Rps (X ++ wr) h5 α vs us → Rps (X ++ wr) h6 α vs us := fun r => by
              have := Rps.mono' (β := []) (h' := h6) (fun a o _ e c _ => kk6 a o (fun q => noD o (q ▸ e) c) e) r
              simpa using this
            refine ⟨items.length + 1 - (i + 1), by omega, h6, tk5, i + 1, us ++ [ux], xs ++ [x], ys, ρ2, rfl, rfl, hlt, W.frame _ _ _ st5 fun b hb o e => kk6 b o (fun q => fpD (q ▸ hb)) e, ?_, ?_, F6, hys, by rw [← hv]; simp⟩
            · have : us.toArray.push ux = (us ++ [ux]).toArray := by simp
              rw [← this]; exact hp6
            · exact (up6 hr5).append (.cons (by have := up6 (.cons r5' .nil); cases this; assumption) .nil)
          · cases hg
        · cases hg
    · intro h2 tk2 hn2 kk2
      have hge : items.length ≤ i := by simpa using hn2
      rw [List.drop_eq_nil_of_le hge] at hg
      cases hg
      rw [List.append_nil] at hv
      subst hv
      obtain ⟨m, hn, _⟩ := F.env
      refine hRR D L h2 tk2 m us gD gL hDL ?_ (hac.at fun o e => kk2 D o (fun q => fpD (W.sub D q)) e) ?_ fun b o e => kk2 b o (fun q => by rw [W.old b q] at e; cases e) (F.sub b o e)
      · rw [e2] at hn
        exact hn.at fun o e => kk2 L o (fun q => fpL (W.sub L q)) e
      · have := Rps.mono' (β := []) (h' := h2) (fun a o hx e _ _ => kk2 a o (fun q => hx (List.mem_append.mpr (.inr q))) e) hr
        rw [List.append_nil] at this
        exact this.less
  exact codeAny_compStart_list (start _ rfl _ rfl rfl rfl rfl rfl) (W.self 0 _ _ _ (W.frame 0 _ _ st fun b _ o e => k1 b o e) (start _ rfl _ rfl rfl rfl rfl rfl))
end Mine
end

section
open PySem PySem.W PyProof.Rows PySem.Calls
set_option Elab.async false
set_option autoImplicit false
namespace Mine
variable {X : List Addr} {w : World} {lvl : Nat} {sc : Scope}

noncomputable def dComp (It : ItD) (fv : List String) (T : Tgt) (t : Tst) (d : Den) : Den := fun ρ σ => match It ρ σ with
  | some (items, σ1, _) => (match compGo T t d items (only fv ρ) σ1 with
    | some vs => alloc vs σ1
    | none => none)
  | none => none

theorem compDone {s : Shared} {hS h' h3 : Heap} {α β : List Addr} {σ1 σ' : Store} {v : V} {vs : List V} {us : List Value} {D L : Addr} {m : Str → Option Value} (hn : h'.Ns L m) (sb : Heap.SameBut L h' h3) (hDL : D ≠ L)
    (gD : hS.get? D = none) (gL : hS.get? L = none) (k : Sub s.heap hS) (hfr : Fresh s.heap β) (S : StR X hS (α ++ β) σ1) (kS : Sub hS h') (hp : h'.PlainList D us.toArray) (hr : Rps X h' (α ++ β) vs us) (ha : alloc vs σ1 = some (v, σ')) :
    Sub s.heap h3 ∧ Fresh s.heap (β ++ [D]) ∧ StR X h3 (α ++ (β ++ [D])) σ' ∧ Rp X h3 (α ++ (β ++ [D])) v (.ref D) := by
  obtain ⟨hc, rfl, rfl⟩ := alloc_inv ha
  have kk : ∀ b o, ¬ (b = L) → h'.get? b = some o → h3.get? b = some o := fun b o q e => (sb.2 b q).trans e
  have k3 : Sub hS h3 := fun b o e => kk b o (fun q => by rw [q, gL] at e; cases e) (kS b o e)
  have hr3 : Rps X h3 (α ++ β) vs us := by
    have := Rps.mono' (β := []) (h' := h3) (fun a o _ e _ d => kk a o (fun q => by
      obtain ⟨o', es, n, e', d', _⟩ := hn
      rw [q] at e; rw [e] at e'; cases e'
      obtain ⟨xs, n, d⟩ := d
      rw [d'] at d; cases d) e) hr
    simpa using this
  have S3 := S.add (a := D) (vs := vs) (us := us) k3 gD (hp.at fun o e => kk D o hDL e) hr3 hc
  refine ⟨k.trans k3, ?_, by rw [← List.append_assoc]; exact S3, .lst ?_⟩
  · intro a ha
    rcases List.mem_append.mp ha with q | q
    · exact hfr a q
    · rw [List.mem_singleton.mp q]; exact k.none gD
  · rw [← List.append_assoc, List.getElem?_append_right (by rw [S.len]; exact Nat.le_refl _), S.len, Nat.sub_self]; rfl

theorem E_comp {csc : Scope} {elt target iter : Expr} {ifs : List Expr} {pos : Pos} {fv : List String} {It : ItD} {T : Tgt} {t : Tst} {d : Den} (hI : SoundI w lvl sc target iter It) (O : CompOk w lvl sc csc elt target ifs fv T t d)
    (hs : ∀ env x, foldedSetIterable iter env x = pure x := by intro _ _; rfl) :
    SoundE w lvl sc (.ListComp elt [⟨target, iter, ifs, 0⟩] csc pos) (dComp It fv T t d) := by
  refine SoundE.mk ?_
  intro X env A s ρ α σ v σ' Q E hE hR G R S ev P
  rw [eval_ListComp]
  refine wpAny_comprehension_free (use := none) rfl (hs env) (closureFor_is fun x hx e => hE.cells _ (O.free x hx e)) O.kind O.loc ?_
  unfold dComp at ev
  split at ev
  · rename_i items σ1 fz h1
    split at ev
    · rename_i vs h2
      refine hI.run X env A s ρ α σ items σ1 fz _ E hE hR G R S h1 ?_
      intro I wr fp St hS h' tk' β k1 k2 hfr S1 W st ok
      refine compRun O hE hR (G.keeps k1) (R.mono k1) S1 W k2 st ok h2 (alloc_inv ev).1 ?_
      intro D L h2 tk m us gD gL hDL hn hp hr kS
      refine ⟨m, hn, fun h3 sb => ?_⟩
      obtain ⟨a, b, c, d⟩ := compDone hn sb hDL gD gL k1 hfr S1 kS hp hr ev
      exact P (.ref D) h3 tk (β ++ [D]) a b c d
    · cases ev
  · cases ev

/-- an expression that may change lists of the frame -/
noncomputable abbrev MDen := Nat → Loc → Store → Option (V × Store)
noncomputable def MPost (X : List Addr) (w : World) (env : Env) (C : List Addr) (lo : Nat) (hb : Heap) (s : Shared) (α : List Addr) (ρ : Loc) (v : V) (σ' : Store) (Q : Value → Shared → Prop) : Prop :=
  ∀ u h' tk' β, Keep env C lo α s.heap h' → Fresh s.heap β → Frm X w env C lo hb h' (α ++ β) ρ σ' → Rp X h' (α ++ β) v u → Q u { s with heap := h', toks := tk' }
noncomputable def SoundM (w : World) (lvl : Nat) (sc : Scope) (e : Expr) (D : MDen) : Prop :=
  ∀ (X : List Addr) (env : Env) (A : Around) (s : Shared) (C : List Addr) (lo : Nat) (hb : Heap) (ρ : Loc) (α : List Addr) (σ : Store) (v : V) (σ' : Store) (Q E : Value → Shared → Prop),
    Hold env sc true C → Room A lvl → Frm X w env C lo hb s.heap α ρ σ → D lo ρ σ = some (v, σ') → MPost X w env C lo hb s α ρ v σ' Q → wpAny (model Prg w) A (eval e env) Q E s
theorem SoundM.run {w : World} {lvl : Nat} {sc : Scope} {e : Expr} {D : MDen} (h : SoundM w lvl sc e D) : SoundM w lvl sc e D := h
noncomputable def mOf (d : Den) : MDen := fun _ ρ σ => d ρ σ
theorem M_of {e : Expr} {d : Den} (h : SoundE w lvl sc e d) : SoundM w lvl sc e (mOf d) := by
  intro X env A s C lo hb ρ α σ v σ' Q E H hR F ev P
  exact h.run X env A s ρ α σ v σ' Q E H.ok hR F.good F.env F.st ev fun u h' tk' β k hfr S r => P u h' tk' β (Keep.of k) hfr (F.grow k hfr S) r

/-- a list of the frame is another one now -/
theorem Frm.setList {env : Env} {C : List Addr} {lo : Nat} {hb h h' : Heap} {α : List Addr} {ρ : Loc} {σ : Store} {i : Nat} {a : Addr} {vs : List V} {us : List Value} (F : Frm X w env C lo hb h α ρ σ) (hi : lo ≤ i) (ha : α[i]? = some a) (sb : Heap.SameBut a h h')
    (hp : h'.PlainList a us.toArray) (hr : Rps X h α vs us) (hc : vs.length ≤ cap) : Keep env C lo α h h' ∧ Frm X w env C lo hb h' α ρ (σ.set i vs) := by
  obtain ⟨us0, n0, e0⟩ := F.st.addr (List.mem_of_getElem? ha)
  have kk : ∀ b o, b ≠ a → h.get? b = some o → h'.get? b = some o := fun b o q e => (sb.2 b q).trans e
  have a0 : hb.get? a = none := F.own i a hi ha
  have nd : ∀ o, h.get? a = some o → (∃ xs n, o.data = .seq xs n) ∧ o.cls = .type "list" := fun o e => by rw [e0] at e; cases e; exact ⟨⟨_, _, rfl⟩, rfl⟩
  have up : ∀ {v u}, Rp X h α v u → Rp X h' α v u := fun r => by
    have := Rp.mono' (β := []) (h' := h') (fun b o _ e c _ => kk b o (fun q => by subst q; rw [(nd o e).2] at c; simp at c) e) r
    simpa using this
  have nc : ∀ c v, h.IsCell c v → c ≠ a := fun c v ⟨o, e, d⟩ q => by
    subst q; obtain ⟨⟨xs, n, d'⟩, _⟩ := nd o e; rw [d] at d'; cases d'
  have hc' : ∀ c v, h.IsCell c v → h'.IsCell c v := fun c v x => by obtain ⟨o, e, d⟩ := x; exact ⟨o, kk c o (nc c v ⟨o, e, d⟩) e, d⟩
  have hl : env.locals ≠ a := fun q => by
    obtain ⟨es, n, d⟩ := F.locObj _ (by rw [q]; exact e0)
    cases d
  refine ⟨fun b o m e => kk b o (fun q => m (.inr (.inr ⟨i, hi, by rw [q]; exact ha⟩))) e, F.gd, fun b o e => kk b o (fun q => by rw [q, a0] at e; cases e) (F.sub b o e), F.loc, fun c hc => ⟨(F.cel c hc).1, ?_⟩, F.own, ?_, F.st.set ha sb hp hr hc⟩
  · obtain ⟨v, x⟩ := (F.cel c hc).2; exact ⟨v, hc' _ _ x⟩
  · obtain ⟨m, hn, hcs, g⟩ := F.env
    refine ⟨m, hn.at fun o e => kk _ o hl e, fun x c e => let ⟨v, q⟩ := hcs x c e; ⟨v, hc' _ _ q⟩, fun n v e => ?_⟩
    rcases g n v e with ⟨x, u', b, c⟩ | ⟨x, c, u', b, d, f⟩
    · exact .inl ⟨x, u', b, up c⟩
    · exact .inr ⟨x, c, u', b, hc' _ _ d, up f⟩

theorem pop_plain {A : Around} {E Q : Value → Shared → Prop} {s : Shared} {l : Addr} {p : List Value} {y : Value} (hl : s.heap.PlainList l (p ++ [y]).toArray) (hz : (p ++ [y]).toArray.size ≤ sizeLine)
    (h : ∀ h', h'.PlainList l p.toArray → Heap.SameBut l s.heap h' → Q y { s with heap := h' }) : wpAny (model Prg w) A (call (.builtin "list.pop") [.ref l]) Q E s := by
  obtain ⟨n, ho⟩ := hl
  have hk : (p ++ [y]).toArray.size - 1 = p.length := by rw [List.size_toArray, List.length_append]; rfl
  have hy : (p ++ [y]).toArray[(p ++ [y]).toArray.size - 1]? = some y := by rw [hk]; simp
  refine call_meets PySem.F.slot_list_pop ⟨_, ho, rfl⟩ PySem.F.entry_list_pop (PySem.F.args_list_pop_1 _) (PySem.MeetsSeq.list_pop_last l _ n y hy hz) ⟨ho, h _ ?_ (Heap.SameBut.update ..)⟩
  have q := PySem.IsL.update (h := s.heap) (l := l) (items := (p ++ [y]).toArray) (n := n) ho (fun xs => xs.eraseIdxIfInBounds ((p ++ [y]).toArray.size - 1))
  rw [hk, kl_erase, List.append_nil] at q
  exact ⟨_, by rw [hk]; exact q⟩

/-- x.pop(), of a list of the frame -/
noncomputable def mPop (n : String) : MDen := fun lo ρ σ => match ρ n with
  | some (.lst l) => if lo ≤ l then (match σ[l]? with
    | some xs => (match xs.getLast? with
      | some x => some (x, σ.set l xs.dropLast)
      | none => none)
    | none => none) else none
  | _ => none
theorem popSplit {α : Type} {xs : List α} {x : α} (h : xs.getLast? = some x) : xs = xs.dropLast ++ [x] := by
  have hne : xs ≠ [] := fun q => by rw [q] at h; cases h
  rw [List.getLast?_eq_some_getLast hne] at h
  cases h
  exact (List.dropLast_concat_getLast hne).symm
theorem Rps.snoc_inv {h : Heap} {α : List Addr} : ∀ {vs : List V} {v : V} {us : List Value}, Rps X h α (vs ++ [v]) us → ∃ us' u, us = us' ++ [u] ∧ Rps X h α vs us' ∧ Rp X h α v u
  | [], v, _, .cons a .nil => ⟨[], _, rfl, .nil, a⟩
  | x :: vs, v, _, .cons a b => by
    obtain ⟨us', u, rfl, r, q⟩ := b.snoc_inv
    exact ⟨_ :: us', u, rfl, .cons a r, q⟩
theorem M_pop {n : String} {npos apos pos : Pos} (hd : (Str.ofString n == ("__debug__" : Str)) = false := by decide) (hline : (apos.endLine == pos.line) = true := by rfl)
    (hbase : ∀ env, attributeBase (.Name (Str.ofString n) npos) "pop" env (eval (.Name (Str.ofString n) npos) env) = eval (.Name (Str.ofString n) npos) env := by intro _; rfl) :
    SoundM w lvl sc (.Call (.Attribute (.Name (Str.ofString n) npos) "pop" apos) [] [] pos) (mPop n) := by
  intro X env A s C lo hb ρ α σ v σ' Q E H hR F ev P
  unfold mPop at ev
  split at ev
  · rename_i l hl
    split at ev
    · rename_i hlo
      split at ev
      · rename_i xs hxs
        split at ev
        · rename_i x hx
          cases ev
          refine wpAny_Call_method (hbase env) rfl hline PySem.F.plainAttrs_list PySem.F.slot_list_pop PySem.F.type_list_pop ?_
          refine (E_name (w := w) (lvl := lvl) (sc := sc) hd).run X env A s ρ α σ (.lst l) σ _ E H.ok hR F.good F.env F.st (by unfold dName; rw [hl]) fun u h' tk' β k hfr S r => ?_
          have F' := F.grow k hfr S
          obtain ⟨a, ua, rfl, ea, pa, ra, ca⟩ := S.list hxs r
          obtain ⟨n', e'⟩ := pa
          refine ⟨⟨_, e', rfl⟩, fun a' e => ?_, callWith_builtin rfl (evalArgs_nil3 ?_)⟩
          · cases e; exact ⟨_, e', rfl⟩
          rw [popSplit hx] at ra
          obtain ⟨p, y, rfl, rp, ry⟩ := ra.snoc_inv
          have hsz : (p ++ [y]).toArray.size ≤ sizeLine := by
            rw [List.size_toArray, sizeLine_is]; rw [capLine] at ca; omega
          refine pop_plain (s := { s with heap := h', toks := tk' }) ⟨n', e'⟩ hsz fun h2 hp2 sb2 => ?_
          have hcap : xs.dropLast.length ≤ cap := by rw [rp.length]; rw [List.length_append] at ca; omega
          obtain ⟨k2, F2⟩ := F'.setList hlo ea sb2 hp2 rp hcap
          exact P y h2 tk' β ((Keep.of k).trans k2 hfr) hfr F2 (F'.keepRp k2 ry)
        · cases ev
      · cases ev
    · cases ev
  · cases ev
end Mine
end

section
open PySem PySem.W PyProof.Rows PySem.Calls
set_option Elab.async false
set_option autoImplicit false
namespace Mine
variable {X : List Addr} {w : World} {lvl : Nat} {sc : Scope}

theorem Frm.none {env : Env} {C : List Addr} {lo lo' : Nat} {hb h h' : Heap} {α β : List Addr} {ρ : Loc} {σ : Store} (F : Frm X w env C lo' hb h' (α ++ β) ρ σ) (k : Keep env C lo α h h') {a : Addr} (e : h'.get? a = none) : h.get? a = none := by
  cases e' : h.get? a with
  | none => rfl
  | some o =>
    by_cases mu : Mut env C lo α a
    · rcases mu with q | q | ⟨i, _, q⟩
      · obtain ⟨m, ⟨o, _, _, e2, _⟩, _⟩ := F.env
        rw [← q, e] at e2; cases e2
      · obtain ⟨v, o, e2, _⟩ := (F.cel a q).2
        rw [e] at e2; cases e2
      · obtain ⟨us, n, e2⟩ := F.st.addr (List.mem_append.mpr (.inl (List.mem_of_getElem? q)))
        rw [e] at e2; cases e2
    · rw [k a o mu e'] at e; cases e
theorem Frm.freshApp {env : Env} {C : List Addr} {lo lo' : Nat} {hb h h' : Heap} {α β γ : List Addr} {ρ : Loc} {σ : Store} (F : Frm X w env C lo' hb h' (α ++ β) ρ σ) (k : Keep env C lo α h h') (f : Fresh h β) (g : Fresh h' γ) : Fresh h (β ++ γ) := fun a ha => by
  rcases List.mem_append.mp ha with q | q
  · exact f a q
  · exact F.none k (g a q)

noncomputable def mCall2 (f : Fn) (m : MDen) (d : Den) : MDen := fun lo ρ σ => match m lo ρ σ with
  | some (x, σ1) => (match d ρ σ1 with
    | some (y, σ2) => f [x, y] σ2
    | none => none)
  | none => none
theorem M_call2 {n : String} {p pos : Pos} {e1 e2 : Expr} {m : MDen} {d : Den} {f : Addr} {g : Fn} {o : Obj} {fd : FuncData}
    (hx : (sc.names.lookup (Str.ofString n)) = some .globalImplicit) (hn : nsIn (Kf w) mainGlobals (Str.ofString n) = some (some (.ref f))) (ho : (Kf w).lookup f = some o) (hd : o.data = .func fd)
    (h1 : SoundM w lvl sc e1 m) (h2 : SoundE w lvl sc e2 d) (hf : SoundV w lvl (fun us => call (.ref f) us) g)
    (he : ∀ env, starEach [e1, e2] env = (false, eval e1 env) :: starEach [e2] env := by exact fun env => star_of rfl env)
    (he2 : ∀ env, starEach [e2] env = (false, eval e2 env) :: starEach [] env := by exact fun env => star_of rfl env)
    (hdb : (Str.ofString n == ("__debug__" : Str)) = false := by decide) :
    SoundM w lvl sc (.Call (.Name (Str.ofString n) p) [e1, e2] [] pos) (mCall2 (fFlat g) m d) := by
  intro X env A s C lo hb ρ α σ v σ' Q E H hR F ev P
  unfold mCall2 at ev
  split at ev
  · rename_i x σ1 q1
    split at ev
    · rename_i y σ2 q2
      refine Call_Name rfl (global H.ok F.good hx hn hdb ?_)
      refine callWith_function (o := o) (fd := fd) ?_
      have hs : backTo pos (starEach [e1, e2] env) = (false, eval e1 env) :: backTo pos (starEach [e2] env) := by rw [he]; rfl
      rw [hs]
      refine evalArgs_plain ?_
      rw [← hs]
      refine wpAny_items_cons ?_ (he env)
      refine h1.run X env A s C lo hb ρ α σ x σ1 _ E H hR F q1 fun u1 h' tk' β k1 f1 F1 r1 => ?_
      refine wpAny_items_cons ?_ (he2 env)
      refine h2.run X env A { s with heap := h', toks := tk' } ρ (α ++ β) σ1 y σ2 _ E H.ok hR F1.good F1.env F1.st q2 fun u2 h'' tk'' β2 k2 f2 S2 r2 => ?_
      refine wpAny_items_nil ?_
      have F2 := F1.grow k2 f2 S2
      refine ⟨⟨F2.good.1 _ _ ho, hd⟩, ?_⟩
      refine hf.flat X A { s with heap := h'', toks := tk'' } (α ++ β ++ β2) σ2 [x, y] [u1, u2] v σ' Q E hR F2.good F2.st (.cons (Rp.mono k2 r1) (.cons r2 .nil)) ev ?_
      intro u3 h3 tk3 β3 k3 f3 S3 r3
      have K : Keep env C lo α s.heap h3 := k1.trans (Keep.of (k2.trans k3)) f1
      have fr : Fresh s.heap (β ++ (β2 ++ β3)) := F1.freshApp k1 f1 (f2.app k2 f3)
      have := P u3 h3 tk3 (β ++ (β2 ++ β3)) K fr (by have := F2.grow k3 f3 S3; simpa using this) (by simpa using r3)
      exact this
    · cases ev
  · cases ev

/-- statements -/
inductive Fl where
  | next
  | ret (v : V)
noncomputable abbrev SDen := Nat → Loc → Store → Option (Fl × Loc × Store)
noncomputable def FlR (X : List Addr) (h : Heap) (α : List Addr) : Fl → Flow → Prop
  | .next, f => f = .next
  | .ret v, f => ∃ u, f = .ret u ∧ Rp X h α v u
noncomputable def SPost (X : List Addr) (w : World) (env : Env) (C : List Addr) (lo : Nat) (hb : Heap) (s : Shared) (α : List Addr) (fl : Fl) (ρ' : Loc) (σ' : Store) (Q : Flow → Shared → Prop) : Prop :=
  ∀ f h' tk' β, Keep env C lo α s.heap h' → Fresh s.heap β → Frm X w env C lo hb h' (α ++ β) ρ' σ' → FlR X h' (α ++ β) fl f → Q f { s with heap := h', toks := tk' }
structure SoundX (w : World) (lvl : Nat) (sc : Scope) (run : Env → Sem Flow) (D : SDen) : Prop where
  run : ∀ (X : List Addr) (env : Env) (A : Around) (s : Shared) (C : List Addr) (lo : Nat) (hb : Heap) (ρ : Loc) (α : List Addr) (σ : Store) (fl : Fl) (ρ' : Loc) (σ' : Store) (Q : Flow → Shared → Prop) (E : Value → Shared → Prop),
    Hold env sc true C → Room A lvl → Frm X w env C lo hb s.heap α ρ σ → D lo ρ σ = some (fl, ρ', σ') → SPost X w env C lo hb s α fl ρ' σ' Q → wpAny (model Prg w) A (run env) Q E s
noncomputable def SoundS (w : World) (lvl : Nat) (sc : Scope) (st : Stmt) (D : SDen) : Prop := SoundX w lvl sc (exec st) D
noncomputable def SoundSs (w : World) (lvl : Nat) (sc : Scope) (body : List Stmt) (D : SDen) : Prop := SoundX w lvl sc (execs body) D

noncomputable def sDone : SDen := fun _ ρ σ => some (.next, ρ, σ)
theorem SPost.here {env : Env} {C : List Addr} {lo : Nat} {hb : Heap} {s : Shared} {α : List Addr} {fl : Fl} {ρ' : Loc} {σ' : Store} {Q : Flow → Shared → Prop} (P : SPost X w env C lo hb s α fl ρ' σ' Q) {f : Flow} {h' : Heap} {tk' : Nat} (k : Keep env C lo α s.heap h') (F : Frm X w env C lo hb h' α ρ' σ') (r : FlR X h' α fl f) : Q f { s with heap := h', toks := tk' } := by
  have := P f h' tk' [] k (Fresh.nil _) (by simpa using F) (by simpa using r)
  exact this
theorem SPost.after {env : Env} {C : List Addr} {lo : Nat} {hb : Heap} {s : Shared} {α β : List Addr} {fl : Fl} {ρ1 ρ' : Loc} {σ1 σ' : Store} {Q : Flow → Shared → Prop} (P : SPost X w env C lo hb s α fl ρ' σ' Q) {h' : Heap} {tk' : Nat} (k : Keep env C lo α s.heap h') (f : Fresh s.heap β)
    (F : Frm X w env C lo hb h' (α ++ β) ρ1 σ1) : SPost X w env C lo hb { s with heap := h', toks := tk' } (α ++ β) fl ρ' σ' Q := by
  intro fw h2 tk2 β2 k2 f2 F2 r2
  have := P fw h2 tk2 (β ++ β2) (k.trans k2 f) (F.freshApp k f f2) (by rw [← List.append_assoc]; exact F2) (by rw [← List.append_assoc]; exact r2)
  exact this
theorem Ss_nil : SoundSs w lvl sc [] sDone := by
  refine SoundX.mk ?_
  intro X env A s C lo hb ρ α σ fl ρ' σ' Q E H hR F ev P
  cases ev
  exact wpAny_execs_nil (P.here (tk' := s.toks) (Keep.refl _ _ _ _ _) F rfl)
noncomputable def sSeq (a b : SDen) : SDen := fun lo ρ σ => match a lo ρ σ with
  | some (.next, ρ1, σ1) => b lo ρ1 σ1
  | some (.ret v, ρ1, σ1) => some (.ret v, ρ1, σ1)
  | none => none
theorem Ss_cons {st : Stmt} {rest : List Stmt} {a b : SDen} (ha : SoundS w lvl sc st a) (hb : SoundSs w lvl sc rest b) : SoundSs w lvl sc (st :: rest) (sSeq a b) := by
  refine SoundX.mk ?_
  intro X env A s C lo hb0 ρ α σ fl ρ' σ' Q E H hR F ev P
  refine wpAny_execs_cons ?_
  unfold sSeq at ev
  split at ev
  · rename_i ρ1 σ1 h1
    refine ha.run X env A s C lo hb0 ρ α σ .next ρ1 σ1 _ E H hR F h1 fun f h' tk' β k fr F1 r1 => ?_
    cases r1
    exact hb.run X env A _ C lo hb0 ρ1 (α ++ β) σ1 fl ρ' σ' Q E H hR F1 ev (P.after k fr F1)
  · rename_i v ρ1 σ1 h1
    cases ev
    refine ha.run X env A s C lo hb0 ρ α σ (.ret v) ρ' σ' _ E H hR F h1 fun f h' tk' β k fr F1 r1 => ?_
    obtain ⟨u, rfl, r⟩ := r1
    exact P _ h' tk' β k fr F1 ⟨u, rfl, r⟩
  · cases ev

noncomputable def sRet (d : Den) : SDen := fun _ ρ σ => match d ρ σ with
  | some (v, σ1) => some (.ret v, ρ, σ1)
  | none => none
theorem S_ret {e : Expr} {pos : Pos} {d : Den} (h : SoundE w lvl sc e d) : SoundS w lvl sc (.Return (some e) pos) (sRet d) := by
  refine SoundX.mk ?_
  intro X env A s C lo hb ρ α σ fl ρ' σ' Q E H hR F ev P
  refine wpAny_Return_some ?_
  unfold sRet at ev
  split at ev
  · rename_i v σ1 h1
    cases ev
    refine h.run X env A s ρ α σ v σ' _ E H.ok hR F.good F.env F.st h1 fun u h' tk' β k fr S1 r => ?_
    exact P _ h' tk' β (Keep.of k) fr (F.grow k fr S1) ⟨u, rfl, r⟩
  · cases ev
noncomputable def sIf (t : Tst) (a b : SDen) : SDen := fun lo ρ σ => match t ρ σ with
  | some true => a lo ρ σ
  | some false => b lo ρ σ
  | none => none
theorem SPost.grow {env : Env} {C : List Addr} {lo : Nat} {hb : Heap} {s : Shared} {α : List Addr} {fl : Fl} {ρ1 ρ' : Loc} {σ1 σ' : Store} {Q : Flow → Shared → Prop} (P : SPost X w env C lo hb s α fl ρ' σ' Q) {h' : Heap} {tk' : Nat} (k : Keep env C lo α s.heap h')
    (F : Frm X w env C lo hb h' α ρ1 σ1) : SPost X w env C lo hb { s with heap := h', toks := tk' } α fl ρ' σ' Q := by
  have := SPost.after (β := []) (ρ1 := ρ1) (σ1 := σ1) (tk' := tk') P k (Fresh.nil _) (by simpa using F)
  simpa using this
theorem S_if {test : Expr} {body orelse : List Stmt} {pos : Pos} {t : Tst} {a b : SDen} (ht : SoundT w lvl sc test t) (ha : SoundSs w lvl sc body a) (hb : SoundSs w lvl sc orelse b) : SoundS w lvl sc (.If test body orelse pos) (sIf t a b) := by
  refine SoundX.mk ?_
  intro X env A s C lo hb0 ρ α σ fl ρ' σ' Q E H hR F ev P
  refine wpAny_If ?_
  unfold sIf at ev
  cases h1 : t ρ σ with
  | none => rw [h1] at ev; cases ev
  | some c =>
    rw [h1] at ev
    refine ht.run X env A s ρ α σ c _ E H.ok hR F.good F.env F.st h1 (fun h' tk' k => ?_) _ rfl
    have F1 := F.grow0 k
    have P1 := P.grow (tk' := tk') (Keep.of k) F1
    cases c with
    | true => exact ha.run X env A _ C lo hb0 ρ α σ fl ρ' σ' Q E H hR F1 ev P1
    | false => exact hb.run X env A _ C lo hb0 ρ α σ fl ρ' σ' Q E H hR F1 ev P1

/-- x = value -/
noncomputable def sSet (n : String) (m : MDen) : SDen := fun lo ρ σ => match m lo ρ σ with
  | some (v, σ1) => some (.next, upd ρ n v, σ1)
  | none => none
theorem S_assign {n : String} {p pos : Pos} {e : Expr} {m : MDen} (hk : sc.names.lookup (Str.ofString n) = some .local ∨ sc.names.lookup (Str.ofString n) = some .cell) (h : SoundM w lvl sc e m)
    (hs : ∀ env, EnvOk env sc → swapsWith e (some (.Name (Str.ofString n) p)) pos.line env = pure false) : SoundS w lvl sc (.Assign [.Name (Str.ofString n) p] e pos) (sSet n m) := by
  refine SoundX.mk ?_
  intro X env A s C lo hb ρ α σ fl ρ' σ' Q E H hR F ev P
  refine wpAny_Assign_Name ?_ (hs env H.ok)
  unfold sSet at ev
  split at ev
  · rename_i v σ1 h1
    cases ev
    refine h.run X env A s C lo hb ρ α σ v σ' _ E H hR F h1 fun u h' tk' β k fr F1 r => ?_
    have P1 := P.after (tk' := tk') k fr F1
    rcases hk with hk | hk
    · exact F1.setLocal (s := { s with heap := h', toks := tk' }) H.ok hk r fun h2 tk2 k2 F2 => P1.here k2 F2 rfl
    · exact F1.setCell (s := { s with heap := h', toks := tk' }) H.ok (H.cel rfl) (H.inj rfl) hk r fun h2 tk2 k2 F2 => P1.here k2 F2 rfl
  · cases ev
theorem swaps_cell {e : Expr} {x : Str} {p : Pos} {line : Nat} {env : Env} (hE : EnvOk env sc) (hk : sc.names.lookup x = some .cell) : swapsWith e (some (.Name x p)) line env = pure false := by
  have h1 : env.kindOf x = some .cell := by unfold Env.kindOf; rw [hE.same]; exact hk
  unfold swapsWith
  cases e <;> simp [h1, show (NameKind.cell == NameKind.local) = false from rfl] <;> rfl
/-- targets = value -/
noncomputable def sUnpack (T : Tgt) (d : Den) : SDen := fun _ ρ σ => match d ρ σ with
  | some (v, σ1) => (match T v ρ with
    | some ρ1 => some (.next, ρ1, σ1)
    | none => none)
  | none => none
theorem S_unpack {elts : List Expr} {k : Nat} {tpos pos : Pos} {e : Expr} {T : Tgt} {d : Den} (hG : SoundG w sc true (.Tuple elts k tpos) T) (h : SoundE w lvl sc e d)
    (hs : ∀ env, swapsWithSole [.Tuple elts k tpos] e pos.line env = pure false := by intro _; rfl)
    (hw : ∀ env, swappedStores [.Tuple elts k tpos] e env = pure none := by intro _; rfl) : SoundS w lvl sc (.Assign [.Tuple elts k tpos] e pos) (sUnpack T d) := by
  refine SoundX.mk ?_
  intro X env A s C lo hb ρ α σ fl ρ' σ' Q E H hR F ev P
  refine Assign_Tuple ?_ (hs env) (hw env)
  unfold sUnpack at ev
  split at ev
  · rename_i v σ1 h1
    split at ev
    · rename_i ρ1 h2
      cases ev
      refine h.run X env A s ρ α σ v σ' _ E H.ok hR F.good F.env F.st h1 fun u h' tk' β k fr S1 r => ?_
      have F1 := F.grow k fr S1
      have P1 := P.after (tk' := tk') (Keep.of k) fr F1
      exact hG.run X env A { s with heap := h', toks := tk' } C lo hb ρ (α ++ β) σ' v u ρ' _ E H hR.handled F1 r h2 fun h2 tk2 k2 F2 => P1.here k2 F2 rfl
    · cases ev
  · cases ev
/-- a, b = x, y with both of them local -/
noncomputable def sSwap (a b : String) (d : Den) : SDen := fun _ ρ σ => match d ρ σ with
  | some (.tup [x, y], σ1) => some (.next, upd (upd ρ b y) a x, σ1)
  | _ => none
theorem S_swap {a b : String} {elts : List Expr} {k : Nat} {tpos pos : Pos} {e : Expr} {d : Den} (ha : sc.names.lookup (Str.ofString a) = some .local) (hb : sc.names.lookup (Str.ofString b) = some .local) (h : SoundE w lvl sc e d)
    (hw : ∀ env, EnvOk env sc → swappedStores [.Tuple elts k tpos] e env = pure (some [Str.ofString a, Str.ofString b]))
    (hs : ∀ env, swapsWithSole [.Tuple elts k tpos] e pos.line env = pure false := by intro _; rfl) : SoundS w lvl sc (.Assign [.Tuple elts k tpos] e pos) (sSwap a b d) := by
  refine SoundX.mk ?_
  intro X env A s C lo hb0 ρ α σ fl ρ' σ' Q E H hR F ev P
  refine Assign_Tuple_swapped ?_ (hs env) (hw env H.ok)
  unfold sSwap at ev
  split at ev
  · rename_i x y σ1 h1
    cases ev
    refine h.run X env A s ρ α σ _ σ' _ E H.ok hR F.good F.env F.st h1 fun u h' tk' β k fr S1 r => ?_
    have F1 := F.grow k fr S1
    have P1 := P.after (tk' := tk') (Keep.of k) fr F1
    cases r with
    | tup hx ht rs =>
      cases rs with
      | cons rx rs =>
        cases rs with
        | cons ry rs =>
          cases rs
          rename_i ux uy
          refine wpAny_unpackItems_tuple (items := [ux, uy].toArray) hR.handled ht fun h2 k2 => ?_
          have k2' := extSize k2
          have F2 := F1.grow0 k2'
          have P2 := P1.grow (tk' := tk') (Keep.of k2') F2
          have rx2 := Rp.mono (β := []) k2' rx
          have ry2 := Rp.mono (β := []) k2' ry
          rw [List.append_nil] at rx2 ry2
          show wpAny _ A (assignInOrder [bindName env (Str.ofString b), bindName env (Str.ofString a)] [uy, ux]) _ _ _
          refine wpAny_bind (wpAny_holding (bindName_ ?_))
          refine F2.setLocal (s := { s with heap := h2, toks := tk' }) H.ok hb ry2 fun h3 tk3 k3 F3 => ?_
          refine wpAny_bind (wpAny_holding (bindName_ ?_))
          refine F3.setLocal (s := { s with heap := h3, toks := tk3 }) H.ok ha (F2.keepRp k3 rx2) fun h4 tk4 k4 F4 => wpAny_pure ?_
          exact P2.here (k3.trans0 k4) F4 rfl
  · cases ev
end Mine
end

section
open PySem PySem.W PyProof.Rows PySem.Calls
set_option Elab.async false
set_option autoImplicit false
namespace Mine
variable {X : List Addr} {w : World} {lvl : Nat} {sc : Scope}

theorem S_comp {csc : Scope} {n : String} {py : Pos} {elt target iter : Expr} {ifs : List Expr} {pos spos : Pos} {fv : List String} {It : ItD} {T : Tgt} {t : Tst} {d : Den} (hk : sc.names.lookup (Str.ofString n) = some .local)
    (hI : SoundI w lvl sc target iter It) (O : CompOk w lvl sc csc elt target ifs fv T t d)
    (hl : (py.line == pos.line) = true) (ha : (csc.names.any fun x => x.1 == Str.ofString n && (x.2 == .local || x.2 == .cell)) = false)
    (hs : ∀ env x, foldedSetIterable iter env x = pure x := by intro _ _; rfl) :
    SoundS w lvl sc (.Assign [.Name (Str.ofString n) py] (.ListComp elt [⟨target, iter, ifs, 0⟩] csc pos) spos) (sSet n (mOf (dComp It fv T t d))) := by
  refine SoundX.mk ?_
  intro X env A s C lo hb ρ α σ fl ρ' σ' Q E H hR F ev P
  have hE := H.ok
  have hkind : env.kindOf (Str.ofString n) = some .local := by unfold Env.kindOf; rw [hE.same]; exact hk
  have hb1 : env.blockKind = .function := by unfold Env.blockKind; rw [hE.same, hE.kind]; rfl
  have hsw : swapsWith (.ListComp elt [⟨target, iter, ifs, 0⟩] csc pos) (some (.Name (Str.ofString n) py)) spos.line env = pure true := by
    show pure (env.blockKind == .function && env.kindOf (Str.ofString n) == some .local && py.line == pos.line && !(csc.names.any fun x => x.1 == Str.ofString n && (x.2 == .local || x.2 == .cell))) = pure true
    rw [hkind, hb1, ha, hl]; rfl
  rw [exec_Assign_Name_used _ _ _ _ hsw]
  refine wpAny_bind (wpAny_standAt (wpAny_bind ?_))
  show wpAny _ A (do let _ ← comprehension (.ListComp elt [⟨target, iter, ifs, 0⟩] csc pos) csc env _ (newList []) false (eval iter env) (some (assign (.Name (Str.ofString n) py) env))) _ _ s
  refine wpAny_bind (wpAny_mono (wpAny_comprehension_free (use := some (assign (.Name (Str.ofString n) py) env)) (Q := fun _ s' => Q .next s') rfl (hs env) (closureFor_is fun x hx e => hE.cells _ (O.free x hx e)) O.kind O.loc ?_)
    (fun _ s' hq => wpAny_pure (wpAny_pure hq)) fun _ _ e => e)
  unfold sSet mOf dComp at ev
  cases h1 : It ρ σ with
  | none => rw [h1] at ev; cases ev
  | some q =>
    obtain ⟨items, σ1, fz⟩ := q
    rw [h1] at ev
    dsimp only at ev
    cases h2 : compGo T t d items (only fv ρ) σ1 with
    | none => rw [h2] at ev; cases ev
    | some vs =>
      rw [h2] at ev
      dsimp only at ev
      cases h3 : alloc vs σ1 with
      | none => rw [h3] at ev; cases ev
      | some q =>
        obtain ⟨v, σ2⟩ := q
        rw [h3] at ev
        cases ev
        refine hI.run X env A s ρ α σ items σ1 fz _ E hE hR F.good F.env F.st h1 ?_
        intro I wr fp St hS h' tk' β k1 k2 hfr S1 W st ok
        refine compRun O hE hR (F.good.keeps k1) (F.env.mono k1) S1 W k2 st ok h2 (alloc_inv h3).1 ?_
        intro D L h2 tk m us gD gL hDL hn hp hr kS
        obtain ⟨a, b, c, r⟩ := compDone hn (Heap.SameBut.refl L h2) hDL gD gL k1 hfr S1 kS hp hr h3
        have F2 := F.grow a b c
        show wpAny _ A (assign (.Name (Str.ofString n) py) env (.ref D)) _ _ _
        refine wpAny_assign_Name (F2.setLocal (s := { s with heap := h2, toks := tk }) hE hk r fun h3 tk3 k3 F3 => ?_)
        have aliveL : ∀ x, (∃ o, hS.get? x = some o) → x ≠ L := fun x ⟨o, e⟩ q => by rw [q, gL] at e; cases e
        have al : ∀ x, (∃ o, s.heap.get? x = some o) → x ≠ L := fun x ⟨o, e⟩ => aliveL x ⟨o, k1 x o e⟩
        have l1 : env.locals ≠ L := al _ (by obtain ⟨m, ⟨o, _, _, e, _⟩, _⟩ := F.env; exact ⟨o, e⟩)
        have l2 : L ∉ C := fun q => al _ (by obtain ⟨v, o, e, _⟩ := (F.cel L q).2; exact ⟨o, e⟩) rfl
        have l3 : L ∉ α ++ (β ++ [D]) := fun q => by
          rw [← List.append_assoc] at q
          rcases List.mem_append.mp q with q | q
          · exact aliveL _ (by obtain ⟨us, n, e⟩ := S1.addr q; exact ⟨_, e⟩) rfl
          · exact hDL (List.mem_singleton.mp q).symm
        have nm : ¬ Mut env C lo (α ++ (β ++ [D])) L := by
          rintro (q | q | ⟨i, _, q⟩)
          · exact l1 q.symm
          · exact l2 q
          · exact l3 (List.mem_of_getElem? q)
        have hn3 : h3.Ns L m := hn.at fun o e => k3 L o nm e
        refine ⟨m, hn3, fun h4 sb4 => ?_⟩
        have kk4 : ∀ b o, ¬ (b = L) → h3.get? b = some o → h4.get? b = some o := fun b o q e => (sb4.2 b q).trans e
        have F4 : Frm X w env C lo hb h4 (α ++ (β ++ [D])) (upd ρ n v) σ' := by
          refine F3.off (· = L) kk4 (fun b q => ?_) (fun b q => q ▸ fun q' => l1 q'.symm) (fun b q => q ▸ l2) (fun b q x c e q' => ?_) (fun b q => q ▸ l3) (fun b q => .inr ?_) fun b q hx => ?_
          · rw [q]; exact F.sub.none (k1.none gL)
          · obtain ⟨m, _, hcs, _⟩ := F.env
            exact al c (by obtain ⟨v, o, e', _⟩ := hcs x c e; exact ⟨o, e'⟩) (q'.trans q)
          · intro o e _ ⟨xs, n, d⟩
            obtain ⟨o', es, ep, e', d', _⟩ := hn3
            rw [show b = L from q, e'] at e; cases e
            rw [d'] at d; cases d
          · exact absurd (q : b = L) (al b (F.st.live b hx))
        exact P .next h4 tk3 (β ++ [D]) (fun x o mu e => kk4 x o (al x ⟨o, e⟩) (k3 x o (fun q => mu (q.of b e)) (a x o e))) b F4 rfl
end Mine
end

section
open PySem PySem.W PyProof.Rows PySem.Calls
set_option Elab.async false
set_option autoImplicit false
namespace Mine
variable {X : List Addr} {w : World} {lvl : Nat} {sc : Scope}

theorem notInteractive {env : Env} (hE : EnvOk env sc) : interactive env = false := by
  unfold interactive; rw [hE.same, hE.kind]; rfl
/-- an expression for its effect -/
noncomputable def sDrop (m : MDen) : SDen := fun lo ρ σ => match m lo ρ σ with
  | some (_, σ1) => some (.next, ρ, σ1)
  | none => none
theorem S_drop {e : Expr} {pos : Pos} {m : MDen} (h : SoundM w lvl sc e m) (hs : ∀ env, swapsWith e none pos.line env = pure false := by intro _; rfl) : SoundS w lvl sc (.Expr e pos) (sDrop m) := by
  refine SoundX.mk ?_
  intro X env A s C lo hb ρ α σ fl ρ' σ' Q E H hR F ev P
  refine wpAny_Expr_any ?_ (notInteractive H.ok) (hs env)
  unfold sDrop at ev
  split at ev
  · rename_i v σ1 h1
    cases ev
    exact h.run X env A s C lo hb ρ α σ v σ' _ E H hR F h1 fun u h' tk' β k fr F1 r => P .next h' tk' β k fr F1 rfl
  · cases ev

noncomputable def mApp (d : Den) (m : MDen) : MDen := fun lo ρ σ => match d ρ σ with
  | some (.lst l, σ1) => (match m lo ρ σ1 with
    | some (v, σ2) => if lo ≤ l then (match σ2[l]? with
      | some xs => if xs.length < cap then some (.none, σ2.set l (xs ++ [v])) else none
      | none => none) else none
    | none => none)
  | _ => none
theorem M_app {o e : Expr} {apos pos : Pos} {d : Den} {m : MDen} (hO : SoundE w lvl sc o d) (hM : SoundM w lvl sc e m)
    (he : ∀ env, starEach [e] env = (false, eval e env) :: starEach [] env := by exact fun env => star_of rfl env)
    (hbase : ∀ env, attributeBase o "append" env (eval o env) = eval o env := by intro _; rfl)
    (hfew : ∀ env, ((backTo pos (starEach [e] env)).all (fun x => !x.1) && (backToKw pos (keywordEach [] env)).all (fun x => x.1.isSome)
      && decide ([e].length + ([] : List Keyword).length + (if ([] : List Keyword).isEmpty then 0 else 1) < 30)) = true := by intro _; rfl)
    (hpl : ∀ env, (backTo pos (starEach [e] env)).any (·.1) = false := by exact fun env => plain_of rfl env)
    (hline : (apos.endLine == pos.line) = true := by rfl) :
    SoundM w lvl sc (.Call (.Attribute o "append" apos) [e] [] pos) (mApp d m) := by
  intro X env A s C lo hb ρ α σ v σ' Q E H hR F ev P
  unfold mApp at ev
  split at ev
  · rename_i l σ1 h1
    split at ev
    · rename_i x σ2 h2
      split at ev
      · rename_i hlo
        split at ev
        · rename_i xs hxs
          split at ev
          · rename_i hlen
            cases ev
            refine wpAny_Call_method (hbase env) (hfew env) hline PySem.F.plainAttrs_list PySem.F.slot_list_append PySem.F.type_list_append ?_
            refine hO.run X env A s ρ α σ (.lst l) σ1 _ E H.ok hR F.good F.env F.st h1 fun u h' tk' β k hfr S r => ?_
            have F1 := F.grow k hfr S
            cases r with
            | lst ea =>
              rename_i a
              obtain ⟨us1, n1, e1⟩ := S.addr (List.mem_of_getElem? ea)
              refine ⟨⟨_, e1, rfl⟩, fun a' e => by cases e; exact ⟨_, e1, rfl⟩, callWith_builtin (hpl env) ?_⟩
              have hs : backTo pos (starEach [e] env) = (false, eval e env) :: backTo pos (starEach [] env) := by rw [he]; rfl
              rw [hs]
              refine evalArgs_plain ?_
              rw [← hs]
              refine wpAny_items_cons ?_ (he env)
              refine hM.run X env A { s with heap := h', toks := tk' } C lo hb ρ (α ++ β) σ1 x σ2 _ E H hR F1 h2 fun u2 h2' tk2 β2 k2 f2 F2 r2 => ?_
              refine wpAny_items_nil ?_
              have ea2 : (α ++ β ++ β2)[l]? = some a := getE ea
              obtain ⟨a', us, e3, pl, rs⟩ := F2.st.get l xs hxs
              rw [ea2] at e3; cases e3
              have hsz : us.toArray.size ≤ sizeLine := by
                have := rs.length
                rw [List.size_toArray, ← this, sizeLine_is]; rw [capLine] at hlen; omega
              refine wpAny_list_append_plain (s := { s with heap := h2', toks := tk2 }) pl (fun h3 hp3 sb3 => ?_) hsz
              have hp3' : h3.PlainList a (us ++ [u2]).toArray := by
                have : us.toArray.push u2 = (us ++ [u2]).toArray := by simp
                rw [← this]; exact hp3
              obtain ⟨k3, F3⟩ := F2.setList hlo ea2 sb3 hp3' (rs.append (.cons r2 .nil)) (by rw [List.length_append]; exact hlen)
              have K : Keep env C lo α s.heap h3 := (Keep.of k).trans (k2.trans k3 f2) hfr
              have := P .none h3 tk2 (β ++ β2) K (F1.freshApp (lo := lo) (Keep.of k) hfr (fun b hb => f2 b hb)) (by rw [← List.append_assoc]; exact F3) .none
              exact this
          · cases ev
        · cases ev
      · cases ev
    · cases ev
  · cases ev

noncomputable def whileGo (t : Tst) (b : SDen) (lo : Nat) : Nat → Loc → Store → Option (Fl × Loc × Store)
  | 0, _, _ => none
  | n + 1, ρ, σ => match t ρ σ with
    | none => none
    | some false => some (.next, ρ, σ)
    | some true => match b lo ρ σ with
      | some (.next, ρ1, σ1) => whileGo t b lo n ρ1 σ1
      | some (.ret v, ρ1, σ1) => some (.ret v, ρ1, σ1)
      | none => none
noncomputable def sWhile (fuel : Nat) (t : Tst) (b : SDen) : SDen := fun lo ρ σ => whileGo t b lo fuel ρ σ
theorem S_while {test : Expr} {body : List Stmt} {pos : Pos} {t : Tst} {b : SDen} (fuel : Nat) (ht : SoundT w lvl sc test t) (hB : SoundSs w lvl sc body b) : SoundS w lvl sc (.While test body [] pos) (sWhile fuel t b) := by
  refine SoundX.mk ?_
  intro X env A s C lo hb ρ α σ fl ρ' σ' Q E H hR F ev P
  refine wpAny_While ?_
  refine codeAny_whileLoop (fun n s' => ∃ h tk β ρ1 σ1, s' = { s with heap := h, toks := tk } ∧ Keep env C lo α s.heap h ∧ Fresh s.heap β ∧ Frm X w env C lo hb h (α ++ β) ρ1 σ1 ∧ whileGo t b lo n ρ1 σ1 = some (fl, ρ', σ')) ?_ fuel
    ⟨s.heap, s.toks, [], ρ, σ, rfl, Keep.refl _ _ _ _ _, Fresh.nil _, by simpa using F, ev⟩
  rintro n s' ⟨h, tk, β, ρ1, σ1, rfl, k, fr, F1, g⟩
  cases n with
  | zero => cases g
  | succ n =>
    unfold whileGo at g
    split at g
    · cases g
    · rename_i h1
      cases g
      refine ht.run X env A { s with heap := h, toks := tk } ρ' (α ++ β) σ' false _ _ H.ok hR F1.good F1.env F1.st h1 (fun h' tk' k' => ?_) _ rfl
      exact wpAny_execs_nil (P .next h' tk' β (k.trans (Keep.of k') fr) fr (F1.grow0 k') rfl)
    · rename_i h1
      refine ht.run X env A { s with heap := h, toks := tk } ρ1 (α ++ β) σ1 true _ _ H.ok hR F1.good F1.env F1.st h1 (fun h' tk' k' => ?_) _ rfl
      have F2 := F1.grow0 k'
      have k2 : Keep env C lo α s.heap h' := k.trans (Keep.of k') fr
      split at g
      · rename_i ρ2 σ2 h2
        refine hB.run X env A { s with heap := h', toks := tk' } C lo hb ρ1 (α ++ β) σ1 .next ρ2 σ2 _ _ H hR F2 h2 fun f h3 tk3 β3 k3 f3 F3 r3 => ?_
        cases r3
        exact ⟨n, Nat.lt_succ_self _, h3, tk3, β ++ β3, ρ2, σ2, rfl, k2.trans k3 fr, F2.freshApp k2 fr f3, by rw [← List.append_assoc]; exact F3, g⟩
      · rename_i v ρ2 σ2 h2
        cases g
        refine hB.run X env A { s with heap := h', toks := tk' } C lo hb ρ1 (α ++ β) σ1 (.ret v) ρ' σ' _ _ H hR F2 h2 fun f h3 tk3 β3 k3 f3 F3 r3 => ?_
        obtain ⟨u, rfl, r⟩ := r3
        exact P (.ret u) h3 tk3 (β ++ β3) (k2.trans k3 fr) (F2.freshApp k2 fr f3) (by rw [← List.append_assoc]; exact F3) ⟨u, rfl, by rw [← List.append_assoc]; exact r⟩
      · cases g
end Mine
end

section
open PySem PySem.W PyProof.Rows PySem.Calls
set_option Elab.async false
set_option autoImplicit false
namespace Mine
variable {X : List Addr} {w : World} {lvl : Nat} {sc : Scope}

noncomputable def forGo (T : Tgt) (b : SDen) (lo : Nat) : List V → Loc → Store → Option (Fl × Loc × Store)
  | [], ρ, σ => some (.next, ρ, σ)
  | v :: rest, ρ, σ => match T v ρ with
    | none => none
    | some ρ1 => match b lo ρ1 σ with
      | some (.next, ρ2, σ2) => forGo T b lo rest ρ2 σ2
      | some (.ret v, ρ2, σ2) => some (.ret v, ρ2, σ2)
      | none => none
noncomputable def sFor (It : ItD) (T : Tgt) (b : SDen) : SDen := fun lo ρ σ => match It ρ σ with
  | some (items, σ1, fz) => forGo T b (max lo fz) items ρ σ1
  | none => none

theorem Frm.widen {env : Env} {C : List Addr} {lo : Nat} {hb hS h : Heap} {α : List Addr} {ρ : Loc} {σ : Store} {wr : List Addr} (F : Frm X w env C lo hb hS α ρ σ) (k : Sub hS h) (hw : ∀ b ∈ wr, hS.get? b = Option.none) (hl : Live wr h) : Frm (X ++ wr) w env C lo hb h α ρ σ where
  gd := F.gd
  sub := F.sub.trans k
  loc := F.loc
  cel := fun c hc => ⟨(F.cel c hc).1, let ⟨v, q⟩ := (F.cel c hc).2; ⟨v, q.keeps k⟩⟩
  own := F.own
  env := by
    obtain ⟨m, hn, hcs, g⟩ := F.env
    have up : ∀ {v u}, Rp X hS α v u → Rp (X ++ wr) h α v u := fun r => by
      have := Rp.mono (β := []) k (r.wider hw); simpa using this
    refine ⟨m, hn.keeps k, fun x c e => let ⟨v, q⟩ := hcs x c e; ⟨v, q.keeps k⟩, fun n v e => ?_⟩
    rcases g n v e with ⟨a, u', b, c⟩ | ⟨a, c, u', b, d, f⟩
    · exact .inl ⟨a, u', b, up c⟩
    · exact .inr ⟨a, c, u', b, d.keeps k, up f⟩
  st := F.st.wide k hw hl
theorem Frm.narrow {env : Env} {C : List Addr} {lo lo' : Nat} {hb h : Heap} {α : List Addr} {ρ : Loc} {σ : Store} {wr : List Addr} (F : Frm (X ++ wr) w env C lo' hb h α ρ σ) (hown : ∀ i b, lo ≤ i → α[i]? = some b → hb.get? b = Option.none) : Frm X w env C lo hb h α ρ σ where
  gd := F.gd
  sub := F.sub
  loc := F.loc
  cel := F.cel
  own := hown
  env := by
    obtain ⟨m, hn, hcs, g⟩ := F.env
    refine ⟨m, hn, hcs, fun n v e => ?_⟩
    rcases g n v e with ⟨a, u', b, c⟩ | ⟨a, c, u', b, d, f⟩
    · exact .inl ⟨a, u', b, c.less⟩
    · exact .inr ⟨a, c, u', b, d, f.less⟩
  st := ⟨F.st.len, F.st.nodup, fun i vs e => let ⟨a, us, e1, p, r⟩ := F.st.get i vs e; ⟨a, us, e1, p, r.less⟩, F.st.cap, fun a ha => F.st.live a (List.mem_append.mpr (.inl ha))⟩

theorem Frm.leave {env : Env} {C : List Addr} {lo lo' : Nat} {hb h h2 : Heap} {α : List Addr} {ρ : Loc} {σ : Store} {wr : List Addr} (F : Frm (X ++ wr) w env C lo' hb h α ρ σ) (hown : ∀ i b, lo ≤ i → α[i]? = some b → hb.get? b = Option.none)
    (k : ∀ b o, b ∉ wr → h.get? b = some o → h2.get? b = some o) (p0 : ∀ b ∈ wr, hb.get? b = Option.none) (p1 : env.locals ∉ wr) (p2 : ∀ c ∈ C, c ∉ wr) (p3 : ∀ x c, env.cells.lookup x = some c → c ∉ wr) (p4 : ∀ a ∈ α, a ∉ wr) (p5 : ∀ a ∈ X, a ∉ wr) : Frm X w env C lo hb h2 α ρ σ where
  gd := F.gd
  sub := fun b o e => k b o (fun q => by rw [p0 b q] at e; cases e) (F.sub b o e)
  loc := F.loc
  cel := fun c hc => ⟨(F.cel c hc).1, let ⟨v, o, e, d⟩ := (F.cel c hc).2; ⟨v, o, k c o (p2 c hc) e, d⟩⟩
  own := hown
  env := by
    obtain ⟨m, hn, hcs, g⟩ := F.env
    have up : ∀ {v u}, Rp (X ++ wr) h α v u → Rp X h2 α v u := fun r => by
      have := Rp.mono' (β := []) (h' := h2) (fun a o hx e _ _ => k a o (fun q => hx (List.mem_append.mpr (.inr q))) e) r
      rw [List.append_nil] at this
      exact this.less
    have hc : ∀ x c v, env.cells.lookup x = some c → h.IsCell c v → h2.IsCell c v := fun x c v hx ⟨o, e, d⟩ => ⟨o, k c o (p3 x c hx) e, d⟩
    refine ⟨m, hn.at fun o e => k _ o p1 e, fun x c e => let ⟨v, q⟩ := hcs x c e; ⟨v, hc x c v e q⟩, fun n v e => ?_⟩
    rcases g n v e with ⟨a, u', b, c⟩ | ⟨a, c, u', b, d, f⟩
    · exact .inl ⟨a, u', b, up c⟩
    · exact .inr ⟨a, c, u', b, hc _ _ _ b d, up f⟩
  st := ⟨F.st.len, F.st.nodup, fun i vs e => by
    obtain ⟨a, us, e1, p, r⟩ := F.st.get i vs e
    refine ⟨a, us, e1, p.at fun o e => k a o (p4 a (List.mem_of_getElem? e1)) e, ?_⟩
    have := Rps.mono' (β := []) (h' := h2) (fun a o hx e _ _ => k a o (fun q => hx (List.mem_append.mpr (.inr q))) e) r
    rw [List.append_nil] at this
    exact this.less, F.st.cap, fun a ha => let ⟨o, e⟩ := F.st.live a (List.mem_append.mpr (.inl ha)); ⟨o, k a o (p5 a ha) e⟩⟩

noncomputable def FInv (X : List Addr) (w : World) (env : Env) (C : List Addr) (lo lo' : Nat) (hb hS : Heap) (s : Shared) (α β fp : List Addr) (items : List V) (St : Nat → Heap → Prop) (T : Tgt) (b : SDen) (r : Fl × Loc × Store) (n : Nat) (s' : Shared) : Prop :=
  ∃ h tk i γ ρ1 σ2, s' = { s with heap := h, toks := tk } ∧ n = items.length + 1 - i ∧ i ≤ items.length ∧ St i h ∧ Keep env C lo α s.heap h ∧ Fresh s.heap (β ++ γ) ∧ TK hS h ∧
    Frm X w env C lo' hb h (α ++ β ++ γ) ρ1 σ2 ∧ (∀ x ∈ γ, x ∉ fp) ∧ (∀ x ∈ fp, ∃ o, h.get? x = some o) ∧ forGo T b lo' (items.drop i) ρ1 σ2 = some r
noncomputable def bodyDone (J : Nat → Shared → Prop) (n : Nat) (Q : Flow → Shared → Prop) (f : Flow) (s₃ : Shared) : Prop :=
  match f with
  | .next | .cont => ∃ m, m < n ∧ J m s₃
  | .brk => Q .next s₃
  | .ret v => Q (.ret v) s₃
theorem S_for {target iter : Expr} {body : List Stmt} {pos : Pos} {It : ItD} {T : Tgt} {b : SDen} (hI : SoundI w lvl sc target iter It) (hG : SoundG w sc true target T) (hB : SoundSs w lvl sc body b)
    (hs : ∀ env x, foldedSetIterable iter env x = pure x := by intro _ _; rfl) : SoundS w lvl sc (.For target iter body [] pos) (sFor It T b) := by
  refine SoundX.mk ?_
  intro X env A s C lo hb ρ α σ fl ρ' σ' Q E H hR F ev P
  refine wpAny_For ?_ (hs env)
  unfold sFor at ev
  split at ev
  · rename_i items σ1 fz h1
    refine hI.run X env A s ρ α σ items σ1 fz _ E H.ok hR F.good F.env F.st h1 ?_
    intro I wr fp St hS h' tk' β k1 k2 hfr S1 W st ok
    have FS := F.grow k1 hfr S1
    generalize hlo' : max lo fz = lo' at *
    have hll : lo ≤ lo' := by rw [← hlo']; exact Nat.le_max_left _ _
    have hfl : fz ≤ lo' := by rw [← hlo']; exact Nat.le_max_right _ _
    have F0 : Frm (X ++ wr) w env C lo' hb h' (α ++ β) ρ σ1 := (FS.raise hll).widen k2 W.old (W.live 0 _ st)
    have alS : ∀ x, (∃ o, hS.get? x = some o) → ∀ y, hS.get? y = none → x ≠ y := fun x ⟨o, e⟩ y e' q => by rw [q, e'] at e; cases e
    have locS : ∃ o, hS.get? env.locals = some o := by obtain ⟨m, ⟨o, _, _, e, _⟩, _⟩ := FS.env; exact ⟨o, e⟩
    have celS : ∀ c ∈ C, ∃ o, hS.get? c = some o := fun c hc => by obtain ⟨v, o, e, _⟩ := (FS.cel c hc).2; exact ⟨o, e⟩
    have aS : ∀ a ∈ α ++ β, ∃ o, hS.get? a = some o := fun a ha => by obtain ⟨us, n, e⟩ := FS.st.addr ha; exact ⟨_, e⟩
    -- what the iterator stands on is none of what the body may change
    have safe : ∀ γ, (∀ x ∈ γ, x ∉ fp) → ∀ x ∈ fp, ¬ Mut env C lo' (α ++ β ++ γ) x := by
      intro γ hγ x hx mu
      rcases ok x hx with ⟨e, _⟩ | ⟨i, hi, e⟩
      · rcases mu with q | q | ⟨j, _, q⟩
        · exact alS _ locS x e q.symm
        · exact alS _ (celS x q) x e rfl
        · rcases List.mem_append.mp (List.mem_of_getElem? q) with q | q
          · exact alS _ (aS x q) x e rfl
          · exact hγ x q hx
      · obtain ⟨us, n, ex⟩ := FS.st.addr (List.mem_of_getElem? e)
        rcases mu with q | q | ⟨j, hj, q⟩
        · obtain ⟨es, n', d⟩ := FS.locObj _ (by rw [← q]; exact ex)
          cases d
        · obtain ⟨v, o, e2, d⟩ := (FS.cel x q).2
          rw [ex] at e2; cases e2; cases d
        · by_cases hl : j < (α ++ β).length
          · rw [List.getElem?_append_left hl] at q
            have := (List.getElem?_inj hl FS.st.nodup).mp (q.trans e.symm)
            omega
          · rw [List.getElem?_append_right (Nat.le_of_not_lt hl)] at q
            exact hγ x (List.mem_of_getElem? q) hx
    have alive0 : ∀ x ∈ fp, ∃ o, h'.get? x = some o := fun x hx => by
      rcases ok x hx with ⟨_, q⟩ | ⟨i, _, q⟩
      · exact q
      · obtain ⟨us, n, e⟩ := FS.st.addr (List.mem_of_getElem? q); exact ⟨_, k2 x _ e⟩
    have hold : ∀ x ∈ wr, s.heap.get? x = none := fun x hx => k1.none (W.old x hx)
    have ownAll : ∀ γ, Fresh s.heap (β ++ γ) → ∀ i x, lo ≤ i → (α ++ β ++ γ)[i]? = some x → hb.get? x = none := fun γ fr i x hi e => by
      by_cases hl : i < α.length
      · rw [List.append_assoc, List.getElem?_append_left hl] at e; exact F.own i x hi e
      · rw [List.append_assoc, List.getElem?_append_right (Nat.le_of_not_lt hl)] at e
        exact F.sub.none (fr x (List.mem_of_getElem? e))
    have out : ∀ {f h2 tk2 γ lf ρ2 σ2}, Keep env C lo α s.heap h2 → Fresh s.heap (β ++ γ) → Frm (X ++ wr) w env C lo' hb h2 (α ++ β ++ γ) ρ2 σ2 → FlR (X ++ wr) h2 (α ++ β ++ γ) lf f → lf = fl → ρ2 = ρ' → σ2 = σ' → Q f { s with heap := h2, toks := tk2 } := by
      intro f h2 tk2 γ lf ρ2 σ2 k fr F2 r e1 e2 e3
      subst e1 e2 e3
      refine P f h2 tk2 (β ++ γ) k fr ?_ ?_
      · rw [← List.append_assoc]
        exact F2.narrow (ownAll γ fr)
      · rw [← List.append_assoc]
        cases lf with
        | next => exact r
        | ret v => obtain ⟨u, e, q⟩ := r; exact ⟨u, e, q.less⟩
    refine codeAny_forLoop_any (FInv (X ++ wr) w env C lo lo' hb hS s α β fp items St T b (fl, ρ', σ')) ?_ (items.length + 1)
      ⟨h', tk', 0, [], ρ, σ1, rfl, rfl, Nat.zero_le _, st, Keep.of (k1.trans k2), by simpa using hfr, TK.of k2, by simpa using F0, fun _ h => (nomatch h), alive0, ev⟩
    rintro n s' ⟨h, tk, i, γ, ρ1, σ2, rfl, rfl, hi, st1, kk, fr, tk1, F1, hγ, alv, g⟩
    have safe1 := safe γ hγ
    have offwr : ∀ h2, (∀ b o, b ∉ wr → h.get? b = some o → h2.get? b = some o) → (∀ x ∈ wr, ∃ o, h2.get? x = some o) → Frm (X ++ wr) w env C lo' hb h2 (α ++ β ++ γ) ρ1 σ2 := fun h2 kk2 lv => by
      refine F1.off (· ∈ wr) kk2 (fun x hx => F.sub.none (hold x hx)) (fun x hx q => safe1 x (W.sub x hx) (.inl q)) (fun x hx q => safe1 x (W.sub x hx) (.inr (.inl q))) (fun x hx y c e q => safe1 x (W.sub x hx) (.inr (.inl (q ▸ H.cel rfl y c e)))) (fun x hx q => ?_)
        (fun x hx => .inl (List.mem_append.mpr (.inr hx))) (fun x hx _ => lv x hx)
      rcases List.mem_append.mp q with q | q
      · exact alS _ (aS x q) x (W.old x hx) rfl
      · exact hγ x q (W.sub x hx)
    refine wpAny_mono (W.step i { s with heap := h, toks := tk } (fun r s₁ => match r with
      | none => wpAny (model Prg w) A (execs [] env) (fun f s₃ => Q f s₃) (notedBy (model Prg w) A env fun e s' => cameBackBy (model Prg w) A env E e s') s₁
      | some v => wpAny (model Prg w) A (assign target env v) (fun _ s₂ => wpAny (model Prg w) A (execs body env) (bodyDone (FInv (X ++ wr) w env C lo lo' hb hS s α β fp items St T b (fl, ρ', σ')) (items.length + 1 - i) Q)
          (notedBy (model Prg w) A env fun e s' => cameBackBy (model Prg w) A env E e s') s₂) (notedBy (model Prg w) A env fun e s' => cameBackBy (model Prg w) A env E e s') s₁)
      (notedBy (model Prg w) A env fun e s' => cameBackBy (model Prg w) A env E e s') st1 tk1 (fun a ha => F1.st.live a (List.mem_append.mpr (.inl ha))) hi ?_ ?_) (fun r s₁ q => ?_) (fun _ _ e => e)
    rotate_left 2
    · cases r with
      | none => exact q
      | some v => exact wpAny_mono q (fun _ s₂ q2 => wpAny_mono q2 (fun _ s₃ q3 => wpAny_mono q3 (fun f s₄ q4 => by cases f <;> exact q4) fun _ _ e => e) fun _ _ e => e) fun _ _ e => e
    · intro v u h2 tk2 hv2 r2 st2 kk2
      have hlt : i < items.length := (List.getElem?_eq_some_iff.mp hv2).1
      have hdrop : items.drop i = v :: items.drop (i + 1) := by
        rw [List.drop_eq_getElem_cons hlt]; congr 1
        exact Option.some.inj ((List.getElem?_eq_getElem hlt).symm.trans hv2)
      rw [hdrop] at g
      unfold forGo at g
      have F2 := offwr h2 kk2 (W.live _ _ st2)
      have K2 : Keep env C lo α s.heap h2 := fun x o mu e => kk2 x o (fun q => by rw [hold x q] at e; cases e) (kk x o mu e)
      have alv2 : ∀ x ∈ fp, ∃ o, h2.get? x = some o := fun x hx => by
        by_cases q : x ∈ wr
        · exact W.live _ _ st2 x q
        · obtain ⟨o, e⟩ := alv x hx; exact ⟨o, kk2 x o q e⟩
      have r2' : Rp (X ++ wr) h2 (α ++ β ++ γ) v u := Rp.mono (Sub.refl _) r2
      split at g
      · cases g
      rename_i ρ2 hT
      refine hG (X ++ wr) env A _ C lo' hb ρ1 (α ++ β ++ γ) σ2 v u ρ2 _ _ H hR.handled F2 r2' hT fun h3 tk3 k3 F3 => ?_
      have low : ∀ {γ' : List Addr} {ha hb' : Heap}, Keep env C lo' (α ++ β ++ γ') ha hb' → Keep env C lo (α ++ (β ++ γ')) ha hb' := fun q => by rw [← List.append_assoc]; exact q.lower hll
      have K3 : Keep env C lo α s.heap h3 := K2.trans (low k3) fr
      have alv3 : ∀ x ∈ fp, ∃ o, h3.get? x = some o := fun x hx => let ⟨o, e⟩ := alv2 x hx; ⟨o, k3 x o (safe1 x hx) e⟩
      have st3 : St (i + 1) h3 := W.frame _ _ _ st2 fun x hx o e => k3 x o (safe1 x hx) e
      have tk3' : TK hS h3 := fun x o e c d => by
        have e2 : h2.get? x = some o := (tk1.step W.old kk2) x o e c d
        exact k3 x o (F2.noTup e2 c d) e2
      split at g
      · rename_i ρ3 σ3 hb3
        refine hB.run (X ++ wr) env A { s with heap := h3, toks := tk3 } C lo' hb ρ2 (α ++ β ++ γ) σ2 .next ρ3 σ3 _ _ H hR F3 hb3 fun f h4 tk4 δ k4 f4 F4 r4 => ?_
        cases r4
        have K4 : Keep env C lo α s.heap h4 := K3.trans (low k4) fr
        have F3n : Frm (X ++ wr) w env C lo' hb h3 (α ++ (β ++ γ)) ρ2 σ2 := by rw [← List.append_assoc]; exact F3
        have fr4 := F3n.freshApp K3 fr f4
        refine ⟨items.length + 1 - (i + 1), by omega, h4, tk4, i + 1, γ ++ δ, ρ3, σ3, rfl, rfl, hlt, W.frame _ _ _ st3 fun x hx o e => k4 x o (safe1 x hx) e, K4, by simpa using fr4, ?_, ?_, ?_, ?_, g⟩
        · exact fun x o e c d => k4 x o (F3.noTup (tk3' x o e c d) c d) (tk3' x o e c d)
        · rw [← List.append_assoc]; exact F4
        · intro x hx q
          rcases List.mem_append.mp hx with q' | q'
          · exact hγ x q' q
          · obtain ⟨o, e⟩ := alv3 x q
            rw [f4 x q'] at e; cases e
        · exact fun x hx => let ⟨o, e⟩ := alv3 x hx; ⟨o, k4 x o (safe1 x hx) e⟩
      · rename_i rv ρ3 σ3 hb3
        cases g
        refine hB.run (X ++ wr) env A { s with heap := h3, toks := tk3 } C lo' hb ρ2 (α ++ β ++ γ) σ2 (.ret rv) ρ' σ' _ _ H hR F3 hb3 fun f h4 tk4 δ k4 f4 F4 r4 => ?_
        have K4 : Keep env C lo α s.heap h4 := K3.trans (low k4) fr
        have F3n : Frm (X ++ wr) w env C lo' hb h3 (α ++ (β ++ γ)) ρ2 σ2 := by rw [← List.append_assoc]; exact F3
        have fr4 := F3n.freshApp K3 fr f4
        have q := out (f := f) (tk2 := tk4) (γ := γ ++ δ) K4 (by simpa using fr4) (by rw [← List.append_assoc]; exact F4) (by rw [← List.append_assoc]; exact r4) rfl rfl rfl
        obtain ⟨u, rfl, _⟩ := r4
        exact q
      · cases g
    · intro h2 tk2 hn2 kk2
      have hge : items.length ≤ i := by simpa using hn2
      rw [List.drop_eq_nil_of_le hge] at g
      cases g
      refine wpAny_execs_nil ?_
      have K2 : Keep env C lo α s.heap h2 := fun x o mu e => kk2 x o (fun q => by rw [hold x q] at e; cases e) (kk x o mu e)
      have F2 : Frm X w env C lo hb h2 (α ++ β ++ γ) ρ' σ' := by
        refine F1.leave (ownAll γ fr) kk2 (fun x hx => F.sub.none (hold x hx)) (fun q => safe1 _ (W.sub _ q) (.inl rfl)) (fun c hc q => safe1 c (W.sub c q) (.inr (.inl hc))) (fun y c e q => safe1 c (W.sub c q) (.inr (.inl (H.cel rfl y c e)))) (fun a ha q => ?_) (fun a ha q => alS _ (FS.st.live a ha) a (W.old a q) rfl)
        rcases List.mem_append.mp ha with q' | q'
        · exact alS _ (aS a q') a (W.old a q) rfl
        · exact hγ a q' (W.sub a q)
      exact P .next h2 tk2 (β ++ γ) K2 fr (by rw [← List.append_assoc]; exact F2) rfl
  · cases ev
end Mine
end

section
open PySem PySem.W PyProof.Rows PySem.Calls
set_option Elab.async false
set_option autoImplicit false
namespace Mine
variable {X : List Addr} {w : World} {lvl : Nat} {sc : Scope}

noncomputable def locOf (ns : List String) (vs : List V) : Loc := fun n => (ns.zip vs).lookup n
noncomputable def fCall (ns : List String) (B : SDen) : Fn := fun vs σ => if vs.length = ns.length then (match B σ.length (locOf ns vs) σ with
  | some (.ret v, _, σ') => some (v, σ')
  | some (.next, _, σ') => some (.none, σ')
  | none => none) else none

theorem bindL_off {K : Str → Option NameKind} {x : Str} : ∀ {bs : List (Str × Value)} {m : Str → Option Value}, x ∉ bs.map (·.1) → bindL K bs m x = m x
  | [], m, _ => rfl
  | (n, u) :: r, m, h => by
    simp only [List.map_cons, List.mem_cons, not_or] at h
    unfold bindL
    rw [bindL_off h.2]
    split
    · exact if_neg h.1
    · rfl
theorem bindC_off {K : Str → Option NameKind} {x : Str} : ∀ {bs : List (Str × Value)} {m : Str → Option Value}, x ∉ bs.map (·.1) → bindC K bs m x = m x
  | [], m, _ => rfl
  | (n, u) :: r, m, h => by
    simp only [List.map_cons, List.mem_cons, not_or] at h
    unfold bindC
    rw [bindC_off h.2]
    split
    · rfl
    · exact if_neg h.1
theorem bindL_get {K : Str → Option NameKind} {x : Str} {v : Value} (hk : K x = some .local) : ∀ {bs : List (Str × Value)} {m : Str → Option Value}, (bs.map (·.1)).Nodup → (x, v) ∈ bs → bindL K bs m x = some v
  | (n, u) :: r, m, hn, h => by
    simp only [List.map_cons, List.nodup_cons] at hn
    unfold bindL
    rcases List.mem_cons.mp h with q | q
    · cases q
      rw [bindL_off hn.1, if_pos hk]; exact if_pos rfl
    · exact bindL_get hk hn.2 q
theorem bindC_get {K : Str → Option NameKind} {x : Str} {v : Value} (hk : K x ≠ some .local) : ∀ {bs : List (Str × Value)} {m : Str → Option Value}, (bs.map (·.1)).Nodup → (x, v) ∈ bs → bindC K bs m x = some v
  | (n, u) :: r, m, hn, h => by
    simp only [List.map_cons, List.nodup_cons] at hn
    unfold bindC
    rcases List.mem_cons.mp h with q | q
    · cases q
      rw [bindC_off hn.1, if_neg hk]; exact if_pos rfl
    · exact bindC_get hk hn.2 q
theorem cellsFrom_keep {x : Str} : ∀ {names : List (Str × NameKind)} {n : Nat} {acc : List (Str × Addr)}, (∃ c, acc.lookup x = some c) → ∃ c, (cellsFrom n names acc).lookup x = some c
  | [], _, acc, h => h
  | (m, k) :: r, n, acc, h => by
    unfold cellsFrom
    split
    · refine cellsFrom_keep ?_
      rw [List.lookup_cons]
      cases hz : x == m with
      | true => exact ⟨_, rfl⟩
      | false => exact h
    · exact cellsFrom_keep h
theorem cellsFrom_has {x : Str} : ∀ {names : List (Str × NameKind)} {n : Nat} {acc : List (Str × Addr)}, (x, NameKind.cell) ∈ names → ∃ c, (cellsFrom n names acc).lookup x = some c
  | (m, k) :: r, n, acc, h => by
    unfold cellsFrom
    rcases List.mem_cons.mp h with q | q
    · cases q
      rw [if_pos (show (NameKind.cell == NameKind.cell) = true from rfl)]
      exact cellsFrom_keep ⟨_, by rw [List.lookup_cons, beq_self_eq_true]⟩
    · split
      · exact cellsFrom_has q
      · exact cellsFrom_has q
theorem lookup_zip {ns : List String} {n : String} {v : V} : ∀ {vs : List V} {us : List Value} {h : Heap} {α : List Addr}, Rps X h α vs us → (ns.zip vs).lookup n = some v → ∃ u, (Str.ofString n, u) ∈ (ns.map Str.ofString).zip us ∧ Rp X h α v u := by
  induction ns with
  | nil => intro vs us h α _ e; simp at e
  | cons a r ih =>
    intro vs us h α rs e
    cases rs with
    | nil => simp at e
    | cons x y =>
      rw [List.zip_cons_cons, List.lookup_cons] at e
      cases q : n == a with
      | true =>
        rw [q] at e; cases e
        rw [eq_of_beq q]
        exact ⟨_, List.mem_cons_self, x⟩
      | false =>
        rw [q] at e
        obtain ⟨u, m, r'⟩ := ih y e
        exact ⟨u, List.mem_cons_of_mem _ m, r'⟩

theorem Room.deeper {A : Around} {env : Env} (h : Room A (lvl + 1)) : Room (A.deeper env) lvl := ⟨h.handled, by have := h.depth; show A.depth + 1 + lvl < _; omega, by have := h.units; show A.units + 3 + 8 * lvl < _; omega⟩

theorem runFun {name : Str} {params : Arguments} {body : List Stmt} {scope : Scope} {pm cd doc : Value} {a : Addr} {o : Obj} {ns : List String} {B : SDen} {A : Around} {s : Shared} {α : List Addr} {σ : Store} {vs : List V} {us : List Value} {v : V} {σ' : Store} {R : Result → Shared → Prop}
    (hB : SoundSs w lvl scope body B) (ho : s.heap.get? a = some o) (hd : o.data = .func (Calls.docDef name params body scope pm cd doc)) (hcd : s.heap.CodeRec cd name)
    (hbind : ∀ us : List Value, us.length = ns.length → bindArgs (Calls.docDef name params body scope pm cd doc) ⟨us, []⟩ = pure ((ns.map Str.ofString).zip us))
    (hns : ns.Nodup) (hks : ∀ n ∈ ns, scope.names.lookup (Str.ofString n) = some .local ∨ scope.names.lookup (Str.ofString n) = some .cell)
    (hR : Room A (lvl + 1)) (G : Gd w s.heap) (S : StR X s.heap α σ) (rs : Rps X s.heap α vs us) (ev : fCall ns B vs σ = some (v, σ')) (P : EPost X s α σ' v fun u s' => R (.ok (.ret u)) s')
    (hco : scope.isCoroutine = false := by rfl) (hgen : scope.isGenerator = false := by rfl) (hk : scope.kind = .function := by rfl) :
    codeAny (model Prg w) A (.call (.ref a) ⟨us, []⟩) R s := by
  unfold fCall at ev
  split at ev
  · rename_i hlen
    have hul : us.length = ns.length := by rw [← rs.length]; exact hlen
    have hlim : s.heap.NoLimit := by obtain ⟨_, _, _, _, T⟩ := G; exact Top.nolimit T
    have hnd : (((ns.map Str.ofString).zip us).map (·.1)).Nodup := by
      rw [List.map_fst_zip (by simp [hul])]
      exact List.Pairwise.map _ (fun a b h q => h (ofString_inj q)) hns
    have hmem : ∀ x ∈ (ns.map Str.ofString).zip us, ∃ n ∈ ns, x.1 = Str.ofString n := fun x hx => by
      have := (List.of_mem_zip (a := x.1) (b := x.2) hx).1
      obtain ⟨n, hn, e⟩ := List.mem_map.mp this
      exact ⟨n, hn, e.symm⟩
    have hkind : ∀ x ∈ (ns.map Str.ofString).zip us, scope.names.lookup x.1 = some .local ∨ (scope.names.lookup x.1 = some .cell ∧ ((cellsFrom (s.heap.objs.size + 1) scope.names []).lookup x.1).isSome = true) := fun x hx => by
      obtain ⟨n, hn, e⟩ := hmem x hx
      rw [e]
      rcases hks n hn with q | q
      · exact .inl q
      · obtain ⟨c, hc⟩ := cellsFrom_has (n := s.heap.objs.size + 1) (acc := []) (mem_of_lookup q)
        exact .inr ⟨q, by rw [hc]; rfl⟩
    refine call_cells (Nat.lt_of_le_of_lt (Nat.le_add_right _ _) hR.depth) ho hd hlim hcd (hbind us hul) hkind (fun h₁ tk F Xc => ?_) hco hgen hk
    generalize hL : s.heap.objs.size = L at *
    generalize hcs : cellsFrom (L + 1) scope.names [] = cs at *
    have k1 : Sub s.heap h₁ := F.keep
    have fresh : ∀ c, L ≤ c → s.heap.get? c = none := fun c hc => Heap.get?_none_of_le (by rw [hL]; exact hc)
    generalize hEnv : envOfC name scope L a cd = env at *
    have eL : env.locals = L := by rw [← hEnv]; rfl
    have eC : env.cells = cs := by rw [← hEnv]; exact hcs
    have eS : env.scope = scope := by rw [← hEnv]; rfl
    have hE : EnvOk env scope := ⟨eS, hk, by rw [← hEnv]; rfl, by rw [← hEnv]; rfl, fun x hx => by rw [eC, ← hcs]; exact cellsFrom_has (mem_of_lookup hx)⟩
    have H : Hold env scope true (cs.filterMap fun p => cs.lookup p.1) := by
      refine ⟨hE, fun _ x y c e1 e2 => ?_, fun _ x c e => ?_⟩
      · rw [eC] at e1 e2
        exact name_of_addr Xc.apart (mem_of_lookup e1) (mem_of_lookup e2)
      · rw [eC] at e
        exact List.mem_filterMap.mpr ⟨(x, c), mem_of_lookup e, e⟩
    have F0 : Frm X w env (cs.filterMap fun p => cs.lookup p.1) σ.length s.heap h₁ α (locOf ns vs) σ := by
      refine ⟨G, k1, by rw [eL]; exact fresh L (Nat.le_refl _), fun c hc => ?_, fun i b hi e => ?_, ?_, S.mono k1⟩
      · obtain ⟨p, _, e⟩ := List.mem_filterMap.mp hc
        exact ⟨fresh c (Nat.le_of_lt (Xc.above _ _ (mem_of_lookup e))), _, Xc.cell _ _ e⟩
      · rw [← S.len] at hi
        rw [List.getElem?_eq_none hi] at e; cases e
      · refine ⟨_, by rw [eL]; exact F.ns, fun x c e => ⟨_, Xc.cell x c (by rw [← eC]; exact e)⟩, fun n v e => ?_⟩
        obtain ⟨u, hm, r⟩ := lookup_zip rs e
        have r1 : Rp X h₁ α v u := by have := Rp.mono (β := []) k1 r; simpa using this
        obtain ⟨n', hn', e'⟩ := hmem _ hm
        have := ofString_inj e'
        subst this
        have hkd : env.kindOf (Str.ofString n) = scope.names.lookup (Str.ofString n) := by unfold Env.kindOf; rw [eS]
        rcases hks n hn' with q | q
        · exact .inl ⟨hkd.trans q, u, bindL_get (hkd.trans q) hnd hm, r1⟩
        · obtain ⟨c, hc⟩ := hE.cells _ q
          refine .inr ⟨hkd.trans q, c, u, hc, ?_, r1⟩
          have := Xc.cell _ c (by rw [← eC]; exact hc)
          rwa [bindC_get (by rw [hkd, q]; decide) hnd hm] at this
    have fin : ∀ {fl f h' tk' β ρ'}, Fresh h₁ β → Frm X w env (cs.filterMap fun p => cs.lookup p.1) σ.length s.heap h' (α ++ β) ρ' σ' → FlR X h' (α ++ β) fl f → (match fl with | .ret v' => v' | .next => V.none) = v → R (.ok (.ret (match f with | .ret v => v | _ => .none))) { s with heap := h', toks := tk' } := by
      intro fl f h' tk' β ρ' fr F' r e
      have fr' : Fresh s.heap β := fun b hb => k1.none (fr b hb)
      cases fl with
      | next => cases r; subst e; exact P .none h' tk' β F'.sub fr' F'.st .none
      | ret v' => obtain ⟨u, rfl, q⟩ := r; subst e; exact P u h' tk' β F'.sub fr' F'.st q
    split at ev
    · rename_i v' ρ' σ2 hb
      cases ev
      refine hB.run X env (A.deeper env) { s with heap := h₁, toks := tk } _ σ.length s.heap _ α σ (.ret v) ρ' σ' _ _ H hR.deeper F0 hb fun f h' tk' β k fr F' r => fin fr F' r rfl
    · rename_i ρ' σ2 hb
      cases ev
      refine hB.run X env (A.deeper env) { s with heap := h₁, toks := tk } _ σ.length s.heap _ α σ .next ρ' σ' _ _ H hR.deeper F0 hb fun f h' tk' β k fr F' r => fin fr F' r rfl
    · cases ev
  · cases ev

theorem fun_sound {f : Addr} {name : Str} {params : Arguments} {body : List Stmt} {scope : Scope} {pm cd doc : Value} {o : Obj} {B : SDen} (ns : List String)
    (ho : (Kf w).lookup f = some o) (hd : o.data = .func (Calls.docDef name params body scope pm cd doc)) (hcd : codeIn (Kf w) cd name = true)
    (hB : SoundSs w lvl scope body B)
    (hbind : ∀ us : List Value, us.length = ns.length → bindArgs (Calls.docDef name params body scope pm cd doc) ⟨us, []⟩ = pure ((ns.map Str.ofString).zip us))
    (hns : ns.Nodup) (hks : ∀ n ∈ ns, scope.names.lookup (Str.ofString n) = some .local ∨ scope.names.lookup (Str.ofString n) = some .cell)
    (hco : scope.isCoroutine = false := by rfl) (hgen : scope.isGenerator = false := by rfl) (hk : scope.kind = .function := by rfl) :
    SoundV w (lvl + 1) (fun us => call (.ref f) us) (fCall ns B) := by
  intro X A s α σ vs us v σ' Q E hR G S rs ev P
  refine wpAny_call (runFun hB (G.1 _ _ ho) hd (codeRec_of G.1 hcd) hbind hns hks hR G S rs ev ?_ hco hgen hk)
  exact P
/-- one new list for an answer: what was made by the way is forgotten -/
noncomputable def fNeat (f : Fn) : Fn := fun vs σ => match f vs σ with
  | some (.lst i, σ') => (match σ'[i]? with
    | some xs => if σ.length ≤ i ∧ xs.all V.flat = true then some (.lst σ.length, σ ++ [xs]) else none
    | none => none)
  | _ => none
theorem SoundV.neat {t : List Value → Sem Value} {f : Fn} (h : SoundV w lvl t f) : SoundV w lvl t (fNeat f) := by
  intro X A s α σ vs us v σ' Q E hR G S rs ev P
  unfold fNeat at ev
  split at ev
  · rename_i i σ1 h1
    split at ev
    · rename_i xs hx
      split at ev
      · rename_i hc
        cases ev
        refine h X A s α σ vs us (.lst i) σ1 Q E hR G S rs h1 ?_
        intro u h' tk' β k fr S1 r
        cases r with
        | lst ea =>
          rename_i a
          rw [List.getElem?_append_right (by rw [S.len]; exact hc.1)] at ea
          have hb := fr a (List.mem_of_getElem? ea)
          obtain ⟨a', us', e1, p, rr⟩ := S1.get i xs hx
          rw [List.getElem?_append_right (by rw [S.len]; exact hc.1), ea] at e1
          cases e1
          have S2 := S.add (a := a) (vs := xs) (us := us') k hb p (Rps.flat hc.2 rr) (S1.cap xs (List.mem_of_getElem? hx))
          refine P (.ref a) h' tk' [a] k (fun b q => by rw [List.mem_singleton.mp q]; exact hb) S2 (.lst ?_)
          rw [List.getElem?_append_right (by rw [S.len]; exact Nat.le_refl _), S.len, Nat.sub_self]; rfl
      · cases ev
    · cases ev
  · cases ev
/-- a call seen with no more lists than its arguments reach: they hold no lists themselves -/
theorem SoundV.smallAt {t : List Value → Sem Value} {f : Fn} (h : SoundV w lvl t f) {A : Around} {s : Shared} {α : List Addr} {σ σs : Store} {vs vs' : List V} {us : List Value} {v : V} {σ' : Store} {Q E : Value → Shared → Prop}
    (idx : List Nat) (hi : idx.Nodup) (hlen : σs.length = idx.length) (hs : ∀ (p i : Nat), idx[p]? = some i → σ[i]? = σs[p]?) (sol : ∀ xs ∈ σs, xs.all V.solid = true)
    (ren : ∀ α', (∀ (p i : Nat) a, idx[p]? = some i → α[i]? = some a → α'[p]? = some a) → Rps X s.heap α vs us → Rps X s.heap α' vs' us)
    (hR : Room A lvl) (G : Gd w s.heap) (S : StR X s.heap α σ) (rs : Rps X s.heap α vs us) (ev : f vs' σs = some (v, σ')) (P : ∀ α' : List Addr, α'.length = σs.length → EPost X s α' σ' v Q) :
    wpAny (model Prg w) A (t us) Q E s := by
  have hin : ∀ p i, idx[p]? = some i → i < α.length := fun p i e => by
    have h1 := hs p i e
    have hp : p < σs.length := by rw [hlen]; exact (List.getElem?_eq_some_iff.mp e).1
    rw [List.getElem?_eq_getElem hp] at h1
    rw [S.len]; exact (List.getElem?_eq_some_iff.mp h1).1
  have solids : ∀ {xs : List V} {α' : List Addr} {us : List Value}, xs.all V.solid = true → Rps X s.heap α xs us → Rps X s.heap α' xs us := by
    intro xs
    induction xs with
    | nil => intro α' us e r; cases r; exact .nil
    | cons x xs ih =>
      intro α' us e r
      simp only [List.all_cons, Bool.and_eq_true] at e
      cases r with
      | cons a b => exact .cons (a.solid e.1) (ih e.2 b)
  let α' := idx.map fun i => α[i]?.getD 0
  have hα : ∀ p i, idx[p]? = some i → ∃ a, α[i]? = some a ∧ α'[p]? = some a := fun p i e => by
    refine ⟨α[i]'(hin p i e), List.getElem?_eq_getElem _, ?_⟩
    show (idx.map fun i => α[i]?.getD 0)[p]? = _
    rw [List.getElem?_map, e, Option.map_some, List.getElem?_eq_getElem (hin p i e)]; rfl
  have hl' : α'.length = σs.length := by show (idx.map _).length = _; rw [List.length_map, hlen]
  have S' : StR X s.heap α' σs := by
    refine ⟨hl', ?_, fun p xs e => ?_, fun xs hx => ?_, S.live⟩
    · refine List.pairwise_map.mpr (List.Pairwise.imp_of_mem (fun {i j} hi' hj' hne he => ?_) hi)
      obtain ⟨p, ep⟩ := List.getElem?_of_mem hi'
      obtain ⟨q, eq⟩ := List.getElem?_of_mem hj'
      rw [List.getElem?_eq_getElem (hin p i ep), List.getElem?_eq_getElem (hin q j eq)] at he
      have he' : α[i]'(hin p i ep) = α[j]'(hin q j eq) := he
      refine hne ((List.getElem?_inj (hin p i ep) S.nodup).mp ?_)
      rw [List.getElem?_eq_getElem (hin p i ep), List.getElem?_eq_getElem (hin q j eq), he']
    · have hp : p < idx.length := by rw [← hlen]; exact (List.getElem?_eq_some_iff.mp e).1
      have e1 := hs p _ (List.getElem?_eq_getElem hp)
      obtain ⟨a, us, ea, pl, r⟩ := S.get _ xs (e1.trans e)
      obtain ⟨b, eb, eb'⟩ := hα p _ (List.getElem?_eq_getElem hp)
      rw [ea] at eb; cases eb
      exact ⟨a, us, eb', pl, solids (sol xs (List.mem_of_getElem? e)) r⟩
    · obtain ⟨p, e⟩ := List.getElem?_of_mem hx
      have hp : p < idx.length := by rw [← hlen]; exact (List.getElem?_eq_some_iff.mp e).1
      exact S.cap xs (List.mem_of_getElem? ((hs p _ (List.getElem?_eq_getElem hp)).trans e))
  refine h X A s α' σs vs' us v σ' Q E hR G S' (ren α' (fun p i a e1 e2 => ?_) rs) ev (P α' hl')
  obtain ⟨b, eb, eb'⟩ := hα p i e1
  rw [e2] at eb; cases eb; exact eb'

/-- what a small call answers, if it is no list -/
noncomputable def fS (f : Fn) (vs' : List V) (σs σ : Store) : Option (V × Store) :=
  if σs.all (fun xs => xs.all V.solid) = true then (match f vs' σs with
    | some (v, _) => if v.flat = true then some (v, σ) else none
    | none => none) else none
theorem fS_inv {f : Fn} {vs' : List V} {σs σ σ' : Store} {v : V} (h : fS f vs' σs σ = some (v, σ')) : (∀ xs ∈ σs, xs.all V.solid = true) ∧ v.flat = true ∧ σ' = σ ∧ ∃ σ1, f vs' σs = some (v, σ1) := by
  unfold fS at h
  split at h
  · rename_i hs
    split at h
    · rename_i v1 σ1 h1
      split at h
      · rename_i hv
        cases h
        exact ⟨fun xs hx => by have := List.all_eq_true.mp hs xs hx; exact this, hv, rfl, σ1, h1⟩
      · cases h
    · cases h
  · cases h
theorem SoundV.smallF {t : List Value → Sem Value} {f : Fn} (h : SoundV w lvl t f) {A : Around} {s : Shared} {α : List Addr} {σ σs : Store} {vs vs' : List V} {us : List Value} {v : V} {σ' : Store} {Q E : Value → Shared → Prop}
    (idx : List Nat) (hi : idx.Nodup) (hlen : σs.length = idx.length) (hs : ∀ (p i : Nat), idx[p]? = some i → σ[i]? = σs[p]?)
    (ren : ∀ α', (∀ (p i : Nat) a, idx[p]? = some i → α[i]? = some a → α'[p]? = some a) → Rps X s.heap α vs us → Rps X s.heap α' vs' us)
    (hR : Room A lvl) (G : Gd w s.heap) (S : StR X s.heap α σ) (rs : Rps X s.heap α vs us) (ev : fS f vs' σs σ = some (v, σ')) (P : EPost X s α σ' v Q) :
    wpAny (model Prg w) A (t us) Q E s := by
  obtain ⟨sol, hv, rfl, σ1, h1⟩ := fS_inv ev
  refine h.smallAt idx hi hlen hs sol ren hR G S rs h1 fun α' _ => ?_
  intro u h' tk' β k fr S1 r
  exact P.heap k S (r.flat hv)
end Mine
end

section
open PySem PySem.W PyProof.Rows PySem.Calls
set_option Elab.async false
set_option autoImplicit false
namespace Mine
variable {w : World} {lvl : Nat} {sc : Scope}

theorem E_gint {n : String} {pos : Pos} {i : Int} {t : Tok} (hx : sc.names.lookup (Str.ofString n) = some .globalImplicit) (hn : nsIn (Kf w) mainGlobals (Str.ofString n) = some (some (.int i t)))
    (hdb : (Str.ofString n == ("__debug__" : Str)) = false := by decide) : SoundE w lvl sc (.Name (Str.ofString n) pos) (fun _ σ => some (.int i, σ)) := by
  refine SoundE.mk ?_
  intro X env A s ρ α σ v σ' Q E hE hR G R S ev P
  cases ev
  exact global hE G hx hn hdb (P.same (tk := s.toks) S (.int _ _))
theorem E_index {o e : Expr} {apos pos : Pos} {D : Den} {Ds : List Den} (hO : SoundE w lvl sc o D) (hA : SoundA w lvl sc [e] Ds)
    (he : ∀ env, starEach [e] env = (false, eval e env) :: starEach [] env := by exact fun env => star_of rfl env)
    (hbase : ∀ env, attributeBase o "index" env (eval o env) = eval o env := by intro _; rfl)
    (hfew : ∀ env, ((backTo pos (starEach [e] env)).all (fun x => !x.1) && (backToKw pos (keywordEach [] env)).all (fun x => x.1.isSome)
      && decide ([e].length + ([] : List Keyword).length + (if ([] : List Keyword).isEmpty then 0 else 1) < 30)) = true := by intro _; rfl)
    (hpl : ∀ env, (backTo pos (starEach [e] env)).any (·.1) = false := by exact fun env => plain_of rfl env)
    (hline : (apos.endLine == pos.line) = true := by rfl) :
    SoundE w lvl sc (.Call (.Attribute o "index" apos) [e] [] pos) (dFlat (dApp (f2 gIndex) (D :: Ds))) :=
  E_meth hO hA B_index PySem.F.plainAttrs_str PySem.F.slot_str_index PySem.F.type_str_index (.inl rfl)
    (fun v vs σ r h => by
      match vs, h with
      | [y], h =>
        simp only [f2] at h
        cases v <;> cases y <;> first | rfl | (simp [gIndex] at h)
      | [], h => cases h
      | _ :: _ :: _, h => cases h)
    (.inr ⟨e, [], rfl, he⟩) hbase hfew hpl hline

/-- the leaves: one return -/
noncomputable def o2 (g : Int → Int → V) : Fn := fun vs σ => match vs with
  | [.int x, .int y] => some (g x y, σ)
  | _ => none
noncomputable def o1 (g : Int → V) : Fn := fun vs σ => match vs with
  | [.int x] => some (g x, σ)
  | _ => none
theorem bind2 {name : Str} {params : Arguments} {body : List Stmt} {scope : Scope} {pm cd doc : Value} {a b : String}
    (h : ∀ x y, bindArgs (Calls.docDef name params body scope pm cd doc) ⟨[x, y], []⟩ = pure [(Str.ofString a, x), (Str.ofString b, y)]) :
    ∀ us : List Value, us.length = [a, b].length → bindArgs (Calls.docDef name params body scope pm cd doc) ⟨us, []⟩ = pure (([a, b].map Str.ofString).zip us) := by
  intro us hu
  match us, hu with
  | [x, y], _ => exact h x y
theorem bind1 {name : Str} {params : Arguments} {body : List Stmt} {scope : Scope} {pm cd doc : Value} {a : String}
    (h : ∀ x, bindArgs (Calls.docDef name params body scope pm cd doc) ⟨[x], []⟩ = pure [(Str.ofString a, x)]) :
    ∀ us : List Value, us.length = [a].length → bindArgs (Calls.docDef name params body scope pm cd doc) ⟨us, []⟩ = pure (([a].map Str.ofString).zip us) := by
  intro us hu
  match us, hu with
  | [x], _ => exact h x
theorem bind3 {name : Str} {params : Arguments} {body : List Stmt} {scope : Scope} {pm cd doc : Value} {a b c : String}
    (h : ∀ x y z, bindArgs (Calls.docDef name params body scope pm cd doc) ⟨[x, y, z], []⟩ = pure [(Str.ofString a, x), (Str.ofString b, y), (Str.ofString c, z)]) :
    ∀ us : List Value, us.length = [a, b, c].length → bindArgs (Calls.docDef name params body scope pm cd doc) ⟨us, []⟩ = pure (([a, b, c].map Str.ofString).zip us) := by
  intro us hu
  match us, hu with
  | [x, y, z], _ => exact h x y z
theorem o2_spec {g : Int → Int → V} {f : Fn} (h : ∀ x y σ, f [.int x, .int y] σ = some (g x y, σ)) : ∀ vs σ r, o2 g vs σ = some r → f vs σ = some r := by
  intro vs σ r e
  unfold o2 at e
  split at e
  · cases e; exact h _ _ _
  · cases e
theorem o1_spec {g : Int → V} {f : Fn} (h : ∀ x σ, f [.int x] σ = some (g x, σ)) : ∀ vs σ r, o1 g vs σ = some r → f vs σ = some r := by
  intro vs σ r e
  unfold o1 at e
  split at e
  · cases e; exact h _ _
  · cases e

noncomputable abbrev K_lt : Fn := o2 fun a b => .bool (decide (a < b))
noncomputable abbrev K_le : Fn := o2 fun a b => .bool (decide (a ≤ b))
noncomputable abbrev K_ge : Fn := o2 fun a b => .bool (decide (b ≤ a))
noncomputable abbrev K_gt : Fn := o2 fun a b => .bool (decide (b < a))
noncomputable abbrev K_add : Fn := o2 fun a b => .int (a + b)
noncomputable abbrev K_and : Fn := o2 fun a b => .int (Builtin.bitAnd a b)
noncomputable abbrev K_or : Fn := o2 fun a b => .int (Builtin.bitOr a b)
noncomputable abbrev K_inv : Fn := o1 fun a => .int (Builtin.bitNot a)
noncomputable abbrev K_ISEOF : Fn := o1 fun a => .bool (decide (a = 0))
noncomputable abbrev K_ISNONTERMINAL : Fn := o1 fun a => .bool (decide (256 ≤ a))
theorem F_lt : SoundV w (lvl + 1) (fun us => call (.ref 45) us) K_lt :=
  (fun_sound ["a", "b"] rfl rfl rfl (Ss_cons (S_ret (E_cmp (E_name (n := "a")) (E_name (n := "b")) C_lt)) Ss_nil) (bind2 fun _ _ => rfl) (by decide) (by decide)).mono (o2_spec fun _ _ _ => rfl)
theorem F_le : SoundV w (lvl + 1) (fun us => call (.ref 52) us) K_le :=
  (fun_sound ["a", "b"] rfl rfl rfl (Ss_cons (S_ret (E_cmp (E_name (n := "a")) (E_name (n := "b")) C_le)) Ss_nil) (bind2 fun _ _ => rfl) (by decide) (by decide)).mono (o2_spec fun _ _ _ => rfl)
theorem F_ge : SoundV w (lvl + 1) (fun us => call (.ref 59) us) K_ge :=
  (fun_sound ["a", "b"] rfl rfl rfl (Ss_cons (S_ret (E_cmp (E_name (n := "a")) (E_name (n := "b")) C_ge)) Ss_nil) (bind2 fun _ _ => rfl) (by decide) (by decide)).mono (o2_spec fun _ _ _ => rfl)
theorem F_gt : SoundV w (lvl + 1) (fun us => call (.ref 66) us) K_gt :=
  (fun_sound ["a", "b"] rfl rfl rfl (Ss_cons (S_ret (E_cmp (E_name (n := "a")) (E_name (n := "b")) C_gt)) Ss_nil) (bind2 fun _ _ => rfl) (by decide) (by decide)).mono (o2_spec fun _ _ _ => rfl)
theorem F_add : SoundV w (lvl + 1) (fun us => call (.ref 73) us) K_add :=
  (fun_sound ["a", "b"] rfl rfl rfl (Ss_cons (S_ret (E_bin (E_name (n := "a")) (E_name (n := "b")) O_add)) Ss_nil) (bind2 fun _ _ => rfl) (by decide) (by decide)).mono (o2_spec fun _ _ _ => rfl)
theorem F_and : SoundV w (lvl + 1) (fun us => call (.ref 80) us) K_and :=
  (fun_sound ["a", "b"] rfl rfl rfl (Ss_cons (S_ret (E_bin (E_name (n := "a")) (E_name (n := "b")) O_and)) Ss_nil) (bind2 fun _ _ => rfl) (by decide) (by decide)).mono (o2_spec fun _ _ _ => rfl)
theorem F_or : SoundV w (lvl + 1) (fun us => call (.ref 101) us) K_or :=
  (fun_sound ["a", "b"] rfl rfl rfl (Ss_cons (S_ret (E_bin (E_name (n := "a")) (E_name (n := "b")) O_or)) Ss_nil) (bind2 fun _ _ => rfl) (by decide) (by decide)).mono (o2_spec fun _ _ _ => rfl)
theorem F_inv : SoundV w (lvl + 1) (fun us => call (.ref 87) us) K_inv :=
  (fun_sound ["a"] rfl rfl rfl (Ss_cons (S_ret (E_un (E_name (n := "a")) O_inv)) Ss_nil) (bind1 fun _ => rfl) (by decide) (by decide)).mono (o1_spec fun _ _ => rfl)
theorem F_ISEOF : SoundV w (lvl + 1) (fun us => call (.ref 31) us) K_ISEOF :=
  (fun_sound ["x"] rfl rfl rfl (Ss_cons (S_ret (E_cmp (E_name (n := "x")) (E_gint (n := "ENDMARKER") rfl rfl) C_eq)) Ss_nil) (bind1 fun _ => rfl) (by decide) (by decide)).mono (o1_spec fun _ _ => rfl)
theorem F_ISNONTERMINAL : SoundV w (lvl + 1) (fun us => call (.ref 24) us) K_ISNONTERMINAL :=
  (fun_sound ["x"] rfl rfl rfl (Ss_cons (S_ret (E_cmp (E_name (n := "x")) (E_gint (n := "NT_OFFSET") rfl rfl) C_ge)) Ss_nil) (bind1 fun _ => rfl) (by decide) (by decide)).mono (o1_spec fun _ _ => rfl)
noncomputable def K_mul : Fn := fun vs σ => match vs with
  | [.int x, .int y] => if y.natAbs < 2 ^ 62 then some (.int (x * y), σ) else none
  | _ => none
theorem F_mul : SoundV w (lvl + 1) (fun us => call (.ref 94) us) K_mul := by
  refine (fun_sound ["a", "b"] rfl rfl rfl (Ss_cons (S_ret (E_bin (E_name (n := "a")) (E_name (n := "b")) O_mul)) Ss_nil) (bind2 fun _ _ => rfl) (by decide) (by decide)).mono ?_
  intro vs σ r e
  unfold K_mul at e
  split at e
  · rename_i x y
    split at e
    · rename_i h
      cases e
      simp [fCall, sSeq, sRet, d2, dName, locOf, List.lookup, fMul, f2, int2, gMul, h]
    · cases e
  · cases e
end Mine
end

section
open PySem PySem.W PyProof.Rows PySem.Calls Builtin
set_option Elab.async false
set_option autoImplicit false
namespace Mine
variable {w : World} {lvl : Nat} {sc : Scope}
theorem decode_nil (t : Tok) : «bytes.decode» ⟨[.bytes #[] t], []⟩ = (rule "bytes.decode.empty" >>= fun _ => retStr Str.empty) := by kernel_rfl
theorem decLoop {n : Nat} {l : List UInt8} {f : Nat → Nat × Array Nat × _codecs.Faults → Sem (ForInStep (Nat × Array Nat × _codecs.Faults))} (hn : l.length = n) (hf : ∀ x p (out : Array Nat) st, p < n → out.size = p → ∀ b, l[p]? = some b → f x (p, out, st) = pure (.yield (p + 1, out ++ #[b.toNat], st))) :
    ∀ (k s p : Nat) (out : Array Nat) (st : _codecs.Faults), p + k = n → out.toList = (l.take p).map (·.toNat) → forIn (List.range' s k) (p, out, st) f = pure (n, (l.map (·.toNat)).toArray, st)
  | 0, s, p, out, st, e, ho => by
    have : p = n := by omega
    subst this
    rw [List.take_of_length_le (by omega)] at ho
    have : out = (l.map (·.toNat)).toArray := by rw [← ho]
    subst this; rfl
  | k + 1, s, p, out, st, e, ho => by
    have hp : p < l.length := by omega
    have hs : out.size = p := by
      rw [← Array.length_toList, ho]; simp; omega
    rw [List.range'_succ, List.forIn_cons, hf s p out st (by omega) hs l[p] (List.getElem?_eq_getElem hp), pure_bind]
    refine decLoop hn hf k _ (p + 1) _ st (by omega) ?_
    rw [List.take_succ_eq_append_getElem hp, List.map_append, Array.toList_append, ho]; rfl
theorem dec (id : String) (l : List UInt8) (h : ∀ b ∈ l, b.toNat < 128) (hl : l.length ≤ 4096) : _codecs.runDecoder id _codecs.utf8Decoder none true l.toArray 0 [] = pure ((l.map (·.toNat)).toArray, l.length) := by
  unfold _codecs.runDecoder
  simp only [Std.Legacy.Range.forIn_eq_forIn_range']
  rw [decLoop (n := l.length) (l := l) rfl ?_ _ 0 0 #[] _ (by simp [Std.Legacy.Range.size]) (by simp)]
  · rfl
  · intro x p out st hp hs b hb
    have hb128 := h b (List.mem_of_getElem? hb)
    have e0 : l.toArray.getD p 0 = b := by
      have := List.getElem?_eq_some_iff.mp hb
      obtain ⟨h1, h2⟩ := this
      simp [Array.getD, h1, h2]
    have e1 : Bytes.utf8At l.toArray p = (.char b.toNat, p + 1) := by
      unfold Bytes.utf8At
      dsimp only
      rw [e0, if_pos hb128]
    have e2 : _codecs.utf8Decoder.find true l.toArray p = .char b.toNat (p + 1) := by
      delta _codecs.utf8Decoder
      simp only [e1]
    dsimp only
    rw [if_neg (by rw [sizeLine_is]; omega), if_neg (by simp; omega), e2]
    rfl
theorem meets_nil (t : Tok) : Meets («bytes.decode» ⟨[.bytes #[] t], []⟩) (fun _ R s => ∀ t' k, R (.ok (.ret (.str ⟨#[]⟩ t'))) { s with toks := k }) := by
  refine .of_wp fun prog w A R s h => ?_
  rw [decode_nil]
  refine wpAny_bind (wpAny_rule ?_)
  show wpAny _ _ (mkStr Str.empty >>= fun v => ret v) _ _ s
  refine wpAny_bind (wpAny_mkStr ?_ (by decide))
  exact wpAny_pure ⟨_, rfl, h _ _⟩
noncomputable def gDecode : V → Option V
  | .bytes b => if b.size ≤ 4096 ∧ b.toList.all (fun x => decide (x.toNat < 128)) = true then some (.str ⟨(b.toList.map (·.toNat)).toArray⟩) else none
  | _ => none
theorem B_decode : SoundV w lvl (fun us => call (.builtin "bytes.decode") us) (f1 gDecode) :=
  V_flat1 fun X A s h₀ α a v u1 Q E hR r hf hQ => by
    cases r <;> first | (cases hf; done) | skip
    rename_i b t
    unfold gDecode at hf
    dsimp only at hf
    split at hf
    · rename_i hc
      cases hf
      obtain ⟨l⟩ := b
      have hall : ∀ b ∈ l, b.toNat < 128 := by simpa using hc.2
      have hlen : l.length ≤ 4096 := by simpa using hc.1
      cases l with
      | nil =>
        refine call_meets FB.slot_bytes_decode (typeIs_bytes _ _ _) FB.entry_bytes_decode (FB.args_bytes_decode_1 _) (meets_nil t) ?_
        intro t' k
        exact hQ _ _ fun _ _ _ => .str _ _
      | cons c cs =>
        refine KBd.decode (x := ⟨((c :: cs).map (·.toNat)).toArray⟩) (n := (c :: cs).length) (fun id => dec id _ hall hlen) (by show ((c :: cs).map (·.toNat)).toArray.size ≤ _; simp only [List.size_toArray, List.length_map]; omega) (fun t' k => hQ _ _ fun _ _ _ => .str _ _)
    · cases hf
theorem E_decode {o : Expr} {apos pos : Pos} {D : Den} (hO : SoundE w lvl sc o D)
    (hbase : ∀ env, attributeBase o "decode" env (eval o env) = eval o env := by intro _; rfl)
    (hfew : ∀ env, ((backTo pos (starEach [] env)).all (fun x => !x.1) && (backToKw pos (keywordEach [] env)).all (fun x => x.1.isSome)
      && decide (([] : List Expr).length + ([] : List Keyword).length + (if ([] : List Keyword).isEmpty then 0 else 1) < 30)) = true := by intro _; rfl)
    (hpl : ∀ env, (backTo pos (starEach [] env)).any (·.1) = false := by exact fun env => plain_of rfl env)
    (hline : (apos.endLine == pos.line) = true := by rfl) :
    SoundE w lvl sc (.Call (.Attribute o "decode" apos) [] [] pos) (dFlat (dApp (f1 gDecode) [D])) :=
  E_meth hO SoundA.nil B_decode FB.plainAttrs_bytes FB.slot_bytes_decode FB.type_bytes_decode (.inr rfl)
    (fun v vs σ r h => by
      match vs, h with
      | [], h =>
        simp only [f1] at h
        cases v <;> first | rfl | (simp [gDecode] at h)
      | _ :: _, h => cases h)
    (.inl rfl) hbase hfew hpl hline
end Mine
end

section
open PySem PySem.W PyProof.Rows PySem.Calls
set_option Elab.async false
set_option autoImplicit false
set_option maxRecDepth 10000
namespace Mine
noncomputable abbrev dInt (i : Int) : Den := fun _ σ => some (.int i, σ)
noncomputable abbrev dBool (b : Bool) : Den := fun _ σ => some (.bool b, σ)
noncomputable abbrev dStr (x : String) : Den := fun _ σ => some (.str (Str.ofString x), σ)
noncomputable abbrev dBytes (x : List UInt8) : Den := fun _ σ => some (.bytes x.toArray, σ)
noncomputable abbrev cLt : Fn := f2 (int2 fun a b => some (.bool (decide (a < b))))
noncomputable abbrev cLe : Fn := f2 (int2 fun a b => some (.bool (decide (a ≤ b))))
noncomputable abbrev cGt : Fn := f2 (int2 fun a b => some (.bool (decide (b < a))))
noncomputable abbrev cGe : Fn := f2 (int2 fun a b => some (.bool (decide (b ≤ a))))
noncomputable def with1 (i : Nat) (σ : Store) (k : List V → Option (V × Store)) : Option (V × Store) := match σ[i]? with
  | some xs => k xs
  | none => none
noncomputable def with2 (i j : Nat) (σ : Store) (k : List V → List V → Option (V × Store)) : Option (V × Store) := if i = j then none else match σ[i]?, σ[j]? with
  | some xs, some ys => k xs ys
  | _, _ => none
theorem with1_inv {i : Nat} {σ : Store} {k : List V → Option (V × Store)} {r : V × Store} (h : with1 i σ k = some r) : ∃ xs, σ[i]? = some xs ∧ k xs = some r := by
  unfold with1 at h
  split at h
  · exact ⟨_, ‹_›, h⟩
  · cases h
theorem with2_inv {i j : Nat} {σ : Store} {k : List V → List V → Option (V × Store)} {r : V × Store} (h : with2 i j σ k = some r) : i ≠ j ∧ ∃ xs ys, σ[i]? = some xs ∧ σ[j]? = some ys ∧ k xs ys = some r := by
  unfold with2 at h
  split at h
  · cases h
  · rename_i hn
    split at h
    · exact ⟨hn, _, _, ‹_›, ‹_›, h⟩
    · cases h
noncomputable def D_Int2AP0 : SDen := (sSet "val" (mOf (dBytes [])))
noncomputable def D_Int2AP1 : SDen := (sSet "AP" (mOf (dBytes [65, 66, 67, 68, 69, 70, 71, 72, 73, 74, 75, 76, 77, 78, 79, 80])))
noncomputable def D_Int2AP2 : SDen := (sSet "num" (mOf (dFlat (dApp (f1 gInt) [(dFlat (dApp (f1 gAbs) [(dName "num")]))]))))
noncomputable def D_Int2AP3 : SDen := (sWhile 32 (dTruth (dName "num")) (sSeq (sUnpack (tTup [(tName "num"), (tName "mod")]) (dFlat (dApp fDivmod [(dName "num"), (dInt 16)]))) (sSeq (sSet "val" (mOf (d2 fAdd (dSliceB (dName "AP") (some (dName "mod")) (some (d2 fAdd (dName "mod") (dInt 1)))) (dName "val")))) sDone)))
noncomputable def D_Int2AP4 : SDen := (sRet (dName "val"))
noncomputable def D_Int2AP : SDen := (sSeq D_Int2AP0 (sSeq D_Int2AP1 (sSeq D_Int2AP2 (sSeq D_Int2AP3 (sSeq D_Int2AP4 sDone)))))
noncomputable def R_Int2AP : Fn := fFlat (fCall ["num"] D_Int2AP)
noncomputable def K_Int2AP : Fn := fun vs σ => match vs with
  | [.int n] => fS R_Int2AP [.int n] [] σ
  | _ => none
noncomputable def D_formula0 : SDen := (sSet "names" (mOf (dComp (dRange (dInt 4)) ["low", "count", "cell"] (tName "k") tYes (d2 fAdd (dName "low") (d2 (f2 (int2 gMod)) (d2 (f2 (int2 gMod)) (d2 (f2 (int2 gDiv)) (dName "cell") (d2 (f2 (int2 gPow)) (dInt 4) (dName "k"))) (dInt 4)) (dName "count"))))))
noncomputable def D_formula1 : SDen := (sSet "signs" (mOf (dComp (dRange (dInt 3)) ["cell"] (tName "k") tYes (dFlat (d2 fItem (dStr "&|") (d2 (f2 (int2 gMod)) (d2 (f2 (int2 gDiv)) (d2 (f2 (int2 gDiv)) (dName "cell") (dInt 256)) (d2 (f2 (int2 gPow)) (dInt 2) (dName "k"))) (dInt 2)))))))
noncomputable def D_formula2 : SDen := (sUnpack (tTup [(tName "first"), (tName "last")]) (dFlat (d2 fItem (dTup [(dTup [(dInt 4), (dInt 4)]), (dTup [(dInt 0), (dInt 1)]), (dTup [(dInt 1), (dInt 2)]), (dTup [(dInt 2), (dInt 3)]), (dTup [(dInt 0), (dInt 2)]), (dTup [(dInt 1), (dInt 3)])]) (d2 (f2 (int2 gMod)) (d2 (f2 (int2 gDiv)) (dName "cell") (dInt 2048)) (dInt 6)))))
noncomputable def D_formula3 : SDen := (sRet (dTup [(dName "names"), (dName "signs"), (dName "first"), (dName "last")]))
noncomputable def D_formula : SDen := (sSeq D_formula0 (sSeq D_formula1 (sSeq D_formula2 (sSeq D_formula3 sDone))))
noncomputable def R_formula : Fn := (fCall ["cell", "low", "count"] D_formula)
noncomputable abbrev K_formula : Fn := R_formula
noncomputable def D_text0 : SDen := (sUnpack (tTup [(tName "names"), (tName "signs"), (tName "first"), (tName "last")]) (dName "formula"))
noncomputable def D_text1 : SDen := (sSet "text" (mOf (dStr "")))
noncomputable def D_text2 : SDen := (sFor (dRange (dInt 4)) (tName "k") (sSeq (sSet "text" (mOf (d2 fAdd (d2 fAdd (d2 fAdd (dName "text") (dIf (t2 (f2 gEq) (dName "k") (dName "first")) (dStr "(") (dStr ""))) (dFlat (d2 fItem (dStr "wxyz") (dFlat (d2 fItem (dName "names") (dName "k")))))) (dIf (t2 (f2 gEq) (dName "k") (dName "last")) (dStr ")") (dStr ""))))) (sSeq (sSet "text" (mOf (d2 fAdd (dName "text") (dFlat (d2 fItem (d2 fAdd (dName "signs") (dList [(dStr "")])) (dName "k")))))) sDone)))
noncomputable def D_text3 : SDen := (sRet (dName "text"))
noncomputable def D_text : SDen := (sSeq D_text0 (sSeq D_text1 (sSeq D_text2 (sSeq D_text3 sDone))))
noncomputable def R_text : Fn := fFlat (fCall ["formula"] D_text)
noncomputable def K_text : Fn := fun vs σ => match vs with
  | [.tup [.lst i, .lst j, .int a, .int b]] => with2 i j σ fun xs ys => fS R_text [.tup [.lst 0, .lst 1, .int a, .int b]] [xs, ys] σ
  | _ => none
noncomputable def D_flat0 : SDen := (sSet "groups" (mOf (dList [(dList [(dFlat (d2 fItem (dName "values") (dInt 0)))])])))
noncomputable def D_flat1 : SDen := (sFor (dRange (dFlat (dApp (onList gLen) [(dName "signs")]))) (tName "k") (sSeq (sIf (t2 (f2 gEq) (dFlat (d2 fItem (dName "signs") (dName "k"))) (dStr "|")) (sSeq (sDrop (mApp (dName "groups") (mOf (dList [])))) sDone) sDone) (sSeq (sDrop (mApp (dFlat (d2 fItem (dName "groups") (d1 (f1 gNeg) (dInt 1)))) (mOf (dFlat (d2 fItem (dName "values") (d2 fAdd (dName "k") (dInt 1))))))) sDone)))
noncomputable def D_flat2 : SDen := (sRet (dFlat (dApp (onList gMax) [(dComp (dIter (dName "groups")) [] (tName "group") tYes (dFlat (dApp (onList gMin) [(dName "group")])))])))
noncomputable def D_flat : SDen := (sSeq D_flat0 (sSeq D_flat1 (sSeq D_flat2 sDone)))
noncomputable def R_flat : Fn := fFlat (fCall ["values", "signs"] D_flat)
noncomputable def K_flat : Fn := fun vs σ => match vs with
  | [.lst i, .lst j] => with2 i j σ fun xs ys => fS R_flat [.lst 0, .lst 1] [xs, ys] σ
  | _ => none
noncomputable def D_truth0 : SDen := (sUnpack (tTup [(tName "names"), (tName "signs"), (tName "first"), (tName "last")]) (dName "formula"))
noncomputable def D_truth1 : SDen := (sSet "values" (mOf (dComp (dIter (dName "names")) ["c"] (tName "name") tYes (d2 (f2 (int2 gMod)) (d2 (f2 (int2 gDiv)) (dName "c") (d2 (f2 (int2 gPow)) (dInt 2) (dName "name"))) (dInt 2)))))
noncomputable def D_truth2 : SDen := (sIf (t2 (f2 gEq) (dName "first") (dInt 4)) (sSeq (sRet (dFlat (dApp K_flat [(dName "values"), (dName "signs")]))) sDone) sDone)
noncomputable def D_truth3 : SDen := (sSet "inner" (mOf (dFlat (dApp K_flat [(dSliceL (dName "values") (some (dName "first")) (some (d2 fAdd (dName "last") (dInt 1)))), (dSliceL (dName "signs") (some (dName "first")) (some (dName "last")))]))))
noncomputable def D_truth4 : SDen := (sRet (dFlat (dApp K_flat [(d2 fAdd (d2 fAdd (dSliceL (dName "values") none (some (dName "first"))) (dList [(dName "inner")])) (dSliceL (dName "values") (some (d2 fAdd (dName "last") (dInt 1))) none)), (d2 fAdd (dSliceL (dName "signs") none (some (dName "first"))) (dSliceL (dName "signs") (some (dName "last")) none))])))
noncomputable def D_truth : SDen := (sSeq D_truth0 (sSeq D_truth1 (sSeq D_truth2 (sSeq D_truth3 (sSeq D_truth4 sDone)))))
noncomputable def R_truth : Fn := fFlat (fCall ["formula", "c"] D_truth)
noncomputable def K_truth : Fn := fun vs σ => match vs with
  | [.tup [.lst i, .lst j, .int a, .int b], .int c] => with2 i j σ fun xs ys => fS R_truth [.tup [.lst 0, .lst 1, .int a, .int b], .int c] [xs, ys] σ
  | _ => none
noncomputable def D_matters0 : SDen := (sRet (d2 fNe (dComp (dRange (dInt 16)) ["truths", "name"] (tName "c") (t2 fNe (dFlat (d2 fItem (dName "truths") (dName "c"))) (dFlat (d2 fItem (dName "truths") (d2 (f2 (int2 gXor)) (dName "c") (d2 (f2 (int2 gPow)) (dInt 2) (dName "name")))))) (dName "c")) (dList [])))
noncomputable def D_matters : SDen := (sSeq D_matters0 sDone)
noncomputable def R_matters : Fn := fFlat (fCall ["truths", "name"] D_matters)
noncomputable def K_matters : Fn := fun vs σ => match vs with
  | [.lst i, .int k] => with1 i σ fun xs => fS R_matters [.lst 0, .int k] [xs] σ
  | _ => none
noncomputable def D_told0 : SDen := (sSet "rows" (mOf (dList [])))
noncomputable def D_told1 : SDen := (sSet "waits" (mOf (dList [])))
noncomputable def D_told2 : SDen := (sFor (dIter (d2 fAdd (d2 fAdd (dStr "(") (dName "text")) (dStr ")"))) (tName "sign") (sSeq (sSet "symbol" (mOf (dIf (t2 (f2 gInStr) (dName "sign") (dStr "wxyz")) (d2 fAdd (dInt 256) (dFlat (dApp (f2 gIndex) [(dStr "wxyz"), (dName "sign")]))) (dFlat (d1 (f1 gTok) (dName "sign")))))) (sSeq (sIf (t2 (f2 gIs) (dFlat (dApp K_ISNONTERMINAL [(dName "symbol")])) (dBool true)) (sSeq (sDrop (mApp (dName "rows") (mOf (dFlat (d2 fItem (dTup [(dInt 43690), (dInt 52428), (dInt 61680), (dInt 65280)]) (d2 (f2 (int2 gSub)) (dName "symbol") (dInt 256))))))) sDone) (sSeq (sIf (tOr (t2 (f2 gEq) (dName "symbol") (dInt 7)) (t2 (f2 gEq) (dName "symbol") (dInt 31))) (sSeq (sDrop (mApp (dName "waits") (mOf (dName "symbol")))) sDone) (sSeq (sWhile 32 (t2 (f2 gIs) (dFlat (dApp K_lt [(dFlat (d2 fItem (dName "waits") (d1 (f1 gNeg) (dInt 1)))), (dName "symbol")])) (dBool false)) (sSeq (sSet "deed" (mPop "waits")) (sSeq (sSet "last" (mPop "rows")) (sSeq (sIf (t2 (f2 gEq) (dName "deed") (dInt 31)) (sSeq (sSet "turned" (mOf (dFlat (dApp K_inv [(dName "last")])))) (sSeq (sIf (tOr (t2 fNe (dFlat (dApp K_add [(dName "turned"), (dName "last")])) (d1 (f1 gNeg) (dInt 1))) (t2 (f2 gIsNot) (dFlat (dApp K_ISEOF [(dName "turned")])) (dBool false))) (sSeq (sRet (dList [])) sDone) sDone) (sSeq (sDrop (mApp (dName "rows") (mOf (dFlat (dApp K_and [(dName "turned"), (dInt 65535)]))))) sDone))) (sSeq (sIf (t2 (f2 gEq) (dName "deed") (dInt 19)) (sSeq (sDrop (mApp (dName "rows") (mCall2 (fFlat K_and) (mPop "rows") (dName "last")))) sDone) (sSeq (sIf (t2 (f2 gEq) (dName "deed") (dInt 18)) (sSeq (sDrop (mApp (dName "rows") (mCall2 (fFlat K_or) (mPop "rows") (dName "last")))) sDone) (sSeq (sRet (dList [])) sDone)) sDone)) sDone)) sDone)))) (sSeq (sIf (t2 (f2 gEq) (dName "symbol") (dInt 8)) (sSeq (sDrop (mPop "waits")) sDone) (sSeq (sDrop (mApp (dName "waits") (mOf (dName "symbol")))) sDone)) sDone))) sDone)) sDone)))
noncomputable def D_told3 : SDen := (sRet (dName "rows"))
noncomputable def D_told : SDen := (sSeq D_told0 (sSeq D_told1 (sSeq D_told2 (sSeq D_told3 sDone))))
noncomputable def R_told : Fn := fNeat (fCall ["text"] D_told)
noncomputable def K_told : Fn := fun vs σ => match vs with
  | [.str x] => (match R_told [.str x] [] with
    | some (.lst 0, [xs]) => if xs.all V.flat = true then some (.lst σ.length, σ ++ [xs]) else none
    | _ => none)
  | _ => none
noncomputable def D_weighed0 : SDen := (sSet "weight" (mOf (dInt 0)))
noncomputable def D_weighed1 : SDen := (sFor (dEnum (dName "letters")) (tTup [(tName "place"), (tName "letter")]) (sSeq (sSet "figure" (mOf (dFlat (dApp (f2 gIndex) [(dStr "ABCDEFGHIJKLMNOP"), (dName "letter")])))) (sSeq (sSet "part" (mOf (dInt 0))) (sSeq (sFor (dRange (dInt 4)) (tName "k") (sSeq (sIf (t2 (f2 gEq) (d2 (f2 (int2 gMod)) (d2 (f2 (int2 gDiv)) (dName "figure") (d2 (f2 (int2 gPow)) (dInt 2) (dName "k"))) (dInt 2)) (dInt 1)) (sSeq (sSet "part" (mOf (dFlat (dApp K_add [(dName "part"), (dFlat (dApp K_mul [(dFlat (d2 fItem (dFlat (d2 fItem (dName "weights") (dInt 0))) (d2 (f2 (int2 gMod)) (dName "k") (dInt 2)))), (dFlat (d2 fItem (dFlat (d2 fItem (dName "weights") (dInt 1))) (d2 (f2 (int2 gDiv)) (dName "k") (dInt 2))))]))])))) sDone) sDone) sDone)) (sSeq (sSet "weight" (mOf (dFlat (dApp K_add [(dName "weight"), (dFlat (dApp K_mul [(dName "part"), (dFlat (dApp K_mul [(dFlat (d2 fItem (dFlat (d2 fItem (dName "weights") (dInt 2))) (d2 (f2 (int2 gMod)) (d2 (f2 (int2 gSub)) (dInt 3) (dName "place")) (dInt 2)))), (dFlat (d2 fItem (dFlat (d2 fItem (dName "weights") (dInt 3))) (d2 (f2 (int2 gDiv)) (d2 (f2 (int2 gSub)) (dInt 3) (dName "place")) (dInt 2))))]))]))])))) sDone)))))
noncomputable def D_weighed2 : SDen := (sRet (dName "weight"))
noncomputable def D_weighed : SDen := (sSeq D_weighed0 (sSeq D_weighed1 (sSeq D_weighed2 sDone)))
noncomputable def R_weighed : Fn := fFlat (fCall ["letters", "weights"] D_weighed)
noncomputable def K_weighed : Fn := fun vs σ => match vs with
  | [.str x, .lst i] => with1 i σ fun xs => fS R_weighed [.str x, .lst 0] [xs] σ
  | _ => none
noncomputable def D_law0 : SDen := (sSet "cells" (mOf (dComp (dEnum (dList [(dInt 740), (dInt 5475), (dInt 2001), (dInt 4), (dInt 3000), (dInt 1006)])) ["script"] (tTup [(tName "k"), (tName "base")]) tYes (d2 fAdd (dName "base") (dFlat (dApp (onList gSum) [(dStep (dName "script") (some (dName "k")) (some (dInt 6)))]))))))
noncomputable def D_law1 : SDen := (sUnpack (tTup [(tName "low"), (tName "count"), (tName "other"), (tName "number")]) (dFlat (d2 fItem (dTup [(dTup [(dInt 0), (dInt 4), (dInt 0), (dInt 4)]), (dTup [(dInt 0), (dInt 2), (dInt 2), (dInt 2)]), (dTup [(dInt 0), (dInt 3), (dInt 2), (dInt 2)])]) (d2 (f2 (int2 gMod)) (dFlat (dApp (onList gSum) [(dName "script")])) (dInt 3)))))
noncomputable def D_law2 : SDen := (sSet "one" (mOf (dFlat (dApp K_formula [(dFlat (d2 fItem (dName "cells") (dInt 0))), (dName "low"), (dName "count")]))))
noncomputable def D_law3 : SDen := (sSet "two" (mOf (dFlat (dApp K_formula [(dFlat (d2 fItem (dName "cells") (dInt 1))), (dName "other"), (dName "number")]))))
noncomputable def D_law4 : SDen := (sSet "weights" (mOf (dComp (dIter (dSliceL (dName "cells") (some (dInt 2)) none)) [] (tName "cell") tYes (dTup [(d2 fAdd (dInt 1) (d2 (f2 (int2 gMod)) (dName "cell") (dInt 1000))), (d2 fAdd (dInt 1) (d2 (f2 (int2 gMod)) (d2 (f2 (int2 gDiv)) (dName "cell") (dInt 1000)) (dInt 1000)))]))))
noncomputable def D_law5 : SDen := (sSet "f" (mOf (dComp (dRange (dInt 16)) ["one"] (tName "c") tYes (dFlat (dApp K_truth [(dName "one"), (dName "c")])))))
noncomputable def D_law6 : SDen := (sSet "g" (mOf (dComp (dRange (dInt 16)) ["two"] (tName "c") tYes (dFlat (dApp K_truth [(dName "two"), (dName "c")])))))
noncomputable def D_law7 : SDen := (sSet "dues" (mOf (dList [(dName "f"), (dName "g"), (dComp (dRange (dInt 16)) ["f", "g"] (tName "c") tYes (d2 fMul (dFlat (d2 fItem (dName "f") (dName "c"))) (dFlat (d2 fItem (dName "g") (dName "c"))))), (dComp (dRange (dInt 16)) ["f", "g"] (tName "c") tYes (d2 fMul (dFlat (d2 fItem (dName "f") (dName "c"))) (d2 (f2 (int2 gSub)) (dInt 1) (dFlat (d2 fItem (dName "g") (dName "c")))))), (dComp (dRange (dInt 16)) ["g"] (tName "c") tYes (d2 (f2 (int2 gSub)) (dInt 1) (dFlat (d2 fItem (dName "g") (dName "c"))))), (d2 fMul (dList [(dInt 1)]) (dInt 16))])))
noncomputable def D_law8 : SDen := (sSwap "head" "tail" (dTup [(dFlat (dApp K_text [(dName "one")])), (dFlat (dApp K_text [(dName "two")]))]))
noncomputable def D_law9 : SDen := (sSet "texts" (mOf (dList [(dName "head"), (dName "tail"), (d2 fAdd (d2 fAdd (d2 fAdd (d2 fAdd (dStr "(") (dName "head")) (dStr ")&(")) (dName "tail")) (dStr ")")), (d2 fAdd (d2 fAdd (d2 fAdd (d2 fAdd (dStr "(") (dName "head")) (dStr ")&~(")) (dName "tail")) (dStr ")")), (d2 fAdd (d2 fAdd (dStr "~(") (dName "tail")) (dStr ")")), (d2 fAdd (d2 fAdd (d2 fAdd (dName "head") (dStr "|~(")) (dName "head")) (dStr ")"))])))
noncomputable def D_law10 : SDen := (sSet "heaps" (mOf (dList [])))
noncomputable def D_law11 : SDen := (sFor (dZip (dName "texts") (dName "dues")) (tTup [(tName "text"), (tName "due")]) (sSeq (sSet "rows" (mOf (dFlat (dApp K_told [(dName "text")])))) (sSeq (sIf (t2 fNe (dName "rows") (dList [(dFlat (dApp (onList gSum) [(dComp (dRange (dInt 16)) ["due"] (tName "c") tYes (d2 fMul (dFlat (d2 fItem (dName "due") (dName "c"))) (d2 (f2 (int2 gPow)) (dInt 2) (dName "c"))))]))])) (sSeq (sRet (dBool false)) sDone) sDone) (sSeq (sIf (tOr (t2 (f2 gIsNot) (dFlat (dApp K_ISEOF [(dFlat (d2 fItem (dName "rows") (dInt 0)))])) (d2 (f2 gEq) (dFlat (dApp (onList gSum) [(dName "due")])) (dInt 0))) (t2 (f2 gIsNot) (dFlat (dApp K_ISNONTERMINAL [(dFlat (d2 fItem (dName "rows") (dInt 0)))])) (d2 cGt (dFlat (dApp (onList gSum) [(dSliceL (dName "due") (some (dInt 8)) none)])) (dInt 0)))) (sSeq (sRet (dBool false)) sDone) sDone) (sSeq (sSet "word" (mOf (dFlat (dApp (f1 gDecode) [(dFlat (dApp K_Int2AP [(dIf (dTruth (d2 (f2 (int2 gMod)) (dFlat (d2 fItem (dName "rows") (dInt 0))) (dInt 2))) (dFlat (d2 fItem (dName "rows") (dInt 0))) (d1 (f1 gNeg) (dFlat (d2 fItem (dName "rows") (dInt 0)))))]))])))) (sSeq (sDrop (mApp (dName "heaps") (mOf (dFlat (dApp K_weighed [(dSliceS (d2 fAdd (dStr "AAAA") (dName "word")) (some (d1 (f1 gNeg) (dInt 4))) none), (dName "weights")]))))) (sSeq (sSet "heavy" (mOf (dComp (dRange (dInt 16)) ["weights", "due"] (tName "c") tYes (d2 fMul (d2 fMul (d2 fMul (d2 fMul (dFlat (d2 fItem (dName "due") (dName "c"))) (dFlat (d2 fItem (dFlat (d2 fItem (dName "weights") (dInt 0))) (d2 (f2 (int2 gMod)) (dName "c") (dInt 2))))) (dFlat (d2 fItem (dFlat (d2 fItem (dName "weights") (dInt 1))) (d2 (f2 (int2 gMod)) (d2 (f2 (int2 gDiv)) (dName "c") (dInt 2)) (dInt 2))))) (dFlat (d2 fItem (dFlat (d2 fItem (dName "weights") (dInt 2))) (d2 (f2 (int2 gMod)) (d2 (f2 (int2 gDiv)) (dName "c") (dInt 4)) (dInt 2))))) (dFlat (d2 fItem (dFlat (d2 fItem (dName "weights") (dInt 3))) (d2 (f2 (int2 gDiv)) (dName "c") (dInt 8)))))))) (sSeq (sIf (tOr (t2 (f2 gEq) (dSliceS (dName "word") none (some (dInt 1))) (dStr "A")) (t2 fNe (dFlat (d2 fItem (dName "heaps") (d1 (f1 gNeg) (dInt 1)))) (dFlat (dApp (onList gSum) [(dName "heavy")])))) (sSeq (sRet (dBool false)) sDone) sDone) sDone))))))))
noncomputable def D_law12 : SDen := (sSet "share" (mOf (d2 fNe (dComp (dRange (dInt 4)) ["f", "g"] (tName "k") (tAnd (dTruth (dFlat (dApp K_matters [(dName "f"), (dName "k")]))) (dTruth (dFlat (dApp K_matters [(dName "g"), (dName "k")])))) (dName "k")) (dList []))))
noncomputable def D_law13 : SDen := (sSet "truth" (mOf (dList [(dName "share"), (dName "share"), (d1 (f1 gNot) (dName "share")), (d1 (f1 gNot) (dName "share")), (dBool true), (dBool true), (dBool false), (dBool false)])))
noncomputable def D_law14 : SDen := (sFor (dIterL (dList [(dTup [(dFlat (dApp K_mul [(dFlat (d2 fItem (dName "heaps") (dInt 0))), (dFlat (d2 fItem (dName "heaps") (dInt 1)))])), (dFlat (dApp K_mul [(dFlat (d2 fItem (dName "heaps") (dInt 2))), (dFlat (d2 fItem (dName "heaps") (dInt 5)))]))]), (dTup [(dFlat (dApp K_mul [(dFlat (d2 fItem (dName "heaps") (dInt 3))), (dFlat (d2 fItem (dName "heaps") (dInt 5)))])), (dFlat (dApp K_mul [(dFlat (d2 fItem (dName "heaps") (dInt 0))), (dFlat (d2 fItem (dName "heaps") (dInt 4)))]))])])) (tTup [(tName "least"), (tName "most")]) (sSeq (sSet "told" (mOf (dList [(dFlat (dApp K_lt [(dName "least"), (dName "most")])), (dFlat (dApp K_gt [(dName "most"), (dName "least")])), (dFlat (dApp K_ge [(dName "least"), (dName "most")])), (dFlat (dApp K_le [(dName "most"), (dName "least")]))]))) (sSeq (sSet "told" (mOf (d2 fAdd (dName "told") (dList [(dFlat (dApp K_le [(dName "least"), (dName "most")])), (dFlat (dApp K_ge [(dName "most"), (dName "least")])), (dFlat (dApp K_lt [(dName "most"), (dName "least")])), (dFlat (dApp K_gt [(dName "least"), (dName "most")]))])))) (sSeq (sIf (t2 fNe (dComp (dRange (dInt 8)) ["told", "truth"] (tName "k") (t2 (f2 gIsNot) (dFlat (d2 fItem (dName "told") (dName "k"))) (dFlat (d2 fItem (dName "truth") (dName "k")))) (dName "k")) (dList [])) (sSeq (sRet (dBool false)) sDone) sDone) sDone))))
noncomputable def D_law15 : SDen := (sRet (dBool true))
noncomputable def D_law : SDen := (sSeq D_law0 (sSeq D_law1 (sSeq D_law2 (sSeq D_law3 (sSeq D_law4 (sSeq D_law5 (sSeq D_law6 (sSeq D_law7 (sSeq D_law8 (sSeq D_law9 (sSeq D_law10 (sSeq D_law11 (sSeq D_law12 (sSeq D_law13 (sSeq D_law14 (sSeq D_law15 sDone))))))))))))))))

end Mine
end

section
open PySem PySem.W PyProof.Rows PySem.Calls
set_option Elab.async false
set_option autoImplicit false
set_option maxRecDepth 10000
set_option maxHeartbeats 1000000
namespace Mine
variable {w : World} {lvl : Nat}
theorem idx1 {i : Nat} {σ : Store} {xs : List V} (h : σ[i]? = some xs) : ∀ (p k : Nat), [i][p]? = some k → σ[k]? = [xs][p]? := by
  intro p k e
  match p, e with
  | 0, e => cases e; exact h
  | p + 1, e => simp at e
theorem idx2 {i j : Nat} {σ : Store} {xs ys : List V} (h : σ[i]? = some xs) (h2 : σ[j]? = some ys) : ∀ (p k : Nat), [i, j][p]? = some k → σ[k]? = [xs, ys][p]? := by
  intro p k e
  match p, e with
  | 0, e => cases e; exact h
  | 1, e => cases e; exact h2
  | p + 2, e => simp at e
theorem small_Int2AP {t : List Value → Sem Value} (h : SoundV w lvl t R_Int2AP) : SoundV w lvl t K_Int2AP := by
  intro X A s α σ vs us v σ' Q E hR G S rs0 ev P
  unfold K_Int2AP at ev
  split at ev
  · refine h.smallF [] .nil rfl (fun p i e => by simp at e) (fun α' hα r => ?_) hR G S rs0 ev P
    cases r with
    | cons a b => cases b; exact .cons (a.flat rfl) .nil
  · cases ev
theorem small_formula {t : List Value → Sem Value} (h : SoundV w lvl t R_formula) : SoundV w lvl t K_formula := h
theorem small_text {t : List Value → Sem Value} (h : SoundV w lvl t R_text) : SoundV w lvl t K_text := by
  intro X A s α σ vs us v σ' Q E hR G S rs0 ev P
  unfold K_text at ev
  split at ev
  · rename_i i j a b
    obtain ⟨hij, xs, ys, e1, e2, ev⟩ := with2_inv ev
    refine h.smallF [i, j] (by simp [hij]) rfl (idx2 e1 e2) (fun α' hα r => ?_) hR G S rs0 ev P
    cases r with
    | cons r1 r2 =>
      cases r2
      cases r1 with
      | tup x t rs =>
        cases rs with
        | cons a1 rs => cases rs with
          | cons a2 rs => cases rs with
            | cons a3 rs => cases rs with
              | cons a4 rs =>
                cases rs
                cases a1 with
                | lst e1 => cases a2 with
                  | lst e2 => exact .cons (.tup x t (.cons (.lst (hα 0 i _ rfl e1)) (.cons (.lst (hα 1 j _ rfl e2)) (.cons (a3.flat rfl) (.cons (a4.flat rfl) .nil))))) .nil
  · cases ev
theorem small_flat {t : List Value → Sem Value} (h : SoundV w lvl t R_flat) : SoundV w lvl t K_flat := by
  intro X A s α σ vs us v σ' Q E hR G S rs0 ev P
  unfold K_flat at ev
  split at ev
  · rename_i i j
    obtain ⟨hij, xs, ys, e1, e2, ev⟩ := with2_inv ev
    refine h.smallF [i, j] (by simp [hij]) rfl (idx2 e1 e2) (fun α' hα r => ?_) hR G S rs0 ev P
    cases r with
    | cons a1 r2 => cases r2 with
      | cons a2 r2 =>
        cases r2
        cases a1 with
        | lst e1 => cases a2 with
          | lst e2 => exact .cons (.lst (hα 0 i _ rfl e1)) (.cons (.lst (hα 1 j _ rfl e2)) .nil)
  · cases ev
theorem small_truth {t : List Value → Sem Value} (h : SoundV w lvl t R_truth) : SoundV w lvl t K_truth := by
  intro X A s α σ vs us v σ' Q E hR G S rs0 ev P
  unfold K_truth at ev
  split at ev
  · rename_i i j a b c
    obtain ⟨hij, xs, ys, e1, e2, ev⟩ := with2_inv ev
    refine h.smallF [i, j] (by simp [hij]) rfl (idx2 e1 e2) (fun α' hα r => ?_) hR G S rs0 ev P
    cases r with
    | cons r1 r2 => cases r2 with
      | cons r3 r2 =>
        cases r2
        cases r1 with
        | tup x t rs =>
          cases rs with
          | cons a1 rs => cases rs with
            | cons a2 rs => cases rs with
              | cons a3 rs => cases rs with
                | cons a4 rs =>
                  cases rs
                  cases a1 with
                  | lst e1 => cases a2 with
                    | lst e2 => exact .cons (.tup x t (.cons (.lst (hα 0 i _ rfl e1)) (.cons (.lst (hα 1 j _ rfl e2)) (.cons (a3.flat rfl) (.cons (a4.flat rfl) .nil))))) (.cons (r3.flat rfl) .nil)
  · cases ev
theorem small_matters {t : List Value → Sem Value} (h : SoundV w lvl t R_matters) : SoundV w lvl t K_matters := by
  intro X A s α σ vs us v σ' Q E hR G S rs0 ev P
  unfold K_matters at ev
  split at ev
  · rename_i i k
    obtain ⟨xs, e1, ev⟩ := with1_inv ev
    refine h.smallF [i] (by simp) rfl (idx1 e1) (fun α' hα r => ?_) hR G S rs0 ev P
    cases r with
    | cons a1 r2 => cases r2 with
      | cons a2 r2 =>
        cases r2
        cases a1 with
        | lst e1 => exact .cons (.lst (hα 0 i _ rfl e1)) (.cons (a2.flat rfl) .nil)
  · cases ev
theorem small_weighed {t : List Value → Sem Value} (h : SoundV w lvl t R_weighed) : SoundV w lvl t K_weighed := by
  intro X A s α σ vs us v σ' Q E hR G S rs0 ev P
  unfold K_weighed at ev
  split at ev
  · rename_i x i
    obtain ⟨xs, e1, ev⟩ := with1_inv ev
    refine h.smallF [i] (by simp) rfl (idx1 e1) (fun α' hα r => ?_) hR G S rs0 ev P
    cases r with
    | cons a1 r2 => cases r2 with
      | cons a2 r2 =>
        cases r2
        cases a2 with
        | lst e1 => exact .cons (a1.flat rfl) (.cons (.lst (hα 0 i _ rfl e1)) .nil)
  · cases ev
theorem small_told {t : List Value → Sem Value} (h : SoundV w lvl t R_told) : SoundV w lvl t K_told := by
  intro X A s α σ vs us v σ' Q E hR G S rs0 ev P
  unfold K_told at ev
  split at ev
  · rename_i x
    split at ev
    · rename_i xs h1
      split at ev
      · rename_i hf
        cases ev
        refine h.smallAt (σs := []) [] .nil rfl (fun p i e => by simp at e) (fun _ h => nomatch h) (fun α' hα r => ?_) hR G S rs0 h1 fun α' hl => ?_
        · cases r with
          | cons a b => cases b; exact .cons (a.flat rfl) .nil
        · intro u h' tk' β k fr S1 r
          have : α' = [] := List.length_eq_zero_iff.mp hl
          subst this
          cases r with
          | lst ea =>
            rename_i a
            have ea' : β[0]? = some a := ea
            have hb := fr a (List.mem_of_getElem? ea')
            obtain ⟨a', us', e1, p, rr⟩ := S1.get 0 xs rfl
            rw [ea] at e1; cases e1
            have S2 := S.add (a := a) (vs := xs) (us := us') k hb p (Rps.flat hf rr) (S1.cap xs List.mem_cons_self)
            refine P (.ref a) h' tk' [a] k (fun b q => by rw [List.mem_singleton.mp q]; exact hb) S2 (.lst ?_)
            rw [List.getElem?_append_right (by rw [S.len]; exact Nat.le_refl _), S.len, Nat.sub_self]; rfl
      · cases ev
    · cases ev
  · cases ev
theorem W_Int2AP : SoundV w (lvl + 1) (fun us => call (.ref 38) us) R_Int2AP :=
  (fun_sound (lvl := lvl + 0) (B := D_Int2AP) ["num"] rfl rfl rfl
    (Ss_cons (S_assign (n := "val") (.inl rfl) (M_of E_bytes) (fun _ _ => rfl)) (Ss_cons (S_assign (n := "AP") (.inl rfl) (M_of E_bytes) (fun _ _ => rfl)) (Ss_cons (S_assign (n := "num") (.inl rfl) (M_of (E_callT (n := "int") rfl rfl rfl (SoundA.cons (E_callB (n := "abs") rfl rfl rfl (SoundA.cons (E_name (n := "num")) SoundA.nil (he := star_of rfl)) B_abs (he := star_of rfl) (hpl := plain_of rfl) (hne := by decide) (hdb := by decide)) SoundA.nil (he := star_of rfl)) B_int (he := star_of rfl) (hpl := plain_of rfl) (hne := by decide) (hdb := by decide))) (fun _ _ => rfl)) (Ss_cons (S_while 32 (T_val (E_name (n := "num")) (he := fun _ _ => rfl)) (Ss_cons (S_unpack (G_tup (Gs_cons (G_local (n := "num") rfl) (Gs_cons (G_local (n := "mod") rfl) Gs_nil (he := fun _ => rfl)) (he := fun _ => rfl))) (E_callB (n := "divmod") rfl rfl rfl (SoundA.cons (E_name (n := "num")) (SoundA.cons E_int SoundA.nil (he := star_of rfl)) (he := star_of rfl)) B_divmod (he := star_of rfl) (hpl := plain_of rfl) (hne := by decide) (hdb := by decide)) (hs := fun _ => rfl) (hw := fun _ => rfl)) (Ss_cons (S_assign (n := "val") (.inl rfl) (M_of (E_bin (E_sliceB (E_name (n := "AP")) (SoundP.some (E_name (n := "mod"))) (SoundP.some (E_bin (E_name (n := "mod")) E_int O_add)) (ht := fun _ _ => rfl)) (E_name (n := "val")) O_add)) (fun _ _ => rfl)) Ss_nil))) (Ss_cons (S_ret (E_name (n := "val"))) Ss_nil)))))
    (bind1 fun _ => rfl) (by decide) (by decide)).flat
theorem F_Int2AP : SoundV w (lvl + 1) (fun us => call (.ref 38) us) K_Int2AP := small_Int2AP W_Int2AP
theorem W_formula : SoundV w (lvl + 1) (fun us => call (.ref 106) us) R_formula :=
  (fun_sound (lvl := lvl + 0) (B := D_formula) ["cell", "low", "count"] rfl rfl rfl
    (Ss_cons (S_comp (n := "names") rfl (I_range E_int rfl (he := star_of rfl) (hpl := plain_of rfl)) (CompOk.mk (fv := ["low", "count", "cell"]) (G_local (n := "k") rfl) Fs_nil (E_bin (E_name (n := "low")) (E_bin (E_bin (E_bin (E_name (n := "cell")) (E_bin E_int (E_name (n := "k")) O_pow) O_div) E_int O_mod) (E_name (n := "count")) O_mod) O_add) rfl (by decide) (by decide) (by decide) (by decide)) rfl (by decide) (hs := fun _ _ => rfl)) (Ss_cons (S_comp (n := "signs") rfl (I_range E_int rfl (he := star_of rfl) (hpl := plain_of rfl)) (CompOk.mk (fv := ["cell"]) (G_local (n := "k") rfl) Fs_nil (E_item E_str (E_bin (E_bin (E_bin (E_name (n := "cell")) E_int O_div) (E_bin E_int (E_name (n := "k")) O_pow) O_div) E_int O_mod) (hs := fun _ _ => rfl)) rfl (by decide) (by decide) (by decide) (by decide)) rfl (by decide) (hs := fun _ _ => rfl)) (Ss_cons (S_unpack (G_tup (Gs_cons (G_local (n := "first") rfl) (Gs_cons (G_local (n := "last") rfl) Gs_nil (he := fun _ => rfl)) (he := fun _ => rfl))) (E_item (E_tup (SoundA.cons (E_tup (SoundA.cons E_int (SoundA.cons E_int SoundA.nil (he := star_of rfl)) (he := star_of rfl))) (SoundA.cons (E_tup (SoundA.cons E_int (SoundA.cons E_int SoundA.nil (he := star_of rfl)) (he := star_of rfl))) (SoundA.cons (E_tup (SoundA.cons E_int (SoundA.cons E_int SoundA.nil (he := star_of rfl)) (he := star_of rfl))) (SoundA.cons (E_tup (SoundA.cons E_int (SoundA.cons E_int SoundA.nil (he := star_of rfl)) (he := star_of rfl))) (SoundA.cons (E_tup (SoundA.cons E_int (SoundA.cons E_int SoundA.nil (he := star_of rfl)) (he := star_of rfl))) (SoundA.cons (E_tup (SoundA.cons E_int (SoundA.cons E_int SoundA.nil (he := star_of rfl)) (he := star_of rfl))) SoundA.nil (he := star_of rfl)) (he := star_of rfl)) (he := star_of rfl)) (he := star_of rfl)) (he := star_of rfl)) (he := star_of rfl))) (E_bin (E_bin (E_name (n := "cell")) E_int O_div) E_int O_mod) (hs := fun _ _ => rfl)) (hs := fun _ => rfl) (hw := fun _ => rfl)) (Ss_cons (S_ret (E_tup (SoundA.cons (E_name (n := "names")) (SoundA.cons (E_name (n := "signs")) (SoundA.cons (E_name (n := "first")) (SoundA.cons (E_name (n := "last")) SoundA.nil (he := star_of rfl)) (he := star_of rfl)) (he := star_of rfl)) (he := star_of rfl)))) Ss_nil))))
    (bind3 fun _ _ _ => rfl) (by decide) (by decide))
theorem F_formula : SoundV w (lvl + 1) (fun us => call (.ref 106) us) K_formula := small_formula W_formula
theorem W_text : SoundV w (lvl + 1) (fun us => call (.ref 113) us) R_text :=
  (fun_sound (lvl := lvl + 0) (B := D_text) ["formula"] rfl rfl rfl
    (Ss_cons (S_unpack (G_tup (Gs_cons (G_local (n := "names") rfl) (Gs_cons (G_local (n := "signs") rfl) (Gs_cons (G_local (n := "first") rfl) (Gs_cons (G_local (n := "last") rfl) Gs_nil (he := fun _ => rfl)) (he := fun _ => rfl)) (he := fun _ => rfl)) (he := fun _ => rfl))) (E_name (n := "formula")) (hs := fun _ => rfl) (hw := fun _ => rfl)) (Ss_cons (S_assign (n := "text") (.inl rfl) (M_of E_str) (fun _ _ => rfl)) (Ss_cons (S_for (I_range E_int rfl (he := star_of rfl) (hpl := plain_of rfl)) (G_local (n := "k") rfl) (Ss_cons (S_assign (n := "text") (.inl rfl) (M_of (E_bin (E_bin (E_bin (E_name (n := "text")) (E_if (T_cmp (E_name (n := "k")) (E_name (n := "first")) C_eq (hm := by with_unfolding_all rfl)) E_str E_str) O_add) (E_item E_str (E_item (E_name (n := "names")) (E_name (n := "k")) (hs := fun _ _ => rfl)) (hs := fun _ _ => rfl)) O_add) (E_if (T_cmp (E_name (n := "k")) (E_name (n := "last")) C_eq (hm := by with_unfolding_all rfl)) E_str E_str) O_add)) (fun _ _ => rfl)) (Ss_cons (S_assign (n := "text") (.inl rfl) (M_of (E_bin (E_name (n := "text")) (E_item (E_bin (E_name (n := "signs")) (E_list (SoundA.cons E_str SoundA.nil (he := star_of rfl))) O_add) (E_name (n := "k")) (hs := fun _ _ => rfl)) O_add)) (fun _ _ => rfl)) Ss_nil)) (hs := fun _ _ => rfl)) (Ss_cons (S_ret (E_name (n := "text"))) Ss_nil))))
    (bind1 fun _ => rfl) (by decide) (by decide)).flat
theorem F_text : SoundV w (lvl + 1) (fun us => call (.ref 113) us) K_text := small_text W_text
theorem W_flat : SoundV w (lvl + 1) (fun us => call (.ref 118) us) R_flat :=
  (fun_sound (lvl := lvl + 0) (B := D_flat) ["values", "signs"] rfl rfl rfl
    (Ss_cons (S_assign (n := "groups") (.inl rfl) (M_of (E_list (SoundA.cons (E_list (SoundA.cons (E_item (E_name (n := "values")) E_int (hs := fun _ _ => rfl)) SoundA.nil (he := star_of rfl))) SoundA.nil (he := star_of rfl)))) (fun _ _ => rfl)) (Ss_cons (S_for (I_range (E_callB (n := "len") rfl rfl rfl (SoundA.cons (E_name (n := "signs")) SoundA.nil (he := star_of rfl)) B_len (he := star_of rfl) (hpl := plain_of rfl) (hne := by decide) (hdb := by decide)) rfl (he := star_of rfl) (hpl := plain_of rfl)) (G_local (n := "k") rfl) (Ss_cons (S_if (T_cmp (E_item (E_name (n := "signs")) (E_name (n := "k")) (hs := fun _ _ => rfl)) E_str C_eq (hm := by with_unfolding_all rfl)) (Ss_cons (S_drop (M_app (E_name (n := "groups")) (M_of (E_list SoundA.nil)) (he := star_of rfl) (hbase := fun _ => rfl) (hfew := fun _ => rfl) (hpl := plain_of rfl) (hline := rfl)) (hs := fun _ => rfl)) Ss_nil) Ss_nil) (Ss_cons (S_drop (M_app (E_item (E_name (n := "groups")) (E_un E_int O_neg) (hs := fun _ _ => rfl)) (M_of (E_item (E_name (n := "values")) (E_bin (E_name (n := "k")) E_int O_add) (hs := fun _ _ => rfl))) (he := star_of rfl) (hbase := fun _ => rfl) (hfew := fun _ => rfl) (hpl := plain_of rfl) (hline := rfl)) (hs := fun _ => rfl)) Ss_nil)) (hs := fun _ _ => rfl)) (Ss_cons (S_ret (E_callB (n := "max") rfl rfl rfl (SoundA.cons (E_comp (I_name (E_name (n := "groups"))) (CompOk.mk (fv := []) (G_local (n := "group") rfl) Fs_nil (E_callB (n := "min") rfl rfl rfl (SoundA.cons (E_name (n := "group")) SoundA.nil (he := star_of rfl)) B_min (he := star_of rfl) (hpl := plain_of rfl) (hne := by decide) (hdb := by decide)) rfl (by decide) (by decide) (by decide) (by decide)) (hs := fun _ _ => rfl)) SoundA.nil (he := star_of rfl)) B_max (he := star_of rfl) (hpl := plain_of rfl) (hne := by decide) (hdb := by decide))) Ss_nil)))
    (bind2 fun _ _ => rfl) (by decide) (by decide)).flat
theorem F_flat : SoundV w (lvl + 1) (fun us => call (.ref 118) us) K_flat := small_flat W_flat
theorem W_truth : SoundV w (lvl + 2) (fun us => call (.ref 123) us) R_truth :=
  (fun_sound (lvl := lvl + 1) (B := D_truth) ["formula", "c"] rfl rfl rfl
    (Ss_cons (S_unpack (G_tup (Gs_cons (G_local (n := "names") rfl) (Gs_cons (G_local (n := "signs") rfl) (Gs_cons (G_local (n := "first") rfl) (Gs_cons (G_local (n := "last") rfl) Gs_nil (he := fun _ => rfl)) (he := fun _ => rfl)) (he := fun _ => rfl)) (he := fun _ => rfl))) (E_name (n := "formula")) (hs := fun _ => rfl) (hw := fun _ => rfl)) (Ss_cons (S_comp (n := "values") rfl (I_name (E_name (n := "names"))) (CompOk.mk (fv := ["c"]) (G_local (n := "name") rfl) Fs_nil (E_bin (E_bin (E_name (n := "c")) (E_bin E_int (E_name (n := "name")) O_pow) O_div) E_int O_mod) rfl (by decide) (by decide) (by decide) (by decide)) rfl (by decide) (hs := fun _ _ => rfl)) (Ss_cons (S_if (T_cmp (E_name (n := "first")) E_int C_eq (hm := by with_unfolding_all rfl)) (Ss_cons (S_ret (E_call (n := "_law_flat") rfl rfl rfl rfl (SoundA.cons (E_name (n := "values")) (SoundA.cons (E_name (n := "signs")) SoundA.nil (he := star_of rfl)) (he := star_of rfl)) F_flat (he := star_of rfl) (hdb := by decide))) Ss_nil) Ss_nil) (Ss_cons (S_assign (n := "inner") (.inl rfl) (M_of (E_call (n := "_law_flat") rfl rfl rfl rfl (SoundA.cons (E_sliceL (E_name (n := "values")) (SoundP.some (E_name (n := "first"))) (SoundP.some (E_bin (E_name (n := "last")) E_int O_add)) (ht := fun _ _ => rfl)) (SoundA.cons (E_sliceL (E_name (n := "signs")) (SoundP.some (E_name (n := "first"))) (SoundP.some (E_name (n := "last"))) (ht := fun _ _ => rfl)) SoundA.nil (he := star_of rfl)) (he := star_of rfl)) F_flat (he := star_of rfl) (hdb := by decide))) (fun _ _ => rfl)) (Ss_cons (S_ret (E_call (n := "_law_flat") rfl rfl rfl rfl (SoundA.cons (E_bin (E_bin (E_sliceL (E_name (n := "values")) SoundP.none (SoundP.some (E_name (n := "first"))) (ht := fun _ _ => rfl)) (E_list (SoundA.cons (E_name (n := "inner")) SoundA.nil (he := star_of rfl))) O_add) (E_sliceL (E_name (n := "values")) (SoundP.some (E_bin (E_name (n := "last")) E_int O_add)) SoundP.none (ht := fun _ _ => rfl)) O_add) (SoundA.cons (E_bin (E_sliceL (E_name (n := "signs")) SoundP.none (SoundP.some (E_name (n := "first"))) (ht := fun _ _ => rfl)) (E_sliceL (E_name (n := "signs")) (SoundP.some (E_name (n := "last"))) SoundP.none (ht := fun _ _ => rfl)) O_add) SoundA.nil (he := star_of rfl)) (he := star_of rfl)) F_flat (he := star_of rfl) (hdb := by decide))) Ss_nil)))))
    (bind2 fun _ _ => rfl) (by decide) (by decide)).flat
theorem F_truth : SoundV w (lvl + 2) (fun us => call (.ref 123) us) K_truth := small_truth W_truth
theorem W_matters : SoundV w (lvl + 12) (fun us => call (.ref 128) us) R_matters :=
  (fun_sound (lvl := lvl + 11) (B := D_matters) ["truths", "name"] rfl rfl rfl
    (Ss_cons (S_ret (E_cmp (E_comp (I_range E_int rfl (he := star_of rfl) (hpl := plain_of rfl)) (CompOk.mk (fv := ["truths", "name"]) (G_local (n := "c") rfl) (Fs_one (T_cmp (E_item (E_name (n := "truths")) (E_name (n := "c")) (hs := fun _ _ => rfl)) (E_item (E_name (n := "truths")) (E_bin (E_name (n := "c")) (E_bin E_int (E_name (n := "name")) O_pow) O_xor) (hs := fun _ _ => rfl)) (C_ne (by omega)) (hm := by with_unfolding_all rfl))) (E_name (n := "c")) rfl (by decide) (by decide) (by decide) (by decide)) (hs := fun _ _ => rfl)) (E_list SoundA.nil) (C_ne (by omega)) (hm := by with_unfolding_all rfl))) Ss_nil)
    (bind2 fun _ _ => rfl) (by decide) (by decide)).flat
theorem F_matters : SoundV w (lvl + 12) (fun us => call (.ref 128) us) K_matters := small_matters W_matters
theorem W_told : SoundV w (lvl + 12) (fun us => call (.ref 135) us) R_told :=
  (fun_sound (lvl := lvl + 11) (B := D_told) ["text"] rfl rfl rfl
    (Ss_cons (S_assign (n := "rows") (.inl rfl) (M_of (E_list SoundA.nil)) (fun _ _ => rfl)) (Ss_cons (S_assign (n := "waits") (.inl rfl) (M_of (E_list SoundA.nil)) (fun _ _ => rfl)) (Ss_cons (S_for (I_name (E_bin (E_bin E_str (E_name (n := "text")) O_add) E_str O_add)) (G_local (n := "sign") rfl) (Ss_cons (S_assign (n := "symbol") (.inl rfl) (M_of (E_if (T_cmp (E_name (n := "sign")) E_str C_in (hm := by with_unfolding_all rfl)) (E_bin E_int (E_index E_str (SoundA.cons (E_name (n := "sign")) SoundA.nil (he := star_of rfl)) (he := star_of rfl) (hbase := fun _ => rfl) (hfew := fun _ => rfl) (hpl := plain_of rfl) (hline := rfl)) O_add) (E_tok (E_name (n := "sign")) rfl (hs := fun _ _ => rfl)))) (fun _ _ => rfl)) (Ss_cons (S_if (T_cmp (E_call (n := "ISNONTERMINAL") rfl rfl rfl rfl (SoundA.cons (E_name (n := "symbol")) SoundA.nil (he := star_of rfl)) F_ISNONTERMINAL (he := star_of rfl) (hdb := by decide)) E_bool C_is (hm := by with_unfolding_all rfl)) (Ss_cons (S_drop (M_app (E_name (n := "rows")) (M_of (E_item (E_tup (SoundA.cons E_int (SoundA.cons E_int (SoundA.cons E_int (SoundA.cons E_int SoundA.nil (he := star_of rfl)) (he := star_of rfl)) (he := star_of rfl)) (he := star_of rfl))) (E_bin (E_name (n := "symbol")) E_int O_sub) (hs := fun _ _ => rfl))) (he := star_of rfl) (hbase := fun _ => rfl) (hfew := fun _ => rfl) (hpl := plain_of rfl) (hline := rfl)) (hs := fun _ => rfl)) Ss_nil) (Ss_cons (S_if (T_or (T_cmp (E_name (n := "symbol")) E_int C_eq (hm := by with_unfolding_all rfl)) (T_cmp (E_name (n := "symbol")) E_int C_eq (hm := by with_unfolding_all rfl))) (Ss_cons (S_drop (M_app (E_name (n := "waits")) (M_of (E_name (n := "symbol"))) (he := star_of rfl) (hbase := fun _ => rfl) (hfew := fun _ => rfl) (hpl := plain_of rfl) (hline := rfl)) (hs := fun _ => rfl)) Ss_nil) (Ss_cons (S_while 32 (T_cmp (E_call (n := "lt") rfl rfl rfl rfl (SoundA.cons (E_item (E_name (n := "waits")) (E_un E_int O_neg) (hs := fun _ _ => rfl)) (SoundA.cons (E_name (n := "symbol")) SoundA.nil (he := star_of rfl)) (he := star_of rfl)) F_lt (he := star_of rfl) (hdb := by decide)) E_bool C_is (hm := by with_unfolding_all rfl)) (Ss_cons (S_assign (n := "deed") (.inl rfl) (M_pop (n := "waits")) (fun _ _ => rfl)) (Ss_cons (S_assign (n := "last") (.inl rfl) (M_pop (n := "rows")) (fun _ _ => rfl)) (Ss_cons (S_if (T_cmp (E_name (n := "deed")) E_int C_eq (hm := by with_unfolding_all rfl)) (Ss_cons (S_assign (n := "turned") (.inl rfl) (M_of (E_call (n := "inv") rfl rfl rfl rfl (SoundA.cons (E_name (n := "last")) SoundA.nil (he := star_of rfl)) F_inv (he := star_of rfl) (hdb := by decide))) (fun _ _ => rfl)) (Ss_cons (S_if (T_or (T_cmp (E_call (n := "add") rfl rfl rfl rfl (SoundA.cons (E_name (n := "turned")) (SoundA.cons (E_name (n := "last")) SoundA.nil (he := star_of rfl)) (he := star_of rfl)) F_add (he := star_of rfl) (hdb := by decide)) (E_un E_int O_neg) (C_ne (by omega)) (hm := by with_unfolding_all rfl)) (T_cmp (E_call (n := "ISEOF") rfl rfl rfl rfl (SoundA.cons (E_name (n := "turned")) SoundA.nil (he := star_of rfl)) F_ISEOF (he := star_of rfl) (hdb := by decide)) E_bool C_isNot (hm := by with_unfolding_all rfl))) (Ss_cons (S_ret (E_list SoundA.nil)) Ss_nil) Ss_nil) (Ss_cons (S_drop (M_app (E_name (n := "rows")) (M_of (E_call (n := "and_") rfl rfl rfl rfl (SoundA.cons (E_name (n := "turned")) (SoundA.cons E_int SoundA.nil (he := star_of rfl)) (he := star_of rfl)) F_and (he := star_of rfl) (hdb := by decide))) (he := star_of rfl) (hbase := fun _ => rfl) (hfew := fun _ => rfl) (hpl := plain_of rfl) (hline := rfl)) (hs := fun _ => rfl)) Ss_nil))) (Ss_cons (S_if (T_cmp (E_name (n := "deed")) E_int C_eq (hm := by with_unfolding_all rfl)) (Ss_cons (S_drop (M_app (E_name (n := "rows")) (M_call2 (n := "and_") rfl rfl rfl rfl (M_pop (n := "rows")) (E_name (n := "last")) F_and (he := star_of rfl) (he2 := star_of rfl) (hdb := by decide)) (he := star_of rfl) (hbase := fun _ => rfl) (hfew := fun _ => rfl) (hpl := plain_of rfl) (hline := rfl)) (hs := fun _ => rfl)) Ss_nil) (Ss_cons (S_if (T_cmp (E_name (n := "deed")) E_int C_eq (hm := by with_unfolding_all rfl)) (Ss_cons (S_drop (M_app (E_name (n := "rows")) (M_call2 (n := "or_") rfl rfl rfl rfl (M_pop (n := "rows")) (E_name (n := "last")) F_or (he := star_of rfl) (he2 := star_of rfl) (hdb := by decide)) (he := star_of rfl) (hbase := fun _ => rfl) (hfew := fun _ => rfl) (hpl := plain_of rfl) (hline := rfl)) (hs := fun _ => rfl)) Ss_nil) (Ss_cons (S_ret (E_list SoundA.nil)) Ss_nil)) Ss_nil)) Ss_nil)) Ss_nil)))) (Ss_cons (S_if (T_cmp (E_name (n := "symbol")) E_int C_eq (hm := by with_unfolding_all rfl)) (Ss_cons (S_drop (M_pop (n := "waits")) (hs := fun _ => rfl)) Ss_nil) (Ss_cons (S_drop (M_app (E_name (n := "waits")) (M_of (E_name (n := "symbol"))) (he := star_of rfl) (hbase := fun _ => rfl) (hfew := fun _ => rfl) (hpl := plain_of rfl) (hline := rfl)) (hs := fun _ => rfl)) Ss_nil)) Ss_nil))) Ss_nil)) Ss_nil)) (hs := fun _ _ => rfl)) (Ss_cons (S_ret (E_name (n := "rows"))) Ss_nil))))
    (bind1 fun _ => rfl) (by decide) (by decide)).neat
theorem F_told : SoundV w (lvl + 12) (fun us => call (.ref 135) us) K_told := small_told W_told
theorem W_weighed : SoundV w (lvl + 2) (fun us => call (.ref 142) us) R_weighed :=
  (fun_sound (lvl := lvl + 1) (B := D_weighed) ["letters", "weights"] rfl rfl rfl
    (Ss_cons (S_assign (n := "weight") (.inl rfl) (M_of E_int) (fun _ _ => rfl)) (Ss_cons (S_for (I_enum (E_name (n := "letters")) rfl (he := star_of rfl) (hpl := plain_of rfl)) (G_tup (Gs_cons (G_local (n := "place") rfl) (Gs_cons (G_local (n := "letter") rfl) Gs_nil (he := fun _ => rfl)) (he := fun _ => rfl))) (Ss_cons (S_assign (n := "figure") (.inl rfl) (M_of (E_index E_str (SoundA.cons (E_name (n := "letter")) SoundA.nil (he := star_of rfl)) (he := star_of rfl) (hbase := fun _ => rfl) (hfew := fun _ => rfl) (hpl := plain_of rfl) (hline := rfl))) (fun _ _ => rfl)) (Ss_cons (S_assign (n := "part") (.inl rfl) (M_of E_int) (fun _ _ => rfl)) (Ss_cons (S_for (I_range E_int rfl (he := star_of rfl) (hpl := plain_of rfl)) (G_local (n := "k") rfl) (Ss_cons (S_if (T_cmp (E_bin (E_bin (E_name (n := "figure")) (E_bin E_int (E_name (n := "k")) O_pow) O_div) E_int O_mod) E_int C_eq (hm := by with_unfolding_all rfl)) (Ss_cons (S_assign (n := "part") (.inl rfl) (M_of (E_call (n := "add") rfl rfl rfl rfl (SoundA.cons (E_name (n := "part")) (SoundA.cons (E_call (n := "mul") rfl rfl rfl rfl (SoundA.cons (E_item (E_item (E_name (n := "weights")) E_int (hs := fun _ _ => rfl)) (E_bin (E_name (n := "k")) E_int O_mod) (hs := fun _ _ => rfl)) (SoundA.cons (E_item (E_item (E_name (n := "weights")) E_int (hs := fun _ _ => rfl)) (E_bin (E_name (n := "k")) E_int O_div) (hs := fun _ _ => rfl)) SoundA.nil (he := star_of rfl)) (he := star_of rfl)) F_mul (he := star_of rfl) (hdb := by decide)) SoundA.nil (he := star_of rfl)) (he := star_of rfl)) F_add (he := star_of rfl) (hdb := by decide))) (fun _ _ => rfl)) Ss_nil) Ss_nil) Ss_nil) (hs := fun _ _ => rfl)) (Ss_cons (S_assign (n := "weight") (.inl rfl) (M_of (E_call (n := "add") rfl rfl rfl rfl (SoundA.cons (E_name (n := "weight")) (SoundA.cons (E_call (n := "mul") rfl rfl rfl rfl (SoundA.cons (E_name (n := "part")) (SoundA.cons (E_call (n := "mul") rfl rfl rfl rfl (SoundA.cons (E_item (E_item (E_name (n := "weights")) E_int (hs := fun _ _ => rfl)) (E_bin (E_bin E_int (E_name (n := "place")) O_sub) E_int O_mod) (hs := fun _ _ => rfl)) (SoundA.cons (E_item (E_item (E_name (n := "weights")) E_int (hs := fun _ _ => rfl)) (E_bin (E_bin E_int (E_name (n := "place")) O_sub) E_int O_div) (hs := fun _ _ => rfl)) SoundA.nil (he := star_of rfl)) (he := star_of rfl)) F_mul (he := star_of rfl) (hdb := by decide)) SoundA.nil (he := star_of rfl)) (he := star_of rfl)) F_mul (he := star_of rfl) (hdb := by decide)) SoundA.nil (he := star_of rfl)) (he := star_of rfl)) F_add (he := star_of rfl) (hdb := by decide))) (fun _ _ => rfl)) Ss_nil)))) (hs := fun _ _ => rfl)) (Ss_cons (S_ret (E_name (n := "weight"))) Ss_nil)))
    (bind2 fun _ _ => rfl) (by decide) (by decide)).flat
theorem F_weighed : SoundV w (lvl + 2) (fun us => call (.ref 142) us) K_weighed := small_weighed W_weighed

end Mine
end

section
open PySem PySem.W PyProof.Rows PySem.Calls
set_option Elab.async false
set_option autoImplicit false
set_option maxRecDepth 10000
set_option maxHeartbeats 1000000
namespace Mine
variable {w : World} {lvl : Nat} {sc : Scope}
theorem swap2 {a b : String} {pa pb tpos vpos p1 p2 : Pos} {k k2 : Nat} {f1 f2 : Expr} {a1 a2 : List Expr} {q1 q2 : List Keyword} (ha : sc.names.lookup (Str.ofString a) = some .local) (hb : sc.names.lookup (Str.ofString b) = some .local) (hl : (pb.line == pa.line) = true)
    (hne : (Str.ofString b == Str.ofString a) = false) (env : Env) (hE : EnvOk env sc) :
    swappedStores [.Tuple [.Name (Str.ofString a) pa, .Name (Str.ofString b) pb] k tpos] (.Tuple [.Call f1 a1 q1 p1, .Call f2 a2 q2 p2] k2 vpos) env = pure (some [Str.ofString a, Str.ofString b]) := by
  have h1 : env.kindOf (Str.ofString a) = some .local := by unfold Env.kindOf; rw [hE.same]; exact ha
  have h2 : env.kindOf (Str.ofString b) = some .local := by unfold Env.kindOf; rw [hE.same]; exact hb
  have h3 : env.blockKind = .function := by unfold Env.blockKind; rw [hE.same, hE.kind]; rfl
  have hl' : pb.line = pa.line := eq_of_beq hl
  have hd : ([Str.ofString a, Str.ofString b] : List Str).eraseDups = [Str.ofString a, Str.ofString b] := by
    simp [List.eraseDups_cons, hne]
  unfold swappedStores
  have hq : (ScopeKind.function != ScopeKind.function) = false := rfl
  have e1 : ∀ x p, (Expr.Name x p).pos = p := fun _ _ => rfl
  have e2 : ∀ f a q p, (Expr.Call f a q p).pos = p := fun _ _ _ _ => rfl
  simp only [List.filterMap_cons, List.filterMap_nil, List.head?_cons, Option.map_some, Option.getD_some, e1, e2, h1, h2, h3, hl', hq, beq_self_eq_true, Bool.true_and, if_true, hd]
  rfl

theorem F_law : SoundV w (lvl + 16) (fun us => call (.ref 147) us) (fCall ["script"] D_law) :=
  (fun_sound (lvl := lvl + 15) (B := D_law) ["script"] rfl rfl rfl
    (Ss_cons (S_comp (n := "cells") rfl (I_enum (E_list (SoundA.cons E_int (SoundA.cons E_int (SoundA.cons E_int (SoundA.cons E_int (SoundA.cons E_int (SoundA.cons E_int SoundA.nil (he := star_of rfl)) (he := star_of rfl)) (he := star_of rfl)) (he := star_of rfl)) (he := star_of rfl)) (he := star_of rfl))) rfl (he := star_of rfl) (hpl := plain_of rfl)) (CompOk.mk (fv := ["script"]) (G_tup (Gs_cons (G_local (n := "k") rfl) (Gs_cons (G_local (n := "base") rfl) Gs_nil (he := fun _ => rfl)) (he := fun _ => rfl))) Fs_nil (E_bin (E_name (n := "base")) (E_callB (n := "sum") rfl rfl rfl (SoundA.cons (E_step (E_name (n := "script")) (SoundP.some (E_name (n := "k"))) (SoundP.some E_int) (ht := fun _ _ => rfl)) SoundA.nil (he := star_of rfl)) B_sum (he := star_of rfl) (hpl := plain_of rfl) (hne := by decide) (hdb := by decide)) O_add) rfl (by decide) (by decide) (by decide) (by decide)) rfl (by decide) (hs := fun _ _ => rfl)) (Ss_cons (S_unpack (G_tup (Gs_cons (G_local (n := "low") rfl) (Gs_cons (G_local (n := "count") rfl) (Gs_cons (G_local (n := "other") rfl) (Gs_cons (G_local (n := "number") rfl) Gs_nil (he := fun _ => rfl)) (he := fun _ => rfl)) (he := fun _ => rfl)) (he := fun _ => rfl))) (E_item (E_tup (SoundA.cons (E_tup (SoundA.cons E_int (SoundA.cons E_int (SoundA.cons E_int (SoundA.cons E_int SoundA.nil (he := star_of rfl)) (he := star_of rfl)) (he := star_of rfl)) (he := star_of rfl))) (SoundA.cons (E_tup (SoundA.cons E_int (SoundA.cons E_int (SoundA.cons E_int (SoundA.cons E_int SoundA.nil (he := star_of rfl)) (he := star_of rfl)) (he := star_of rfl)) (he := star_of rfl))) (SoundA.cons (E_tup (SoundA.cons E_int (SoundA.cons E_int (SoundA.cons E_int (SoundA.cons E_int SoundA.nil (he := star_of rfl)) (he := star_of rfl)) (he := star_of rfl)) (he := star_of rfl))) SoundA.nil (he := star_of rfl)) (he := star_of rfl)) (he := star_of rfl))) (E_bin (E_callB (n := "sum") rfl rfl rfl (SoundA.cons (E_name (n := "script")) SoundA.nil (he := star_of rfl)) B_sum (he := star_of rfl) (hpl := plain_of rfl) (hne := by decide) (hdb := by decide)) E_int O_mod) (hs := fun _ _ => rfl)) (hs := fun _ => rfl) (hw := fun _ => rfl)) (Ss_cons (S_assign (n := "one") (.inr rfl) (M_of (E_call (n := "_law_formula") rfl rfl rfl rfl (SoundA.cons (E_item (E_name (n := "cells")) E_int (hs := fun _ _ => rfl)) (SoundA.cons (E_name (n := "low")) (SoundA.cons (E_name (n := "count")) SoundA.nil (he := star_of rfl)) (he := star_of rfl)) (he := star_of rfl)) F_formula (he := star_of rfl) (hdb := by decide))) (fun _ hE => swaps_cell hE rfl)) (Ss_cons (S_assign (n := "two") (.inr rfl) (M_of (E_call (n := "_law_formula") rfl rfl rfl rfl (SoundA.cons (E_item (E_name (n := "cells")) E_int (hs := fun _ _ => rfl)) (SoundA.cons (E_name (n := "other")) (SoundA.cons (E_name (n := "number")) SoundA.nil (he := star_of rfl)) (he := star_of rfl)) (he := star_of rfl)) F_formula (he := star_of rfl) (hdb := by decide))) (fun _ hE => swaps_cell hE rfl)) (Ss_cons (S_assign (n := "weights") (.inr rfl) (M_of (E_comp (I_name (E_sliceL (E_name (n := "cells")) (SoundP.some E_int) SoundP.none (ht := fun _ _ => rfl))) (CompOk.mk (fv := []) (G_local (n := "cell") rfl) Fs_nil (E_tup (SoundA.cons (E_bin E_int (E_bin (E_name (n := "cell")) E_int O_mod) O_add) (SoundA.cons (E_bin E_int (E_bin (E_bin (E_name (n := "cell")) E_int O_div) E_int O_mod) O_add) SoundA.nil (he := star_of rfl)) (he := star_of rfl))) rfl (by decide) (by decide) (by decide) (by decide)) (hs := fun _ _ => rfl))) (fun _ hE => swaps_cell hE rfl)) (Ss_cons (S_assign (n := "f") (.inr rfl) (M_of (E_comp (I_range E_int rfl (he := star_of rfl) (hpl := plain_of rfl)) (CompOk.mk (fv := ["one"]) (G_local (n := "c") rfl) Fs_nil (E_call (n := "_law_truth") rfl rfl rfl rfl (SoundA.cons (E_name (n := "one")) (SoundA.cons (E_name (n := "c")) SoundA.nil (he := star_of rfl)) (he := star_of rfl)) F_truth (he := star_of rfl) (hdb := by decide)) rfl (by decide) (by decide) (by decide) (by decide)) (hs := fun _ _ => rfl))) (fun _ hE => swaps_cell hE rfl)) (Ss_cons (S_assign (n := "g") (.inr rfl) (M_of (E_comp (I_range E_int rfl (he := star_of rfl) (hpl := plain_of rfl)) (CompOk.mk (fv := ["two"]) (G_local (n := "c") rfl) Fs_nil (E_call (n := "_law_truth") rfl rfl rfl rfl (SoundA.cons (E_name (n := "two")) (SoundA.cons (E_name (n := "c")) SoundA.nil (he := star_of rfl)) (he := star_of rfl)) F_truth (he := star_of rfl) (hdb := by decide)) rfl (by decide) (by decide) (by decide) (by decide)) (hs := fun _ _ => rfl))) (fun _ hE => swaps_cell hE rfl)) (Ss_cons (S_assign (n := "dues") (.inl rfl) (M_of (E_list (SoundA.cons (E_name (n := "f")) (SoundA.cons (E_name (n := "g")) (SoundA.cons (E_comp (I_range E_int rfl (he := star_of rfl) (hpl := plain_of rfl)) (CompOk.mk (fv := ["f", "g"]) (G_local (n := "c") rfl) Fs_nil (E_bin (E_item (E_name (n := "f")) (E_name (n := "c")) (hs := fun _ _ => rfl)) (E_item (E_name (n := "g")) (E_name (n := "c")) (hs := fun _ _ => rfl)) O_mul) rfl (by decide) (by decide) (by decide) (by decide)) (hs := fun _ _ => rfl)) (SoundA.cons (E_comp (I_range E_int rfl (he := star_of rfl) (hpl := plain_of rfl)) (CompOk.mk (fv := ["f", "g"]) (G_local (n := "c") rfl) Fs_nil (E_bin (E_item (E_name (n := "f")) (E_name (n := "c")) (hs := fun _ _ => rfl)) (E_bin E_int (E_item (E_name (n := "g")) (E_name (n := "c")) (hs := fun _ _ => rfl)) O_sub) O_mul) rfl (by decide) (by decide) (by decide) (by decide)) (hs := fun _ _ => rfl)) (SoundA.cons (E_comp (I_range E_int rfl (he := star_of rfl) (hpl := plain_of rfl)) (CompOk.mk (fv := ["g"]) (G_local (n := "c") rfl) Fs_nil (E_bin E_int (E_item (E_name (n := "g")) (E_name (n := "c")) (hs := fun _ _ => rfl)) O_sub) rfl (by decide) (by decide) (by decide) (by decide)) (hs := fun _ _ => rfl)) (SoundA.cons (E_bin (E_list (SoundA.cons E_int SoundA.nil (he := star_of rfl))) E_int O_mul) SoundA.nil (he := star_of rfl)) (he := star_of rfl)) (he := star_of rfl)) (he := star_of rfl)) (he := star_of rfl)) (he := star_of rfl)))) (fun _ _ => rfl)) (Ss_cons (S_swap (a := "head") (b := "tail") rfl rfl (E_tup (SoundA.cons (E_call (n := "_law_text") rfl rfl rfl rfl (SoundA.cons (E_name (n := "one")) SoundA.nil (he := star_of rfl)) F_text (he := star_of rfl) (hdb := by decide)) (SoundA.cons (E_call (n := "_law_text") rfl rfl rfl rfl (SoundA.cons (E_name (n := "two")) SoundA.nil (he := star_of rfl)) F_text (he := star_of rfl) (hdb := by decide)) SoundA.nil (he := star_of rfl)) (he := star_of rfl))) (swap2 rfl rfl rfl (by decide)) (hs := fun _ => rfl)) (Ss_cons (S_assign (n := "texts") (.inl rfl) (M_of (E_list (SoundA.cons (E_name (n := "head")) (SoundA.cons (E_name (n := "tail")) (SoundA.cons (E_bin (E_bin (E_bin (E_bin E_str (E_name (n := "head")) O_add) E_str O_add) (E_name (n := "tail")) O_add) E_str O_add) (SoundA.cons (E_bin (E_bin (E_bin (E_bin E_str (E_name (n := "head")) O_add) E_str O_add) (E_name (n := "tail")) O_add) E_str O_add) (SoundA.cons (E_bin (E_bin E_str (E_name (n := "tail")) O_add) E_str O_add) (SoundA.cons (E_bin (E_bin (E_bin (E_name (n := "head")) E_str O_add) (E_name (n := "head")) O_add) E_str O_add) SoundA.nil (he := star_of rfl)) (he := star_of rfl)) (he := star_of rfl)) (he := star_of rfl)) (he := star_of rfl)) (he := star_of rfl)))) (fun _ _ => rfl)) (Ss_cons (S_assign (n := "heaps") (.inl rfl) (M_of (E_list SoundA.nil)) (fun _ _ => rfl)) (Ss_cons (S_for (I_zip (E_name (n := "texts")) (E_name (n := "dues")) rfl (he := star_of rfl) (he2 := star_of rfl) (hpl := plain_of rfl)) (G_tup (Gs_cons (G_local (n := "text") rfl) (Gs_cons (G_cell (n := "due") rfl) Gs_nil (he := fun _ => rfl)) (he := fun _ => rfl))) (Ss_cons (S_assign (n := "rows") (.inl rfl) (M_of (E_call (n := "_law_told") rfl rfl rfl rfl (SoundA.cons (E_name (n := "text")) SoundA.nil (he := star_of rfl)) F_told (he := star_of rfl) (hdb := by decide))) (fun _ _ => rfl)) (Ss_cons (S_if (T_cmp (E_name (n := "rows")) (E_list (SoundA.cons (E_callB (n := "sum") rfl rfl rfl (SoundA.cons (E_comp (I_range E_int rfl (he := star_of rfl) (hpl := plain_of rfl)) (CompOk.mk (fv := ["due"]) (G_local (n := "c") rfl) Fs_nil (E_bin (E_item (E_name (n := "due")) (E_name (n := "c")) (hs := fun _ _ => rfl)) (E_bin E_int (E_name (n := "c")) O_pow) O_mul) rfl (by decide) (by decide) (by decide) (by decide)) (hs := fun _ _ => rfl)) SoundA.nil (he := star_of rfl)) B_sum (he := star_of rfl) (hpl := plain_of rfl) (hne := by decide) (hdb := by decide)) SoundA.nil (he := star_of rfl))) (C_ne (by omega)) (hm := by with_unfolding_all rfl)) (Ss_cons (S_ret E_bool) Ss_nil) Ss_nil) (Ss_cons (S_if (T_or (T_cmp (E_call (n := "ISEOF") rfl rfl rfl rfl (SoundA.cons (E_item (E_name (n := "rows")) E_int (hs := fun _ _ => rfl)) SoundA.nil (he := star_of rfl)) F_ISEOF (he := star_of rfl) (hdb := by decide)) (E_cmp (E_callB (n := "sum") rfl rfl rfl (SoundA.cons (E_name (n := "due")) SoundA.nil (he := star_of rfl)) B_sum (he := star_of rfl) (hpl := plain_of rfl) (hne := by decide) (hdb := by decide)) E_int C_eq (hm := by with_unfolding_all rfl)) C_isNot (hm := by with_unfolding_all rfl)) (T_cmp (E_call (n := "ISNONTERMINAL") rfl rfl rfl rfl (SoundA.cons (E_item (E_name (n := "rows")) E_int (hs := fun _ _ => rfl)) SoundA.nil (he := star_of rfl)) F_ISNONTERMINAL (he := star_of rfl) (hdb := by decide)) (E_cmp (E_callB (n := "sum") rfl rfl rfl (SoundA.cons (E_sliceL (E_name (n := "due")) (SoundP.some E_int) SoundP.none (ht := fun _ _ => rfl)) SoundA.nil (he := star_of rfl)) B_sum (he := star_of rfl) (hpl := plain_of rfl) (hne := by decide) (hdb := by decide)) E_int C_gt (hm := by with_unfolding_all rfl)) C_isNot (hm := by with_unfolding_all rfl))) (Ss_cons (S_ret E_bool) Ss_nil) Ss_nil) (Ss_cons (S_assign (n := "word") (.inl rfl) (M_of (E_decode (E_call (n := "Int2AP") rfl rfl rfl rfl (SoundA.cons (E_if (T_val (E_bin (E_item (E_name (n := "rows")) E_int (hs := fun _ _ => rfl)) E_int O_mod) (he := fun _ _ => rfl)) (E_item (E_name (n := "rows")) E_int (hs := fun _ _ => rfl)) (E_un (E_item (E_name (n := "rows")) E_int (hs := fun _ _ => rfl)) O_neg)) SoundA.nil (he := star_of rfl)) F_Int2AP (he := star_of rfl) (hdb := by decide)) (hbase := fun _ => rfl) (hfew := fun _ => rfl) (hpl := plain_of rfl) (hline := rfl))) (fun _ _ => rfl)) (Ss_cons (S_drop (M_app (E_name (n := "heaps")) (M_of (E_call (n := "_law_weighed") rfl rfl rfl rfl (SoundA.cons (E_sliceS (E_bin E_str (E_name (n := "word")) O_add) (SoundP.some (E_un E_int O_neg)) SoundP.none (ht := fun _ _ _ => rfl)) (SoundA.cons (E_name (n := "weights")) SoundA.nil (he := star_of rfl)) (he := star_of rfl)) F_weighed (he := star_of rfl) (hdb := by decide))) (he := star_of rfl) (hbase := fun _ => rfl) (hfew := fun _ => rfl) (hpl := plain_of rfl) (hline := rfl)) (hs := fun _ => rfl)) (Ss_cons (S_comp (n := "heavy") rfl (I_range E_int rfl (he := star_of rfl) (hpl := plain_of rfl)) (CompOk.mk (fv := ["weights", "due"]) (G_local (n := "c") rfl) Fs_nil (E_bin (E_bin (E_bin (E_bin (E_item (E_name (n := "due")) (E_name (n := "c")) (hs := fun _ _ => rfl)) (E_item (E_item (E_name (n := "weights")) E_int (hs := fun _ _ => rfl)) (E_bin (E_name (n := "c")) E_int O_mod) (hs := fun _ _ => rfl)) O_mul) (E_item (E_item (E_name (n := "weights")) E_int (hs := fun _ _ => rfl)) (E_bin (E_bin (E_name (n := "c")) E_int O_div) E_int O_mod) (hs := fun _ _ => rfl)) O_mul) (E_item (E_item (E_name (n := "weights")) E_int (hs := fun _ _ => rfl)) (E_bin (E_bin (E_name (n := "c")) E_int O_div) E_int O_mod) (hs := fun _ _ => rfl)) O_mul) (E_item (E_item (E_name (n := "weights")) E_int (hs := fun _ _ => rfl)) (E_bin (E_name (n := "c")) E_int O_div) (hs := fun _ _ => rfl)) O_mul) rfl (by decide) (by decide) (by decide) (by decide)) rfl (by decide) (hs := fun _ _ => rfl)) (Ss_cons (S_if (T_or (T_cmp (E_sliceS (E_name (n := "word")) SoundP.none (SoundP.some E_int) (ht := fun _ _ _ => rfl)) E_str C_eq (hm := by with_unfolding_all rfl)) (T_cmp (E_item (E_name (n := "heaps")) (E_un E_int O_neg) (hs := fun _ _ => rfl)) (E_callB (n := "sum") rfl rfl rfl (SoundA.cons (E_name (n := "heavy")) SoundA.nil (he := star_of rfl)) B_sum (he := star_of rfl) (hpl := plain_of rfl) (hne := by decide) (hdb := by decide)) (C_ne (by omega)) (hm := by with_unfolding_all rfl))) (Ss_cons (S_ret E_bool) Ss_nil) Ss_nil) Ss_nil))))))) (hs := fun _ _ => rfl)) (Ss_cons (S_assign (n := "share") (.inl rfl) (M_of (E_cmp (E_comp (I_range E_int rfl (he := star_of rfl) (hpl := plain_of rfl)) (CompOk.mk (fv := ["f", "g"]) (G_local (n := "k") rfl) (Fs_one (T_and (T_val (E_call (n := "_law_matters") rfl rfl rfl rfl (SoundA.cons (E_name (n := "f")) (SoundA.cons (E_name (n := "k")) SoundA.nil (he := star_of rfl)) (he := star_of rfl)) F_matters (he := star_of rfl) (hdb := by decide)) (he := fun _ _ => rfl)) (T_val (E_call (n := "_law_matters") rfl rfl rfl rfl (SoundA.cons (E_name (n := "g")) (SoundA.cons (E_name (n := "k")) SoundA.nil (he := star_of rfl)) (he := star_of rfl)) F_matters (he := star_of rfl) (hdb := by decide)) (he := fun _ _ => rfl)))) (E_name (n := "k")) rfl (by decide) (by decide) (by decide) (by decide)) (hs := fun _ _ => rfl)) (E_list SoundA.nil) (C_ne (by omega)) (hm := by with_unfolding_all rfl))) (fun _ _ => rfl)) (Ss_cons (S_assign (n := "truth") (.inr rfl) (M_of (E_list (SoundA.cons (E_name (n := "share")) (SoundA.cons (E_name (n := "share")) (SoundA.cons (E_un (E_name (n := "share")) O_not) (SoundA.cons (E_un (E_name (n := "share")) O_not) (SoundA.cons E_bool (SoundA.cons E_bool (SoundA.cons E_bool (SoundA.cons E_bool SoundA.nil (he := star_of rfl)) (he := star_of rfl)) (he := star_of rfl)) (he := star_of rfl)) (he := star_of rfl)) (he := star_of rfl)) (he := star_of rfl)) (he := star_of rfl)))) (fun _ hE => swaps_cell hE rfl)) (Ss_cons (S_for (I_list (E_list (SoundA.cons (E_tup (SoundA.cons (E_call (n := "mul") rfl rfl rfl rfl (SoundA.cons (E_item (E_name (n := "heaps")) E_int (hs := fun _ _ => rfl)) (SoundA.cons (E_item (E_name (n := "heaps")) E_int (hs := fun _ _ => rfl)) SoundA.nil (he := star_of rfl)) (he := star_of rfl)) F_mul (he := star_of rfl) (hdb := by decide)) (SoundA.cons (E_call (n := "mul") rfl rfl rfl rfl (SoundA.cons (E_item (E_name (n := "heaps")) E_int (hs := fun _ _ => rfl)) (SoundA.cons (E_item (E_name (n := "heaps")) E_int (hs := fun _ _ => rfl)) SoundA.nil (he := star_of rfl)) (he := star_of rfl)) F_mul (he := star_of rfl) (hdb := by decide)) SoundA.nil (he := star_of rfl)) (he := star_of rfl))) (SoundA.cons (E_tup (SoundA.cons (E_call (n := "mul") rfl rfl rfl rfl (SoundA.cons (E_item (E_name (n := "heaps")) E_int (hs := fun _ _ => rfl)) (SoundA.cons (E_item (E_name (n := "heaps")) E_int (hs := fun _ _ => rfl)) SoundA.nil (he := star_of rfl)) (he := star_of rfl)) F_mul (he := star_of rfl) (hdb := by decide)) (SoundA.cons (E_call (n := "mul") rfl rfl rfl rfl (SoundA.cons (E_item (E_name (n := "heaps")) E_int (hs := fun _ _ => rfl)) (SoundA.cons (E_item (E_name (n := "heaps")) E_int (hs := fun _ _ => rfl)) SoundA.nil (he := star_of rfl)) (he := star_of rfl)) F_mul (he := star_of rfl) (hdb := by decide)) SoundA.nil (he := star_of rfl)) (he := star_of rfl))) SoundA.nil (he := star_of rfl)) (he := star_of rfl)))) (G_tup (Gs_cons (G_local (n := "least") rfl) (Gs_cons (G_local (n := "most") rfl) Gs_nil (he := fun _ => rfl)) (he := fun _ => rfl))) (Ss_cons (S_assign (n := "told") (.inr rfl) (M_of (E_list (SoundA.cons (E_call (n := "lt") rfl rfl rfl rfl (SoundA.cons (E_name (n := "least")) (SoundA.cons (E_name (n := "most")) SoundA.nil (he := star_of rfl)) (he := star_of rfl)) F_lt (he := star_of rfl) (hdb := by decide)) (SoundA.cons (E_call (n := "gt") rfl rfl rfl rfl (SoundA.cons (E_name (n := "most")) (SoundA.cons (E_name (n := "least")) SoundA.nil (he := star_of rfl)) (he := star_of rfl)) F_gt (he := star_of rfl) (hdb := by decide)) (SoundA.cons (E_call (n := "ge") rfl rfl rfl rfl (SoundA.cons (E_name (n := "least")) (SoundA.cons (E_name (n := "most")) SoundA.nil (he := star_of rfl)) (he := star_of rfl)) F_ge (he := star_of rfl) (hdb := by decide)) (SoundA.cons (E_call (n := "le") rfl rfl rfl rfl (SoundA.cons (E_name (n := "most")) (SoundA.cons (E_name (n := "least")) SoundA.nil (he := star_of rfl)) (he := star_of rfl)) F_le (he := star_of rfl) (hdb := by decide)) SoundA.nil (he := star_of rfl)) (he := star_of rfl)) (he := star_of rfl)) (he := star_of rfl)))) (fun _ hE => swaps_cell hE rfl)) (Ss_cons (S_assign (n := "told") (.inr rfl) (M_of (E_bin (E_name (n := "told")) (E_list (SoundA.cons (E_call (n := "le") rfl rfl rfl rfl (SoundA.cons (E_name (n := "least")) (SoundA.cons (E_name (n := "most")) SoundA.nil (he := star_of rfl)) (he := star_of rfl)) F_le (he := star_of rfl) (hdb := by decide)) (SoundA.cons (E_call (n := "ge") rfl rfl rfl rfl (SoundA.cons (E_name (n := "most")) (SoundA.cons (E_name (n := "least")) SoundA.nil (he := star_of rfl)) (he := star_of rfl)) F_ge (he := star_of rfl) (hdb := by decide)) (SoundA.cons (E_call (n := "lt") rfl rfl rfl rfl (SoundA.cons (E_name (n := "most")) (SoundA.cons (E_name (n := "least")) SoundA.nil (he := star_of rfl)) (he := star_of rfl)) F_lt (he := star_of rfl) (hdb := by decide)) (SoundA.cons (E_call (n := "gt") rfl rfl rfl rfl (SoundA.cons (E_name (n := "least")) (SoundA.cons (E_name (n := "most")) SoundA.nil (he := star_of rfl)) (he := star_of rfl)) F_gt (he := star_of rfl) (hdb := by decide)) SoundA.nil (he := star_of rfl)) (he := star_of rfl)) (he := star_of rfl)) (he := star_of rfl))) O_add)) (fun _ hE => swaps_cell hE rfl)) (Ss_cons (S_if (T_cmp (E_comp (I_range E_int rfl (he := star_of rfl) (hpl := plain_of rfl)) (CompOk.mk (fv := ["told", "truth"]) (G_local (n := "k") rfl) (Fs_one (T_cmp (E_item (E_name (n := "told")) (E_name (n := "k")) (hs := fun _ _ => rfl)) (E_item (E_name (n := "truth")) (E_name (n := "k")) (hs := fun _ _ => rfl)) C_isNot (hm := by with_unfolding_all rfl))) (E_name (n := "k")) rfl (by decide) (by decide) (by decide) (by decide)) (hs := fun _ _ => rfl)) (E_list SoundA.nil) (C_ne (by omega)) (hm := by with_unfolding_all rfl)) (Ss_cons (S_ret E_bool) Ss_nil) Ss_nil) Ss_nil))) (hs := fun _ _ => rfl)) (Ss_cons (S_ret E_bool) Ss_nil))))))))))))))))
    (bind1 fun _ => rfl) (by decide) (by decide))
end Mine
end

section
open PySem PySem.W PyProof.Rows PySem.Calls
set_option Elab.async false
set_option autoImplicit false
set_option maxRecDepth 100000
set_option maxHeartbeats 1000000
namespace Mine

/-- comprehensions, plainly -/
theorem compGo_filter {T : Tgt} {t : Tst} {d : Den} {σ : Store} (P : Loc → Prop) (p : V → Bool) (f : V → V) : ∀ {items : List V} {ρ : Loc}, P ρ →
    (∀ v ∈ items, ∀ ρ, P ρ → ∃ ρ1, T v ρ = some ρ1 ∧ P ρ1 ∧ t ρ1 σ = some (p v) ∧ (p v = true → (∃ σ1, d ρ1 σ = some (f v, σ1)) ∧ (f v).solid = true)) →
    compGo T t d items ρ σ = some ((items.filter p).map f)
  | [], _, _, _ => rfl
  | v :: rest, ρ, h, hs => by
    obtain ⟨ρ1, h1, h2, h3, h4⟩ := hs v List.mem_cons_self ρ h
    have ih := compGo_filter P p f (items := rest) h2 fun x hx => hs x (List.mem_cons_of_mem _ hx)
    unfold compGo
    rw [h1]
    dsimp only
    rw [h3]
    cases hp : p v with
    | false =>
      dsimp only
      rw [ih, List.filter_cons, hp]; rfl
    | true =>
      obtain ⟨⟨σ1, h5⟩, h6⟩ := h4 hp
      dsimp only
      rw [h5]
      dsimp only
      rw [if_pos h6, ih, List.filter_cons, hp]; rfl
theorem compGo_map {T : Tgt} {d : Den} {σ : Store} (P : Loc → Prop) (f : V → V) {items : List V} {ρ : Loc} (h : P ρ)
    (hs : ∀ v ∈ items, ∀ ρ, P ρ → ∃ ρ1, T v ρ = some ρ1 ∧ P ρ1 ∧ (∃ σ1, d ρ1 σ = some (f v, σ1)) ∧ (f v).solid = true) :
    compGo T tYes d items ρ σ = some (items.map f) := by
  rw [compGo_filter P (fun _ => true) f h fun v hv ρ hρ => let ⟨ρ1, a, b, c, e⟩ := hs v hv ρ hρ; ⟨ρ1, a, b, rfl, fun _ => ⟨c, e⟩⟩]
  rw [List.filter_eq_self.mpr (fun _ _ => rfl)]
theorem dComp_map {It : ItD} {fv : List String} {T : Tgt} {d : Den} {ρ : Loc} {σ σ1 : Store} {items : List V} {fz : Nat} (P : Loc → Prop) (f : V → V) (hI : It ρ σ = some (items, σ1, fz)) (h : P (only fv ρ)) (hc : items.length ≤ cap)
    (hs : ∀ v ∈ items, ∀ ρ, P ρ → ∃ ρ1, T v ρ = some ρ1 ∧ P ρ1 ∧ (∃ σ2, d ρ1 σ1 = some (f v, σ2)) ∧ (f v).solid = true) :
    dComp It fv T tYes d ρ σ = some (.lst σ1.length, σ1 ++ [items.map f]) := by
  unfold dComp
  rw [hI]
  dsimp only
  rw [compGo_map P f h hs]
  dsimp only
  unfold alloc
  rw [if_pos (by simpa using hc)]
theorem seq_next {a b : SDen} {lo : Nat} {ρ ρ1 : Loc} {σ σ1 : Store} (h : a lo ρ σ = some (.next, ρ1, σ1)) : sSeq a b lo ρ σ = b lo ρ1 σ1 := by
  unfold sSeq; rw [h]
theorem set_next {n : String} {d : Den} {lo : Nat} {ρ : Loc} {σ σ1 : Store} {v : V} (h : d ρ σ = some (v, σ1)) : sSet n (mOf d) lo ρ σ = some (.next, upd ρ n v, σ1) := by
  unfold sSet mOf; rw [h]

theorem d2_eq {f : Fn} {a b : Den} {ρ : Loc} {σ σ1 σ2 : Store} {x y : V} (h1 : a ρ σ = some (x, σ1)) (h2 : b ρ σ1 = some (y, σ2)) : d2 f a b ρ σ = f [x, y] σ2 := by
  unfold d2; rw [h1]; dsimp only; rw [h2]
theorem d1_eq {f : Fn} {a : Den} {ρ : Loc} {σ σ1 : Store} {x : V} (h1 : a ρ σ = some (x, σ1)) : d1 f a ρ σ = f [x] σ1 := by
  unfold d1; rw [h1]
theorem dName_eq {n : String} {ρ : Loc} {σ : Store} {v : V} (h : ρ n = some v) : dName n ρ σ = some (v, σ) := by
  unfold dName; rw [h]
theorem ret_eq {d : Den} {lo : Nat} {ρ : Loc} {σ σ1 : Store} {v : V} (h : d ρ σ = some (v, σ1)) : sRet d lo ρ σ = some (.ret v, ρ, σ1) := by
  unfold sRet; rw [h]
theorem seq_ret {a b : SDen} {lo : Nat} {ρ ρ1 : Loc} {σ σ1 : Store} {v : V} (h : a lo ρ σ = some (.ret v, ρ1, σ1)) : sSeq a b lo ρ σ = some (.ret v, ρ1, σ1) := by
  unfold sSeq; rw [h]
noncomputable def ans : Option (Fl × Loc × Store) → Option V
  | some (.ret v, _, _) => some v
  | _ => none
theorem fCall_fst {ns : List String} {B : SDen} {vs : List V} {σ : Store} {v : V} (hl : vs.length = ns.length) (h : ans (B σ.length (locOf ns vs) σ) = some v) : (fFlat (fCall ns B) vs σ).map (·.1) = some v := by
  unfold ans at h
  split at h
  · rename_i v' r s hb
    cases h
    unfold fFlat fCall
    rw [if_pos hl, hb]
    rfl
  · cases h

noncomputable def sg (b : Bool) : V := .str (if b then Str.ofString "|" else Str.ofString "&")
noncomputable def flatGoP (acc : Option Int) (cur : Int) : List Int → List Bool → Int
  | v :: vs, s :: ss => if s then flatGoP (some (match acc with | none => cur | some m => max m cur)) v vs ss else flatGoP acc (min cur v) vs ss
  | _, _ => match acc with | none => cur | some m => max m cur
noncomputable def flatP : List Int → List Bool → Int
  | v :: vs, ss => flatGoP none v vs ss
  | [], _ => 0
noncomputable def pairOf : Nat → Nat × Nat
  | 0 => (4, 4) | 1 => (0, 1) | 2 => (1, 2) | 3 => (2, 3) | 4 => (0, 2) | _ => (1, 3)
noncomputable def truthP (g : Nat) (vs : List Int) (ss : List Bool) : Int :=
  if g = 0 then flatP vs ss else
    flatP (vs.take (pairOf g).1 ++ [flatP ((vs.take ((pairOf g).2 + 1)).drop (pairOf g).1) ((ss.take (pairOf g).2).drop (pairOf g).1)] ++ vs.drop ((pairOf g).2 + 1)) (ss.take (pairOf g).1 ++ ss.drop (pairOf g).2)
noncomputable def fm (g : Nat) (i j : Nat) : V := .tup [.lst i, .lst j, .int (pairOf g).1, .int (pairOf g).2]
noncomputable def rho0 (g : Nat) (c : Int) : Loc := upd (upd (upd (upd (locOf ["formula", "c"] [fm g 0 1, .int c]) "names" (.lst 0)) "signs" (.lst 1)) "first" (.int (pairOf g).1)) "last" (.int (pairOf g).2)
noncomputable def D_rest : SDen := sSeq D_truth2 (sSeq D_truth3 (sSeq D_truth4 sDone))
theorem rest0 (a b c d n0 n1 n2 n3 cc : Int) (s0 s1 s2 : Bool) : ans (D_rest 2 (upd (rho0 0 cc) "values" (.lst 2)) [[.int n0, .int n1, .int n2, .int n3], [s0, s1, s2].map sg, [.int a, .int b, .int c, .int d]]) = some (.int (truthP 0 [a, b, c, d] [s0, s1, s2])) := by
  cases s0 <;> cases s1 <;> cases s2 <;> kernel_rfl
theorem rest1 (a b c d n0 n1 n2 n3 cc : Int) (s0 s1 s2 : Bool) : ans (D_rest 2 (upd (rho0 1 cc) "values" (.lst 2)) [[.int n0, .int n1, .int n2, .int n3], [s0, s1, s2].map sg, [.int a, .int b, .int c, .int d]]) = some (.int (truthP 1 [a, b, c, d] [s0, s1, s2])) := by
  cases s0 <;> cases s1 <;> cases s2 <;> kernel_rfl
theorem rest2 (a b c d n0 n1 n2 n3 cc : Int) (s0 s1 s2 : Bool) : ans (D_rest 2 (upd (rho0 2 cc) "values" (.lst 2)) [[.int n0, .int n1, .int n2, .int n3], [s0, s1, s2].map sg, [.int a, .int b, .int c, .int d]]) = some (.int (truthP 2 [a, b, c, d] [s0, s1, s2])) := by
  cases s0 <;> cases s1 <;> cases s2 <;> kernel_rfl
theorem rest3 (a b c d n0 n1 n2 n3 cc : Int) (s0 s1 s2 : Bool) : ans (D_rest 2 (upd (rho0 3 cc) "values" (.lst 2)) [[.int n0, .int n1, .int n2, .int n3], [s0, s1, s2].map sg, [.int a, .int b, .int c, .int d]]) = some (.int (truthP 3 [a, b, c, d] [s0, s1, s2])) := by
  cases s0 <;> cases s1 <;> cases s2 <;> kernel_rfl
theorem rest4 (a b c d n0 n1 n2 n3 cc : Int) (s0 s1 s2 : Bool) : ans (D_rest 2 (upd (rho0 4 cc) "values" (.lst 2)) [[.int n0, .int n1, .int n2, .int n3], [s0, s1, s2].map sg, [.int a, .int b, .int c, .int d]]) = some (.int (truthP 4 [a, b, c, d] [s0, s1, s2])) := by
  cases s0 <;> cases s1 <;> cases s2 <;> kernel_rfl
theorem rest5 (a b c d n0 n1 n2 n3 cc : Int) (s0 s1 s2 : Bool) : ans (D_rest 2 (upd (rho0 5 cc) "values" (.lst 2)) [[.int n0, .int n1, .int n2, .int n3], [s0, s1, s2].map sg, [.int a, .int b, .int c, .int d]]) = some (.int (truthP 5 [a, b, c, d] [s0, s1, s2])) := by
  cases s0 <;> cases s1 <;> cases s2 <;> kernel_rfl
theorem restAll {g : Nat} (hg : g < 6) (a b c d n0 n1 n2 n3 cc : Int) (s0 s1 s2 : Bool) : ans (D_rest 2 (upd (rho0 g cc) "values" (.lst 2)) [[.int n0, .int n1, .int n2, .int n3], [s0, s1, s2].map sg, [.int a, .int b, .int c, .int d]]) = some (.int (truthP g [a, b, c, d] [s0, s1, s2])) := by
  match g, hg with
  | 0, _ => exact rest0 ..
  | 1, _ => exact rest1 ..
  | 2, _ => exact rest2 ..
  | 3, _ => exact rest3 ..
  | 4, _ => exact rest4 ..
  | 5, _ => exact rest5 ..
noncomputable def vbit (c n : Nat) : Int := ((c / 2 ^ n % 2 : Nat) : Int)
theorem elemBit {ρ : Loc} {σ : Store} {c n : Nat} (hn : n < 4) (hc : ρ "c" = some (.int c)) (h : ρ "name" = some (.int n)) :
    d2 (f2 (int2 gMod)) (d2 (f2 (int2 gDiv)) (dName "c") (d2 (f2 (int2 gPow)) (dInt 2) (dName "name"))) (dInt 2) ρ σ = some (.int (vbit c n), σ) := by
  have e1 : dName "c" ρ σ = some (.int c, σ) := by unfold dName; rw [hc]
  have e2 : dName "name" ρ σ = some (.int n, σ) := by unfold dName; rw [h]
  have e3 : d2 (f2 (int2 gPow)) (dInt 2) (dName "name") ρ σ = some (.int ((2 ^ n : Nat) : Int), σ) := by
    rw [d2_eq (σ1 := σ) (x := .int 2) rfl e2]
    match n, hn with
    | 0, _ => rfl
    | 1, _ => rfl
    | 2, _ => rfl
    | 3, _ => rfl
  have e4 : d2 (f2 (int2 gDiv)) (dName "c") (d2 (f2 (int2 gPow)) (dInt 2) (dName "name")) ρ σ = some (.int ((c / 2 ^ n : Nat) : Int), σ) := by
    rw [d2_eq e1 e3]
    match n, hn with
    | 0, _ => rfl
    | 1, _ => rfl
    | 2, _ => rfl
    | 3, _ => rfl
  rw [d2_eq e4 (y := .int 2) rfl]
  rfl
theorem truth_raw {g c n0 n1 n2 n3 : Nat} (hg : g < 6) (h0 : n0 < 4) (h1 : n1 < 4) (h2 : n2 < 4) (h3 : n3 < 4) (s0 s1 s2 : Bool) :
    (R_truth [fm g 0 1, .int c] [[.int n0, .int n1, .int n2, .int n3], [s0, s1, s2].map sg]).map (·.1) = some (.int (truthP g [vbit c n0, vbit c n1, vbit c n2, vbit c n3] [s0, s1, s2])) := by
  have a0 : D_truth0 2 (locOf ["formula", "c"] [fm g 0 1, .int c]) [[.int n0, .int n1, .int n2, .int n3], [s0, s1, s2].map sg] = some (.next, rho0 g c, [[.int n0, .int n1, .int n2, .int n3], [s0, s1, s2].map sg]) := rfl
  have a1 : D_truth1 2 (rho0 g c) [[.int n0, .int n1, .int n2, .int n3], [s0, s1, s2].map sg] = some (.next, upd (rho0 g c) "values" (.lst 2), [[.int n0, .int n1, .int n2, .int n3], [s0, s1, s2].map sg, [.int (vbit c n0), .int (vbit c n1), .int (vbit c n2), .int (vbit c n3)]]) := by
    refine set_next (v := .lst 2) (σ1 := [[.int n0, .int n1, .int n2, .int n3], [s0, s1, s2].map sg, [.int (vbit c n0), .int (vbit c n1), .int (vbit c n2), .int (vbit c n3)]]) ?_
    refine (dComp_map (items := [.int n0, .int n1, .int n2, .int n3]) (σ1 := [[.int n0, .int n1, .int n2, .int n3], [s0, s1, s2].map sg]) (fz := 1) (fun ρ => ρ "c" = some (.int c)) (fun v => match v with | .int n => .int (vbit c n.toNat) | _ => .none) rfl rfl (Nat.le_of_ble_eq_true rfl) ?_).trans ?_
    · intro v hv ρ hρ
      have key : ∀ n : Nat, n < 4 → v = .int n → ∃ ρ1, tName "name" v ρ = some ρ1 ∧ ρ1 "c" = some (.int c) ∧ (∃ σ2, d2 (f2 (int2 gMod)) (d2 (f2 (int2 gDiv)) (dName "c") (d2 (f2 (int2 gPow)) (dInt 2) (dName "name"))) (dInt 2) ρ1 [[.int n0, .int n1, .int n2, .int n3], [s0, s1, s2].map sg] = some ((match v with | .int n => V.int (vbit c n.toNat) | _ => .none), σ2)) ∧ (match v with | .int n => V.int (vbit c n.toNat) | _ => .none).solid = true := by
        rintro n hn rfl
        refine ⟨_, rfl, ?_, ⟨_, elemBit (n := n) (c := c) hn ?_ ?_⟩, rfl⟩
        · show upd ρ "name" _ "c" = _
          simp [upd, hρ]
        · simp [upd, hρ]
        · simp [upd]
      simp only [List.mem_cons, List.not_mem_nil, or_false] at hv
      rcases hv with rfl | rfl | rfl | rfl
      · exact key n0 h0 rfl
      · exact key n1 h1 rfl
      · exact key n2 h2 rfl
      · exact key n3 h3 rfl
    · rfl
  have a2 := restAll hg (vbit c n0) (vbit c n1) (vbit c n2) (vbit c n3) n0 n1 n2 n3 c s0 s1 s2
  refine fCall_fst rfl ?_
  show ans (D_truth 2 (locOf ["formula", "c"] [fm g 0 1, .int c]) [[.int n0, .int n1, .int n2, .int n3], [s0, s1, s2].map sg]) = _
  unfold D_truth
  rw [seq_next a0, seq_next a1]
  exact a2
end Mine
end

section
open PySem PySem.W PyProof.Rows PySem.Calls
set_option Elab.async false
set_option autoImplicit false
set_option maxRecDepth 100000
set_option maxHeartbeats 1000000
namespace Mine

/-- texts by their codes -/
noncomputable def S (l : List Nat) : Str := ⟨l.toArray⟩
theorem S_app (a b : List Nat) : S a ++ S b = S (a ++ b) := by
  show (⟨a.toArray ++ b.toArray⟩ : Str) = ⟨(a ++ b).toArray⟩
  rw [List.append_toArray]
theorem S_len (a : List Nat) : (S a).length = a.length := by
  show a.toArray.size = _; simp
theorem add_str {a b : List Nat} {σ : Store} (h : a.length + b.length ≤ 100000) : fAdd [.str (S a), .str (S b)] σ = some (.str (S (a ++ b)), σ) := by
  unfold fAdd
  dsimp only
  rw [S_len, S_len, if_pos h, S_app]
theorem lparen : Str.ofString "(" = S [40] := rfl
theorem rparen : Str.ofString ")" = S [41] := rfl
theorem empty_is : Str.ofString "" = S [] := rfl
theorem barS : Str.ofString "|" = S [124] := rfl
theorem ampS : Str.ofString "&" = S [38] := rfl
theorem wxyz : Str.ofString "wxyz" = S [119, 120, 121, 122] := rfl
noncomputable def sc (b : Bool) : Nat := if b then 124 else 38
theorem sg_is (b : Bool) : sg b = .str (S [sc b]) := by cases b <;> rfl
theorem letter_item {n : Nat} {σ : Store} (h : n < 4) : fItem [.str (S [119, 120, 121, 122]), .int n] σ = some (.str (S [119 + n]), σ) := by
  match n, h with
  | 0, _ => rfl
  | 1, _ => rfl
  | 2, _ => rfl
  | 3, _ => rfl
theorem dIf_eq {t : Tst} {a b : Den} {ρ : Loc} {σ : Store} {c : Bool} (h : t ρ σ = some c) : dIf t a b ρ σ = if c then a ρ σ else b ρ σ := by
  unfold dIf; rw [h]; cases c <;> rfl
theorem t2_eq {f : Fn} {a b : Den} {ρ : Loc} {σ σ1 σ2 σ3 : Store} {x y : V} {c : Bool} (h1 : a ρ σ = some (x, σ1)) (h2 : b ρ σ1 = some (y, σ2)) (h3 : f [x, y] σ2 = some (.bool c, σ3)) : t2 f a b ρ σ = some c := by
  unfold t2; rw [d2_eq h1 h2, h3]
theorem flat_eq {d : Den} {ρ : Loc} {σ σ1 : Store} {v : V} (h : d ρ σ = some (v, σ1)) (hv : v.flat = true) : dFlat d ρ σ = some (v, σ) := by
  unfold dFlat; rw [h]; dsimp only; rw [hv]; rfl

/-- one turn of the text's loop: the k-th letter with its brackets, then its sign -/
noncomputable def paren (a b : Nat) (c : Nat) : List Nat := if a = b then [c] else []
noncomputable def nthSign (ss : List Bool) (k : Nat) : List Nat := match ss[k]? with
  | some b => [sc b]
  | none => []
noncomputable def piece (ns : List Nat) (ss : List Bool) (f l k : Nat) : List Nat := paren k f 40 ++ [119 + ns.getD k 0] ++ paren k l 41 ++ nthSign ss k
noncomputable def textTurn : SDen := sSeq (sSet "text" (mOf (d2 fAdd (d2 fAdd (d2 fAdd (dName "text") (dIf (t2 (f2 gEq) (dName "k") (dName "first")) (dStr "(") (dStr ""))) (dFlat (d2 fItem (dStr "wxyz") (dFlat (d2 fItem (dName "names") (dName "k")))))) (dIf (t2 (f2 gEq) (dName "k") (dName "last")) (dStr ")") (dStr ""))))) (sSeq (sSet "text" (mOf (d2 fAdd (dName "text") (dFlat (d2 fItem (d2 fAdd (dName "signs") (dList [(dStr "")])) (dName "k")))))) sDone)
theorem text2_is : D_text2 = sFor (dRange (dInt 4)) (tName "k") textTurn := rfl
structure TextAt (n0 n1 n2 n3 : Nat) (s0 s1 s2 : Bool) (f l : Nat) (t : List Nat) (ρ : Loc) : Prop where
  names : ρ "names" = some (.lst 0)
  signs : ρ "signs" = some (.lst 1)
  first : ρ "first" = some (.int f)
  last : ρ "last" = some (.int l)
  text : ρ "text" = some (.str (S t))
noncomputable def textStore (n0 n1 n2 n3 : Nat) (s0 s1 s2 : Bool) : Store := [[.int n0, .int n1, .int n2, .int n3], [s0, s1, s2].map sg]
theorem eq_int {a b : Nat} {σ : Store} : f2 gEq [.int a, .int b] σ = some (.bool (decide (a = b)), σ) := by
  show some (V.bool (((a : Int)) == (b : Int)), σ) = _
  congr 3
  by_cases h : a = b
  · subst h; simp
  · have : (a : Int) ≠ b := by omega
    simp [h, this]
theorem turnText {n0 n1 n2 n3 : Nat} {s0 s1 s2 : Bool} {f l k lo : Nat} {t : List Nat} {ρ : Loc} (h0 : n0 < 4) (h1 : n1 < 4) (h2 : n2 < 4) (h3 : n3 < 4) (hk : k < 4) (ht : t.length ≤ 1000) (T : TextAt n0 n1 n2 n3 s0 s1 s2 f l t ρ) :
    ∃ ρ', textTurn lo (upd ρ "k" (.int k)) (textStore n0 n1 n2 n3 s0 s1 s2) = some (.next, ρ', textStore n0 n1 n2 n3 s0 s1 s2) ∧ TextAt n0 n1 n2 n3 s0 s1 s2 f l (t ++ piece [n0, n1, n2, n3] [s0, s1, s2] f l k) ρ' := by
  obtain ⟨T1, T2, T3, T4, T5⟩ := T
  generalize hσ : textStore n0 n1 n2 n3 s0 s1 s2 = σ
  have kN : upd ρ "k" (.int k) "k" = some (.int k) := by simp [upd]
  have off : ∀ x, x ≠ "k" → upd ρ "k" (.int k) x = ρ x := fun x hx => by simp [upd, hx]
  generalize hρ : upd ρ "k" (V.int k) = ρ1 at *
  have eif : ∀ (x y : Nat) (c : Nat) (w : String) (nm : String), ρ1 nm = some (.int y) → Str.ofString w = S [c] → dIf (t2 (f2 gEq) (dName "k") (dName nm)) (dStr w) (dStr "") ρ1 σ = some (.str (S (paren k y c)), σ) := by
    intro x y c w nm hy hw
    rw [dIf_eq (t2_eq (dName_eq kN) (dName_eq hy) eq_int)]
    unfold paren
    by_cases hq : k = y
    · rw [if_pos (by simpa using hq), if_pos hq, ← hw]
    · rw [if_neg (by simpa using hq), if_neg hq, ← empty_is]
  have hname : dFlat (d2 fItem (dName "names") (dName "k")) ρ1 σ = some (.int ([n0, n1, n2, n3].getD k 0 : Nat), σ) := by
    refine flat_eq (σ1 := σ) ?_ rfl
    rw [d2_eq (dName_eq (v := .lst 0) (by rw [off _ (by decide)]; exact T1)) (dName_eq kN)]
    subst hσ
    match k, hk with
    | 0, _ => rfl
    | 1, _ => rfl
    | 2, _ => rfl
    | 3, _ => rfl
  have hlt : [n0, n1, n2, n3].getD k 0 < 4 := by
    match k, hk with
    | 0, _ => exact h0
    | 1, _ => exact h1
    | 2, _ => exact h2
    | 3, _ => exact h3
  have hlet : dFlat (d2 fItem (dStr "wxyz") (dFlat (d2 fItem (dName "names") (dName "k")))) ρ1 σ = some (.str (S [119 + [n0, n1, n2, n3].getD k 0]), σ) := by
    refine flat_eq (σ1 := σ) ?_ rfl
    rw [d2_eq (x := .str (S [119, 120, 121, 122])) (σ1 := σ) rfl hname]
    exact letter_item hlt
  have p1 : ∀ x y c, (paren x y c).length ≤ 1 := fun x y c => by unfold paren; split <;> simp
  have e1 := eif k f 40 "(" "first" (by rw [off _ (by decide)]; exact T3) lparen
  have e2 := eif k l 41 ")" "last" (by rw [off _ (by decide)]; exact T4) rparen
  have b1 : (paren k f 40).length ≤ 1 := p1 _ _ _
  have b2 : (paren k l 41).length ≤ 1 := p1 _ _ _
  have big : d2 fAdd (d2 fAdd (d2 fAdd (dName "text") (dIf (t2 (f2 gEq) (dName "k") (dName "first")) (dStr "(") (dStr ""))) (dFlat (d2 fItem (dStr "wxyz") (dFlat (d2 fItem (dName "names") (dName "k")))))) (dIf (t2 (f2 gEq) (dName "k") (dName "last")) (dStr ")") (dStr "")) ρ1 σ
      = some (.str (S (((t ++ paren k f 40) ++ [119 + [n0, n1, n2, n3].getD k 0]) ++ paren k l 41)), σ) := by
    have a1 := d2_eq (f := fAdd) (dName_eq (n := "text") (σ := σ) (v := .str (S t)) (by rw [off _ (by decide)]; exact T5)) e1
    rw [add_str (by omega)] at a1
    have a2 := d2_eq (f := fAdd) a1 hlet
    rw [add_str (by simp only [List.length_append, List.length_cons, List.length_nil]; omega)] at a2
    have a3 := d2_eq (f := fAdd) a2 e2
    rw [add_str (by simp only [List.length_append, List.length_cons, List.length_nil]; omega)] at a3
    exact a3
  generalize hu : ((t ++ paren k f 40) ++ [119 + [n0, n1, n2, n3].getD k 0]) ++ paren k l 41 = u at *
  have ul : u.length ≤ 1003 := by subst hu; simp only [List.length_append, List.length_cons, List.length_nil]; omega
  have off2 : ∀ x, x ≠ "text" → upd ρ1 "text" (.str (S u)) x = ρ1 x := fun x hx => by simp [upd, hx]
  have t2 : upd ρ1 "text" (.str (S u)) "text" = some (.str (S u)) := by simp [upd]
  generalize hρ2 : upd ρ1 "text" (V.str (S u)) = ρ2 at *
  have hsign : dFlat (d2 fItem (d2 fAdd (dName "signs") (dList [(dStr "")])) (dName "k")) ρ2 σ = some (.str (S (nthSign [s0, s1, s2] k)), σ) := by
    have x1 : dName "signs" ρ2 σ = some (.lst 1, σ) := dName_eq (by rw [off2 _ (by decide), off _ (by decide)]; exact T2)
    have x2 : dName "k" ρ2 = fun σ => some (.int k, σ) := by funext σ; exact dName_eq (by rw [off2 _ (by decide)]; exact kN)
    have x3 : d2 fAdd (dName "signs") (dList [(dStr "")]) ρ2 σ = some (.lst 3, σ ++ [[V.str (Str.ofString "")], [s0, s1, s2].map sg ++ [V.str (Str.ofString "")]]) := by
      rw [d2_eq x1 (y := .lst 2) (σ2 := σ ++ [[V.str (Str.ofString "")]]) (by subst hσ; rfl)]
      subst hσ; rfl
    refine flat_eq (σ1 := σ ++ [[V.str (Str.ofString "")], [s0, s1, s2].map sg ++ [V.str (Str.ofString "")]]) ?_ rfl
    rw [d2_eq x3 (y := .int k) (by rw [x2])]
    subst hσ
    match k, hk with
    | 0, _ => cases s0 <;> rfl
    | 1, _ => cases s1 <;> rfl
    | 2, _ => cases s2 <;> rfl
    | 3, _ => rfl
  have b3 : (nthSign [s0, s1, s2] k).length ≤ 1 := by unfold nthSign; split <;> simp
  have big2 : d2 fAdd (dName "text") (dFlat (d2 fItem (d2 fAdd (dName "signs") (dList [(dStr "")])) (dName "k"))) ρ2 σ = some (.str (S (u ++ nthSign [s0, s1, s2] k)), σ) := by
    rw [d2_eq (dName_eq t2) hsign]
    exact add_str (by omega)
  refine ⟨upd ρ2 "text" (.str (S (u ++ nthSign [s0, s1, s2] k))), ?_, ?_⟩
  · unfold textTurn
    rw [seq_next (set_next big), hρ2, seq_next (set_next big2)]; rfl
  · have off3 : ∀ x, x ≠ "text" → x ≠ "k" → upd ρ2 "text" (.str (S (u ++ nthSign [s0, s1, s2] k))) x = ρ x := fun x hx hx2 => by
      rw [← off x hx2, ← off2 x hx]; simp [upd, hx]
    refine ⟨(off3 _ (by decide) (by decide)).trans T1, (off3 _ (by decide) (by decide)).trans T2, (off3 _ (by decide) (by decide)).trans T3, (off3 _ (by decide) (by decide)).trans T4, ?_⟩
    have : upd ρ2 "text" (.str (S (u ++ nthSign [s0, s1, s2] k))) "text" = some (.str (S (u ++ nthSign [s0, s1, s2] k))) := by simp [upd]
    rw [this, ← hu]
    unfold piece
    simp only [List.append_assoc]
theorem for_eq {It : ItD} {T : Tgt} {b : SDen} {lo fz : Nat} {items : List V} {ρ : Loc} {σ σ1 : Store} (h : It ρ σ = some (items, σ1, fz)) : sFor It T b lo ρ σ = forGo T b (max lo fz) items ρ σ1 := by
  unfold sFor; rw [h]
theorem forGo_cons {T : Tgt} {b : SDen} {lo : Nat} {v : V} {rest : List V} {ρ ρ1 ρ2 : Loc} {σ σ2 : Store} (h1 : T v ρ = some ρ1) (h2 : b lo ρ1 σ = some (.next, ρ2, σ2)) : forGo T b lo (v :: rest) ρ σ = forGo T b lo rest ρ2 σ2 := by
  show (match T v ρ with | none => none | some ρ1 => _) = _
  rw [h1]
  dsimp only
  rw [h2]
noncomputable def textP (ns : List Nat) (ss : List Bool) (f l : Nat) : List Nat := piece ns ss f l 0 ++ piece ns ss f l 1 ++ piece ns ss f l 2 ++ piece ns ss f l 3
theorem piece_len (ns : List Nat) (ss : List Bool) (f l k : Nat) : (piece ns ss f l k).length ≤ 4 := by
  have p1 : ∀ x y c, (paren x y c).length ≤ 1 := fun x y c => by unfold paren; split <;> simp
  have b3 : (nthSign ss k).length ≤ 1 := by unfold nthSign; split <;> simp
  have := p1 k f 40
  have := p1 k l 41
  unfold piece
  simp only [List.length_append, List.length_cons, List.length_nil]
  omega
theorem text_raw {g n0 n1 n2 n3 : Nat} (h0 : n0 < 4) (h1 : n1 < 4) (h2 : n2 < 4) (h3 : n3 < 4) (s0 s1 s2 : Bool) :
    (R_text [fm g 0 1] (textStore n0 n1 n2 n3 s0 s1 s2)).map (·.1) = some (.str (S (textP [n0, n1, n2, n3] [s0, s1, s2] (pairOf g).1 (pairOf g).2))) := by
  refine fCall_fst rfl ?_
  show ans (D_text 2 (locOf ["formula"] [fm g 0 1]) (textStore n0 n1 n2 n3 s0 s1 s2)) = _
  generalize hf : (pairOf g).1 = f
  generalize hl : (pairOf g).2 = l
  have a0 : ∃ ρ, D_text0 2 (locOf ["formula"] [fm g 0 1]) (textStore n0 n1 n2 n3 s0 s1 s2) = some (.next, ρ, textStore n0 n1 n2 n3 s0 s1 s2) ∧ ρ "names" = some (.lst 0) ∧ ρ "signs" = some (.lst 1) ∧ ρ "first" = some (.int f) ∧ ρ "last" = some (.int l) :=
    ⟨_, rfl, rfl, rfl, by rw [← hf]; rfl, by rw [← hl]; rfl⟩
  obtain ⟨ρ, a0, q1, q2, q3, q4⟩ := a0
  have a1 : D_text1 2 ρ (textStore n0 n1 n2 n3 s0 s1 s2) = some (.next, upd ρ "text" (.str (S [])), textStore n0 n1 n2 n3 s0 s1 s2) := rfl
  have T0 : TextAt n0 n1 n2 n3 s0 s1 s2 f l [] (upd ρ "text" (.str (S []))) := by
    refine ⟨?_, ?_, ?_, ?_, ?_⟩ <;> simp [upd, q1, q2, q3, q4]
  have pl := piece_len [n0, n1, n2, n3] [s0, s1, s2] f l
  obtain ⟨ρ1, e1, T1⟩ := turnText (k := 0) (lo := max 2 0) h0 h1 h2 h3 (by decide) (by simp) T0
  obtain ⟨ρ2, e2, T2⟩ := turnText (k := 1) (lo := max 2 0) h0 h1 h2 h3 (by decide) (by have := pl 0; simp only [List.length_append, List.length_nil]; omega) T1
  obtain ⟨ρ3, e3, T3⟩ := turnText (k := 2) (lo := max 2 0) h0 h1 h2 h3 (by decide) (by have := pl 0; have := pl 1; simp only [List.length_append, List.length_nil]; omega) T2
  obtain ⟨ρ4, e4, T4⟩ := turnText (k := 3) (lo := max 2 0) h0 h1 h2 h3 (by decide) (by have := pl 0; have := pl 1; have := pl 2; simp only [List.length_append, List.length_nil]; omega) T3
  have a2 : D_text2 2 (upd ρ "text" (.str (S []))) (textStore n0 n1 n2 n3 s0 s1 s2) = some (.next, ρ4, textStore n0 n1 n2 n3 s0 s1 s2) := by
    rw [text2_is]
    have hr : dRange (dInt 4) (upd ρ "text" (.str (S []))) (textStore n0 n1 n2 n3 s0 s1 s2) = some ([.int (0 : Nat), .int (1 : Nat), .int (2 : Nat), .int (3 : Nat)], textStore n0 n1 n2 n3 s0 s1 s2, 0) := rfl
    rw [for_eq hr, forGo_cons rfl e1, forGo_cons rfl e2, forGo_cons rfl e3, forGo_cons rfl e4]; rfl
  unfold D_text
  have a3 : D_text3 2 ρ4 (textStore n0 n1 n2 n3 s0 s1 s2) = some (.ret _, ρ4, _) := ret_eq (dName_eq T4.text)
  rw [seq_next a0, seq_next a1, seq_next a2, seq_ret a3]
  show some _ = some _
  congr 3
end Mine
end

section
open PySem PySem.W PyProof.Rows PySem.Calls
set_option Elab.async false
set_option autoImplicit false
set_option maxRecDepth 100000
set_option maxHeartbeats 1000000
namespace Mine

noncomputable def mkN : Nat → (Nat → Bool) → Nat
  | 0, _ => 0
  | n + 1, p => (if p n then 2 ^ n else 0) + mkN n p
theorem mkN_succ (n : Nat) (p : Nat → Bool) : mkN (n + 1) p = (if p n then 2 ^ n else 0) + mkN n p := rfl
theorem mkN_lt (p : Nat → Bool) : ∀ n, mkN n p < 2 ^ n
  | 0 => by simp [mkN]
  | n + 1 => by
    have := mkN_lt p n
    unfold mkN
    split <;> rw [Nat.pow_succ] <;> omega
theorem mkN_bit (p : Nat → Bool) : ∀ n i, (mkN n p).testBit i = (decide (i < n) && p i)
  | 0, i => by simp [mkN]
  | n + 1, i => by
    have hlt := mkN_lt p n
    have ih := mkN_bit p n
    unfold mkN
    by_cases hi : i = n
    · subst hi
      cases hp : p i with
      | true =>
        rw [if_pos rfl, Nat.testBit_two_pow_add_eq, ih]; simp
      | false =>
        rw [if_neg (by simp), Nat.zero_add, ih]; simp [hp]
    · by_cases hl : i < n
      · cases hp : p n with
        | true => rw [if_pos rfl, Nat.testBit_two_pow_add_gt hl, ih]; simp [hl, Nat.lt_succ_of_lt hl]
        | false => rw [if_neg (by simp), Nat.zero_add, ih]; simp [hl, Nat.lt_succ_of_lt hl]
      · have h1 : ¬ i < n + 1 := by omega
        have : ((if p n then 2 ^ n else 0) + mkN n p) < 2 ^ i := by
          have h2 : 2 ^ (n + 1) ≤ 2 ^ i := Nat.pow_le_pow_right (by decide) (by omega)
          have h3 := mkN_lt p (n + 1)
          unfold mkN at h3
          omega
        rw [Nat.testBit_lt_two_pow this]; simp [h1]
theorem mkN_not (p : Nat → Bool) : ∀ n, mkN n (fun c => !p c) + mkN n p = 2 ^ n - 1
  | 0 => by simp [mkN]
  | n + 1 => by
    have := mkN_not p n
    have h2 := Nat.two_pow_pos n
    rw [mkN_succ, mkN_succ, Nat.pow_succ]
    cases hp : p n <;> simp [hp] <;> omega
theorem mk_ex (p : Nat → Bool) : ∃ x : Int, x = (mkN 16 p : Nat) := ⟨_, rfl⟩
noncomputable def mk (p : Nat → Bool) : Int := Classical.choose (mk_ex p)
theorem mk_def (p : Nat → Bool) : mk p = (mkN 16 p : Nat) := Classical.choose_spec (mk_ex p)
theorem mk_nonneg (p : Nat → Bool) : 0 ≤ mk p := by rw [mk_def]; exact Int.natCast_nonneg _
theorem mkN_and (p q : Nat → Bool) (n : Nat) : mkN n p &&& mkN n q = mkN n (fun c => p c && q c) := by
  refine Nat.eq_of_testBit_eq fun i => ?_
  rw [Nat.testBit_and, mkN_bit, mkN_bit, mkN_bit]
  cases decide (i < n) <;> simp
theorem mkN_or (p q : Nat → Bool) (n : Nat) : mkN n p ||| mkN n q = mkN n (fun c => p c || q c) := by
  refine Nat.eq_of_testBit_eq fun i => ?_
  rw [Nat.testBit_or, mkN_bit, mkN_bit, mkN_bit]
  cases decide (i < n) <;> simp
theorem bitNot2 (x : Int) : Builtin.bitNot (Builtin.bitNot x) = x := by unfold Builtin.bitNot; omega
theorem bitNot_neg {x : Int} (h : 0 ≤ x) : ¬ 0 ≤ Builtin.bitNot x := by unfold Builtin.bitNot; omega
theorem and_nat (a b : Nat) : Builtin.bitAnd a b = ((a &&& b : Nat) : Int) := by
  unfold Builtin.bitAnd
  rw [decide_eq_true (Int.natCast_nonneg a), decide_eq_true (Int.natCast_nonneg b)]
  rfl
theorem or_nat (a b : Nat) : Builtin.bitOr a b = ((a ||| b : Nat) : Int) := by
  unfold Builtin.bitOr Builtin.bitAnd
  rw [decide_eq_false (bitNot_neg (Int.natCast_nonneg a)), decide_eq_false (bitNot_neg (Int.natCast_nonneg b))]
  dsimp only
  rw [bitNot2, bitNot2, bitNot2]
  rfl
theorem notand_nat (a b : Nat) : Builtin.bitAnd (Builtin.bitNot a) b = (b : Int) - ((b &&& a : Nat) : Int) := by
  unfold Builtin.bitAnd
  rw [decide_eq_false (bitNot_neg (Int.natCast_nonneg a)), decide_eq_true (Int.natCast_nonneg b)]
  dsimp only
  rw [bitNot2]
  rfl
theorem mk_and (p q : Nat → Bool) : Builtin.bitAnd (mk p) (mk q) = mk (fun c => p c && q c) := by
  rw [mk_def, mk_def, mk_def]
  rw [and_nat, mkN_and]
theorem mk_or (p q : Nat → Bool) : Builtin.bitOr (mk p) (mk q) = mk (fun c => p c || q c) := by
  rw [mk_def, mk_def, mk_def]
  rw [or_nat, mkN_or]
theorem mk_not (p : Nat → Bool) : Builtin.bitAnd (Builtin.bitNot (mk p)) 65535 = mk (fun c => !p c) := by
  rw [mk_def, mk_def]
  have hn := mkN_not p 16
  have hl := mkN_lt p 16
  have e : 65535 &&& mkN 16 p = mkN 16 p := by
    rw [show 65535 = 2 ^ 16 - 1 from rfl, Nat.and_comm, Nat.and_two_pow_sub_one_eq_mod, Nat.mod_eq_of_lt hl]
  have := notand_nat (mkN 16 p) 65535
  rw [e] at this
  generalize mkN 16 p = x at *
  generalize (mkN 16 fun c => !p c) = y at *
  refine this.trans ?_
  have h3 : (2 : Nat) ^ 16 = 65536 := rfl
  omega
noncomputable def b2i (b : Bool) : Int := if b then 1 else 0
theorem mk_sum (p : Nat → Bool) : ∀ n, ((List.range n).map fun (c : Nat) => b2i (p c) * 2 ^ c).sum = (mkN n p : Nat)
  | 0 => rfl
  | n + 1 => by
    rw [List.range_succ, List.map_append, List.sum_append, mk_sum p n, mkN_succ]
    simp only [List.map_cons, List.map_nil, List.sum_cons, List.sum_nil]
    unfold b2i
    cases hp : p n <;> simp <;> omega

inductive Tm where
  | l (n : Nat)
  | lp | rp | amp | bar | til
noncomputable def Tm.code : Tm → Nat
  | .l n => 119 + n
  | .lp => 40 | .rp => 41 | .amp => 38 | .bar => 124 | .til => 126
noncomputable def bitf (n : Nat) : Nat → Bool := fun c => c.testBit n
noncomputable def redB (sym : Nat) : List (Nat → Bool) → List Nat → Option (List (Nat → Bool) × List Nat)
  | _, [] => none
  | R, w :: W => if w < sym then some (R, w :: W)
    else if w = 31 then (match R with
      | p :: R => redB sym ((fun c => !p c) :: R) W
      | [] => none)
    else if w = 19 then (match R with
      | p :: q :: R => redB sym ((fun c => q c && p c) :: R) W
      | _ => none)
    else if w = 18 then (match R with
      | p :: q :: R => redB sym ((fun c => q c || p c) :: R) W
      | _ => none)
    else none
noncomputable def stepB : Tm → List (Nat → Bool) → List Nat → Option (List (Nat → Bool) × List Nat)
  | .l n, R, W => some (bitf n :: R, W)
  | .lp, R, W => some (R, 7 :: W)
  | .til, R, W => some (R, 31 :: W)
  | .rp, R, W => match redB 8 R W with
    | some (R', _ :: W') => some (R', W')
    | _ => none
  | .bar, R, W => match redB 18 R W with
    | some (R', W') => some (R', 18 :: W')
    | none => none
  | .amp, R, W => match redB 19 R W with
    | some (R', W') => some (R', 19 :: W')
    | none => none
noncomputable def runB : List Tm → List (Nat → Bool) → List Nat → Option (List (Nat → Bool) × List Nat)
  | [], R, W => some (R, W)
  | t :: ts, R, W => match stepB t R W with
    | some (R', W') => runB ts R' W'
    | none => none
theorem runB_app : ∀ (a b : List Tm) (R : List (Nat → Bool)) (W : List Nat), runB (a ++ b) R W = match runB a R W with | some (R', W') => runB b R' W' | none => none
  | [], b, R, W => rfl
  | t :: a, b, R, W => by
    show (match stepB t R W with | some (R', W') => runB (a ++ b) R' W' | none => none) = match (match stepB t R W with | some (R', W') => runB a R' W' | none => none) with | some (R', W') => runB b R' W' | none => none
    cases stepB t R W with
    | none => rfl
    | some q => exact runB_app a b q.1 q.2
end Mine
end

section
open PySem PySem.W PyProof.Rows PySem.Calls
set_option Elab.async false
set_option autoImplicit false
set_option maxRecDepth 100000
set_option maxHeartbeats 400000
namespace Mine

noncomputable def tst (R : List (Nat → Bool)) (W : List Nat) : Store := [R.reverse.map fun p => V.int (mk p), W.reverse.map fun (n : Nat) => V.int (n : Int)]
structure TL (ρ : Loc) : Prop where
  rows : ρ "rows" = some (.lst 0)
  waits : ρ "waits" = some (.lst 1)

theorem popRows {p : Nat → Bool} {R : List (Nat → Bool)} {W : List Nat} {ρ : Loc} (T : TL ρ) : mPop "rows" 0 ρ (tst (p :: R) W) = some (.int (mk p), tst R W) := by
  unfold mPop
  rw [T.rows]
  dsimp only
  rw [if_pos (Nat.zero_le _)]
  have : (tst (p :: R) W)[0]? = some ((R.reverse.map fun p => V.int (mk p)) ++ [V.int (mk p)]) := by simp [tst]
  rw [this]
  simp [tst]
theorem popWaits {n : Nat} {R : List (Nat → Bool)} {W : List Nat} {ρ : Loc} (T : TL ρ) : mPop "waits" 0 ρ (tst R (n :: W)) = some (.int n, tst R W) := by
  unfold mPop
  rw [T.waits]
  dsimp only
  rw [if_pos (Nat.zero_le _)]
  have : (tst R (n :: W))[1]? = some ((W.reverse.map fun (n : Nat) => V.int (n : Int)) ++ [V.int n]) := by simp [tst]
  rw [this]
  simp [tst]
theorem drop_eq {m : MDen} {lo : Nat} {ρ : Loc} {σ σ1 : Store} {v : V} (h : m lo ρ σ = some (v, σ1)) : sDrop m lo ρ σ = some (.next, ρ, σ1) := by
  unfold sDrop; rw [h]
theorem setM_eq {n : String} {m : MDen} {lo : Nat} {ρ : Loc} {σ σ1 : Store} {v : V} (h : m lo ρ σ = some (v, σ1)) : sSet n m lo ρ σ = some (.next, upd ρ n v, σ1) := by
  unfold sSet; rw [h]
theorem pushRows {m : MDen} {p : Nat → Bool} {R R' : List (Nat → Bool)} {W W' : List Nat} {ρ : Loc} (T : TL ρ) (hm : m 0 ρ (tst R W) = some (.int (mk p), tst R' W')) (hl : R'.length < 4096) :
    mApp (dName "rows") m 0 ρ (tst R W) = some (.none, tst (p :: R') W') := by
  unfold mApp
  rw [dName_eq T.rows]
  dsimp only
  rw [hm]
  dsimp only
  rw [if_pos (Nat.zero_le _)]
  have : (tst R' W')[0]? = some (R'.reverse.map fun p => V.int (mk p)) := by simp [tst]
  rw [this]
  dsimp only
  rw [if_pos (by simp only [List.length_map, List.length_reverse]; exact hl)]
  simp [tst]
theorem pushWaits {m : MDen} {n : Nat} {R R' : List (Nat → Bool)} {W W' : List Nat} {ρ : Loc} (T : TL ρ) (hm : m 0 ρ (tst R W) = some (.int n, tst R' W')) (hl : W'.length < 4096) :
    mApp (dName "waits") m 0 ρ (tst R W) = some (.none, tst R' (n :: W')) := by
  unfold mApp
  rw [dName_eq T.waits]
  dsimp only
  rw [hm]
  dsimp only
  rw [if_pos (Nat.zero_le _)]
  have : (tst R' W')[1]? = some (W'.reverse.map fun (n : Nat) => V.int (n : Int)) := by simp [tst]
  rw [this]
  dsimp only
  rw [if_pos (by simp only [List.length_map, List.length_reverse]; exact hl)]
  simp [tst]

noncomputable def tPop : SDen := (sSeq (sSet "deed" (mPop "waits")) (sSeq (sSet "last" (mPop "rows")) (sSeq (sIf (t2 (f2 gEq) (dName "deed") (dInt 31)) (sSeq (sSet "turned" (mOf (dFlat (dApp K_inv [(dName "last")])))) (sSeq (sIf (tOr (t2 fNe (dFlat (dApp K_add [(dName "turned"), (dName "last")])) (d1 (f1 gNeg) (dInt 1))) (t2 (f2 gIsNot) (dFlat (dApp K_ISEOF [(dName "turned")])) (dBool false))) (sSeq (sRet (dList [])) sDone) sDone) (sSeq (sDrop (mApp (dName "rows") (mOf (dFlat (dApp K_and [(dName "turned"), (dInt 65535)]))))) sDone))) (sSeq (sIf (t2 (f2 gEq) (dName "deed") (dInt 19)) (sSeq (sDrop (mApp (dName "rows") (mCall2 (fFlat K_and) (mPop "rows") (dName "last")))) sDone) (sSeq (sIf (t2 (f2 gEq) (dName "deed") (dInt 18)) (sSeq (sDrop (mApp (dName "rows") (mCall2 (fFlat K_or) (mPop "rows") (dName "last")))) sDone) (sSeq (sRet (dList [])) sDone)) sDone)) sDone)) sDone)))
noncomputable def tHigh : Tst := (t2 (f2 gIs) (dFlat (dApp K_lt [(dFlat (d2 fItem (dName "waits") (d1 (f1 gNeg) (dInt 1)))), (dName "symbol")])) (dBool false))
noncomputable def tClose : SDen := (sSeq (sWhile 32 tHigh tPop) (sSeq (sIf (t2 (f2 gEq) (dName "symbol") (dInt 8)) (sSeq (sDrop (mPop "waits")) sDone) (sSeq (sDrop (mApp (dName "waits") (mOf (dName "symbol")))) sDone)) sDone))
noncomputable def tTurn : SDen := (sSeq (sSet "symbol" (mOf (dIf (t2 (f2 gInStr) (dName "sign") (dStr "wxyz")) (d2 fAdd (dInt 256) (dFlat (dApp (f2 gIndex) [(dStr "wxyz"), (dName "sign")]))) (dFlat (d1 (f1 gTok) (dName "sign")))))) (sSeq (sIf (t2 (f2 gIs) (dFlat (dApp K_ISNONTERMINAL [(dName "symbol")])) (dBool true)) (sSeq (sDrop (mApp (dName "rows") (mOf (dFlat (d2 fItem (dTup [(dInt 43690), (dInt 52428), (dInt 61680), (dInt 65280)]) (d2 (f2 (int2 gSub)) (dName "symbol") (dInt 256))))))) sDone) (sSeq (sIf (tOr (t2 (f2 gEq) (dName "symbol") (dInt 7)) (t2 (f2 gEq) (dName "symbol") (dInt 31))) (sSeq (sDrop (mApp (dName "waits") (mOf (dName "symbol")))) sDone) tClose) sDone)) sDone))
theorem told2_is : D_told2 = sFor (dIter (d2 fAdd (d2 fAdd (dStr "(") (dName "text")) (dStr ")"))) (tName "sign") tTurn := rfl

theorem if_eq {t : Tst} {a b : SDen} {lo : Nat} {ρ : Loc} {σ : Store} {c : Bool} (h : t ρ σ = some c) : sIf t a b lo ρ σ = if c then a lo ρ σ else b lo ρ σ := by
  unfold sIf; rw [h]; cases c <;> rfl
theorem isInt {n : String} {ρ : Loc} {σ : Store} {a b : Nat} (h : ρ n = some (.int a)) : t2 (f2 gEq) (dName n) (dInt b) ρ σ = some (decide (a = b)) := t2_eq (dName_eq h) (y := .int b) rfl eq_int
theorem app1_eq {g : Fn} {d : Den} {ρ : Loc} {σ σ1 σ2 : Store} {x v : V} (h : d ρ σ = some (x, σ1)) (hg : g [x] σ1 = some (v, σ2)) (hv : v.flat = true) : dFlat (dApp g [d]) ρ σ = some (v, σ) := by
  refine flat_eq (σ1 := σ2) ?_ hv
  unfold dApp dArgs
  rw [h]
  exact hg
theorem app2_eq {g : Fn} {d e : Den} {ρ : Loc} {σ σ1 σ2 σ3 : Store} {x y v : V} (h : d ρ σ = some (x, σ1)) (h2 : e ρ σ1 = some (y, σ2)) (hg : g [x, y] σ2 = some (v, σ3)) (hv : v.flat = true) : dFlat (dApp g [d, e]) ρ σ = some (v, σ) := by
  refine flat_eq (σ1 := σ3) ?_ hv
  unfold dApp dArgs
  rw [h]
  dsimp only
  unfold dArgs
  rw [h2]
  exact hg

/-- one operator is taken -/
theorem tPop_not {p : Nat → Bool} {R : List (Nat → Bool)} {W : List Nat} {ρ : Loc} (T : TL ρ) (hl : R.length < 4096) :
    ∃ ρ', tPop 0 ρ (tst (p :: R) (31 :: W)) = some (.next, ρ', tst ((fun c => !p c) :: R) W) ∧ TL ρ' ∧ ρ' "symbol" = ρ "symbol" := by
  have h1 := setM_eq (n := "deed") (popWaits (n := 31) (R := p :: R) (W := W) T)
  have T1 : TL (upd ρ "deed" (.int (31 : Nat))) := ⟨by simp [upd, T.rows], by simp [upd, T.waits]⟩
  have h2 := setM_eq (n := "last") (popRows (p := p) (R := R) (W := W) T1)
  generalize hρ2 : upd (upd ρ "deed" (V.int (31 : Nat))) "last" (V.int (mk p)) = ρ2 at h2
  have T2 : TL ρ2 := by subst hρ2; exact ⟨by simp [upd, T.rows], by simp [upd, T.waits]⟩
  have d2' : ρ2 "deed" = some (.int (31 : Nat)) := by subst hρ2; simp [upd]
  have l2 : ρ2 "last" = some (.int (mk p)) := by subst hρ2; simp [upd]
  have s2 : ρ2 "symbol" = ρ "symbol" := by subst hρ2; simp [upd]
  have h3 : sSet "turned" (mOf (dFlat (dApp K_inv [(dName "last")]))) 0 ρ2 (tst R W) = some (.next, upd ρ2 "turned" (.int (Builtin.bitNot (mk p))), tst R W) := set_next (app1_eq (dName_eq l2) (σ2 := tst R W) rfl rfl)
  generalize hρ3 : upd ρ2 "turned" (V.int (Builtin.bitNot (mk p))) = ρ3 at h3
  have T3 : TL ρ3 := by subst hρ3; exact ⟨by simp [upd, T2.rows], by simp [upd, T2.waits]⟩
  have l3 : ρ3 "last" = some (.int (mk p)) := by subst hρ3; simp [upd, l2]
  have u3 : ρ3 "turned" = some (.int (Builtin.bitNot (mk p))) := by subst hρ3; simp [upd]
  have s3 : ρ3 "symbol" = ρ "symbol" := by subst hρ3; simp [upd, s2]
  have hp := mk_nonneg p
  have h4 : (tOr (t2 fNe (dFlat (dApp K_add [(dName "turned"), (dName "last")])) (d1 (f1 gNeg) (dInt 1))) (t2 (f2 gIsNot) (dFlat (dApp K_ISEOF [(dName "turned")])) (dBool false))) ρ3 (tst R W) = some false := by
    have e1 : t2 fNe (dFlat (dApp K_add [(dName "turned"), (dName "last")])) (d1 (f1 gNeg) (dInt 1)) ρ3 (tst R W) = some false := by
      refine t2_eq (x := .int (-1)) (y := .int (-1)) (σ3 := tst R W) (app2_eq (dName_eq u3) (dName_eq l3) (σ3 := tst R W) ?_ rfl) rfl rfl
      show some (V.int (Builtin.bitNot (mk p) + mk p), tst R W) = _
      have : Builtin.bitNot (mk p) + mk p = -1 := by unfold Builtin.bitNot; omega
      rw [this]
    have e2 : t2 (f2 gIsNot) (dFlat (dApp K_ISEOF [(dName "turned")])) (dBool false) ρ3 (tst R W) = some false := by
      refine t2_eq (x := .bool false) (y := .bool false) (σ3 := tst R W) (app1_eq (dName_eq u3) (σ2 := tst R W) ?_ rfl) rfl rfl
      show some (V.bool (decide (Builtin.bitNot (mk p) = 0)), tst R W) = _
      have : ¬ Builtin.bitNot (mk p) = 0 := by unfold Builtin.bitNot; omega
      rw [decide_eq_false this]
    unfold tOr
    rw [e1]; exact e2
  have h5 : mApp (dName "rows") (mOf (dFlat (dApp K_and [(dName "turned"), (dInt 65535)]))) 0 ρ3 (tst R W) = some (.none, tst ((fun c => !p c) :: R) W) := by
    refine pushRows T3 ?_ hl
    refine app2_eq (dName_eq u3) (y := .int 65535) (σ2 := tst R W) (σ3 := tst R W) rfl ?_ rfl
    show some (V.int (Builtin.bitAnd (Builtin.bitNot (mk p)) 65535), tst R W) = _
    rw [mk_not]
  refine ⟨ρ3, ?_, T3, s3⟩
  unfold tPop
  rw [seq_next h1, seq_next h2]
  refine seq_next (ρ1 := ρ3) (σ1 := tst ((fun c => !p c) :: R) W) ?_ |>.trans rfl
  refine (if_eq (isInt d2')).trans ?_
  show sSeq _ _ 0 ρ2 (tst R W) = _
  rw [seq_next h3]
  have h6 : sIf (tOr (t2 fNe (dFlat (dApp K_add [(dName "turned"), (dName "last")])) (d1 (f1 gNeg) (dInt 1))) (t2 (f2 gIsNot) (dFlat (dApp K_ISEOF [(dName "turned")])) (dBool false))) (sSeq (sRet (dList [])) sDone) sDone 0 ρ3 (tst R W) = some (.next, ρ3, tst R W) := by
    rw [if_eq h4]; rfl
  rw [seq_next h6, seq_next (drop_eq h5)]; rfl

theorem call2_eq {f : Fn} {m : MDen} {d : Den} {lo : Nat} {ρ : Loc} {σ σ1 σ2 : Store} {x y : V} (h1 : m lo ρ σ = some (x, σ1)) (h2 : d ρ σ1 = some (y, σ2)) : mCall2 f m d lo ρ σ = f [x, y] σ2 := by
  unfold mCall2; rw [h1]; dsimp only; rw [h2]
theorem tPop_and {p q : Nat → Bool} {R : List (Nat → Bool)} {W : List Nat} {ρ : Loc} (T : TL ρ) (hl : R.length < 4096) :
    ∃ ρ', tPop 0 ρ (tst (p :: q :: R) (19 :: W)) = some (.next, ρ', tst ((fun c => q c && p c) :: R) W) ∧ TL ρ' ∧ ρ' "symbol" = ρ "symbol" := by
  have h1 := setM_eq (n := "deed") (popWaits (n := 19) (R := p :: q :: R) (W := W) T)
  have T1 : TL (upd ρ "deed" (.int (19 : Nat))) := ⟨by simp [upd, T.rows], by simp [upd, T.waits]⟩
  have h2 := setM_eq (n := "last") (popRows (p := p) (R := q :: R) (W := W) T1)
  generalize hρ2 : upd (upd ρ "deed" (V.int (19 : Nat))) "last" (V.int (mk p)) = ρ2 at h2
  have T2 : TL ρ2 := by subst hρ2; exact ⟨by simp [upd, T.rows], by simp [upd, T.waits]⟩
  have d2' : ρ2 "deed" = some (.int (19 : Nat)) := by subst hρ2; simp [upd]
  have l2 : ρ2 "last" = some (.int (mk p)) := by subst hρ2; simp [upd]
  have s2 : ρ2 "symbol" = ρ "symbol" := by subst hρ2; simp [upd]
  have h5 : mApp (dName "rows") (mCall2 (fFlat K_and) (mPop "rows") (dName "last")) 0 ρ2 (tst (q :: R) W) = some (.none, tst ((fun c => q c && p c) :: R) W) := by
    refine pushRows T2 ?_ hl
    rw [call2_eq (popRows T2) (dName_eq l2)]
    show some (V.int (Builtin.bitAnd (mk q) (mk p)), tst R W) = _
    rw [mk_and]
  refine ⟨ρ2, ?_, T2, s2⟩
  unfold tPop
  rw [seq_next h1, seq_next h2]
  refine seq_next (ρ1 := ρ2) (σ1 := tst ((fun c => q c && p c) :: R) W) ?_ |>.trans rfl
  refine (if_eq (isInt d2')).trans ?_
  show sSeq _ _ 0 ρ2 (tst (q :: R) W) = _
  refine seq_next (ρ1 := ρ2) (σ1 := tst ((fun c => q c && p c) :: R) W) ?_ |>.trans rfl
  refine (if_eq (isInt d2')).trans ?_
  show sSeq _ _ 0 ρ2 (tst (q :: R) W) = _
  rw [seq_next (drop_eq h5)]; rfl
theorem tPop_or {p q : Nat → Bool} {R : List (Nat → Bool)} {W : List Nat} {ρ : Loc} (T : TL ρ) (hl : R.length < 4096) :
    ∃ ρ', tPop 0 ρ (tst (p :: q :: R) (18 :: W)) = some (.next, ρ', tst ((fun c => q c || p c) :: R) W) ∧ TL ρ' ∧ ρ' "symbol" = ρ "symbol" := by
  have h1 := setM_eq (n := "deed") (popWaits (n := 18) (R := p :: q :: R) (W := W) T)
  have T1 : TL (upd ρ "deed" (.int (18 : Nat))) := ⟨by simp [upd, T.rows], by simp [upd, T.waits]⟩
  have h2 := setM_eq (n := "last") (popRows (p := p) (R := q :: R) (W := W) T1)
  generalize hρ2 : upd (upd ρ "deed" (V.int (18 : Nat))) "last" (V.int (mk p)) = ρ2 at h2
  have T2 : TL ρ2 := by subst hρ2; exact ⟨by simp [upd, T.rows], by simp [upd, T.waits]⟩
  have d2' : ρ2 "deed" = some (.int (18 : Nat)) := by subst hρ2; simp [upd]
  have l2 : ρ2 "last" = some (.int (mk p)) := by subst hρ2; simp [upd]
  have s2 : ρ2 "symbol" = ρ "symbol" := by subst hρ2; simp [upd]
  have h5 : mApp (dName "rows") (mCall2 (fFlat K_or) (mPop "rows") (dName "last")) 0 ρ2 (tst (q :: R) W) = some (.none, tst ((fun c => q c || p c) :: R) W) := by
    refine pushRows T2 ?_ hl
    rw [call2_eq (popRows T2) (dName_eq l2)]
    show some (V.int (Builtin.bitOr (mk q) (mk p)), tst R W) = _
    rw [mk_or]
  refine ⟨ρ2, ?_, T2, s2⟩
  unfold tPop
  rw [seq_next h1, seq_next h2]
  refine seq_next (ρ1 := ρ2) (σ1 := tst ((fun c => q c || p c) :: R) W) ?_ |>.trans rfl
  refine (if_eq (isInt d2')).trans ?_
  show sSeq _ _ 0 ρ2 (tst (q :: R) W) = _
  refine seq_next (ρ1 := ρ2) (σ1 := tst ((fun c => q c || p c) :: R) W) ?_ |>.trans rfl
  refine (if_eq (isInt d2')).trans ?_
  show sSeq _ _ 0 ρ2 (tst (q :: R) W) = _
  refine seq_next (ρ1 := ρ2) (σ1 := tst ((fun c => q c || p c) :: R) W) ?_ |>.trans rfl
  refine (if_eq (isInt d2')).trans ?_
  show sSeq _ _ 0 ρ2 (tst (q :: R) W) = _
  rw [seq_next (drop_eq h5)]; rfl
theorem high_eq {n sym : Nat} {R : List (Nat → Bool)} {W : List Nat} {ρ : Loc} (T : TL ρ) (hs : ρ "symbol" = some (.int sym)) (hl : W.length < 4096) : tHigh ρ (tst R (n :: W)) = some (decide (sym ≤ n)) := by
  have h1 : dFlat (d2 fItem (dName "waits") (d1 (f1 gNeg) (dInt 1))) ρ (tst R (n :: W)) = some (.int n, tst R (n :: W)) := by
    refine flat_eq (σ1 := tst R (n :: W)) ?_ rfl
    rw [d2_eq (dName_eq T.waits) (y := .int (-1)) (σ2 := tst R (n :: W)) rfl]
    unfold fItem
    have : (tst R (n :: W))[1]? = some ((W.reverse.map fun (n : Nat) => V.int (n : Int)) ++ [V.int n]) := by simp [tst]
    dsimp only
    rw [this]
    unfold pyIdx
    dsimp only
    rw [if_neg (by decide), if_pos (by simp only [List.length_append, List.length_map, List.length_reverse, List.length_cons, List.length_nil]; omega)]
    have e : ((-1 : Int) + (((W.reverse.map fun (n : Nat) => V.int (n : Int)) ++ [V.int n]).length : Int)).toNat = (W.reverse.map fun (n : Nat) => V.int (n : Int)).length := by
      simp only [List.length_append, List.length_cons, List.length_nil]; omega
    rw [e, List.getElem?_append_right (Nat.le_refl _), Nat.sub_self]; rfl
  refine t2_eq (x := .bool (decide ((n : Int) < sym))) (y := .bool false) (σ1 := tst R (n :: W)) (σ2 := tst R (n :: W)) (σ3 := tst R (n :: W)) ?_ rfl ?_
  · exact app2_eq h1 (dName_eq hs) (σ3 := tst R (n :: W)) rfl rfl
  · show some (V.bool (decide ((n : Int) < sym) == false), tst R (n :: W)) = _
    congr 3
    by_cases h : sym ≤ n
    · have : ¬ (n : Int) < sym := by omega
      simp [h, this]
    · have : (n : Int) < sym := by omega
      simp [h, this]
theorem redB_len {sym : Nat} : ∀ {W : List Nat} {R R' : List (Nat → Bool)} {W' : List Nat}, redB sym R W = some (R', W') → W'.length ≤ W.length ∧ R'.length ≤ R.length
  | [], R, R', W', h => by cases h
  | w :: W, R, R', W', h => by
    unfold redB at h
    split at h
    · cases h; exact ⟨Nat.le_refl _, Nat.le_refl _⟩
    · split at h
      · split at h
        · have := redB_len h; simp only [List.length_cons] at this ⊢; omega
        · cases h
      · split at h
        · split at h
          · have := redB_len h; simp only [List.length_cons] at this ⊢; omega
          · cases h
        · split at h
          · split at h
            · have := redB_len h; simp only [List.length_cons] at this ⊢; omega
            · cases h
          · cases h
theorem loop_eq {sym : Nat} : ∀ {W : List Nat} {R R' : List (Nat → Bool)} {W' : List Nat} {fuel : Nat} {ρ : Loc}, TL ρ → ρ "symbol" = some (.int sym) → W.length < fuel → W.length < 4096 → R.length < 4096 → redB sym R W = some (R', W') →
    ∃ ρ', whileGo tHigh tPop 0 fuel ρ (tst R W) = some (.next, ρ', tst R' W') ∧ TL ρ' ∧ ρ' "symbol" = some (.int sym)
  | [], R, R', W', fuel, ρ, T, hs, hf, hw, hr, h => by cases h
  | w :: W, R, R', W', 0, ρ, T, hs, hf, hw, hr, h => absurd hf (by simp)
  | w :: W, R, R', W', fuel + 1, ρ, T, hs, hf, hw, hr, h => by
    have hw' : W.length < 4096 := by simp only [List.length_cons] at hw; omega
    have hf' : W.length < fuel := by simp only [List.length_cons] at hf; omega
    have hh := high_eq (n := w) (R := R) T hs hw'
    have step : ∀ R1 ρ1, tPop 0 ρ (tst R (w :: W)) = some (.next, ρ1, tst R1 W) → sym ≤ w → TL ρ1 → ρ1 "symbol" = some (.int sym) → R1.length < 4096 → redB sym R1 W = some (R', W') → ∃ ρ', whileGo tHigh tPop 0 (fuel + 1) ρ (tst R (w :: W)) = some (.next, ρ', tst R' W') ∧ TL ρ' ∧ ρ' "symbol" = some (.int sym) := by
      intro R1 ρ1 e1 hle T1 s1 hl1 h1
      obtain ⟨ρ', e2, T2, s2⟩ := loop_eq T1 s1 hf' hw' hl1 h1
      refine ⟨ρ', ?_, T2, s2⟩
      unfold whileGo
      rw [hh, decide_eq_true hle]
      dsimp only
      rw [e1]
      exact e2
    unfold redB at h
    split at h
    · rename_i hlt
      cases h
      refine ⟨ρ, ?_, T, hs⟩
      unfold whileGo
      rw [hh, decide_eq_false (by omega)]
    · rename_i hge
      have hge' : sym ≤ w := Nat.le_of_not_lt hge
      split at h
      · rename_i h31
        subst h31
        split at h
        · rename_i p R0
          obtain ⟨ρ1, e1, T1, s1⟩ := tPop_not (p := p) (R := R0) (W := W) T (by simp only [List.length_cons] at hr; omega)
          exact step _ ρ1 e1 hge' T1 (s1.trans hs) (by simpa using hr) h
        · cases h
      · split at h
        · rename_i h19
          subst h19
          split at h
          · rename_i p q R0
            obtain ⟨ρ1, e1, T1, s1⟩ := tPop_and (p := p) (q := q) (R := R0) (W := W) T (by simp only [List.length_cons] at hr; omega)
            exact step _ ρ1 e1 hge' T1 (s1.trans hs) (by simp only [List.length_cons] at hr ⊢; omega) h
          · cases h
        · split at h
          · rename_i h18
            subst h18
            split at h
            · rename_i p q R0
              obtain ⟨ρ1, e1, T1, s1⟩ := tPop_or (p := p) (q := q) (R := R0) (W := W) T (by simp only [List.length_cons] at hr; omega)
              exact step _ ρ1 e1 hge' T1 (s1.trans hs) (by simp only [List.length_cons] at hr ⊢; omega) h
            · cases h
          · cases h
end Mine
end

section
open PySem PySem.W PyProof.Rows PySem.Calls
set_option Elab.async false
set_option autoImplicit false
set_option maxRecDepth 100000
set_option maxHeartbeats 400000
namespace Mine
theorem masks0 : mk (bitf 0) = 43690 := by rw [mk_def]; decide +kernel
theorem masks1 : mk (bitf 1) = 52428 := by rw [mk_def]; decide +kernel
theorem masks2 : mk (bitf 2) = 61680 := by rw [mk_def]; decide +kernel
theorem masks3 : mk (bitf 3) = 65280 := by rw [mk_def]; decide +kernel
noncomputable def Tm.sym : Tm → Nat
  | .l n => 256 + n
  | .lp => 7 | .rp => 8 | .amp => 19 | .bar => 18 | .til => 31
noncomputable def Tm.ok : Tm → Prop
  | .l n => n < 4
  | _ => True
theorem in_l (n : Nat) (h : n < 4) : gInStr (.str (S [119 + n])) (.str (Str.ofString "wxyz")) = some (.bool true) := by
  match n, h with
  | 0, _ => kernel_rfl
  | 1, _ => kernel_rfl
  | 2, _ => kernel_rfl
  | 3, _ => kernel_rfl
theorem idx_l (n : Nat) (h : n < 4) : gIndex (.str (Str.ofString "wxyz")) (.str (S [119 + n])) = some (.int n) := by
  match n, h with
  | 0, _ => kernel_rfl
  | 1, _ => kernel_rfl
  | 2, _ => kernel_rfl
  | 3, _ => kernel_rfl
theorem in_lp : gInStr (.str (S [40])) (.str (Str.ofString "wxyz")) = some (.bool false) := by kernel_rfl
theorem in_rp : gInStr (.str (S [41])) (.str (Str.ofString "wxyz")) = some (.bool false) := by kernel_rfl
theorem in_amp : gInStr (.str (S [38])) (.str (Str.ofString "wxyz")) = some (.bool false) := by kernel_rfl
theorem in_bar : gInStr (.str (S [124])) (.str (Str.ofString "wxyz")) = some (.bool false) := by kernel_rfl
theorem in_til : gInStr (.str (S [126])) (.str (Str.ofString "wxyz")) = some (.bool false) := by kernel_rfl
noncomputable def symD : Den := (dIf (t2 (f2 gInStr) (dName "sign") (dStr "wxyz")) (d2 fAdd (dInt 256) (dFlat (dApp (f2 gIndex) [(dStr "wxyz"), (dName "sign")]))) (dFlat (d1 (f1 gTok) (dName "sign"))))
theorem f2_eq {f : V → V → Option V} {a b v : V} {σ : Store} (h : f a b = some v) : f2 f [a, b] σ = some (v, σ) := by
  show (f a b).map (·, σ) = _; rw [h]; rfl
theorem sym_eq {t : Tm} (hok : t.ok) {ρ : Loc} {σ : Store} (h : ρ "sign" = some (.str (S [t.code]))) : symD ρ σ = some (.int t.sym, σ) := by
  have other : ∀ (c y : Nat), S [t.code] = S [c] → gInStr (.str (S [c])) (.str (Str.ofString "wxyz")) = some (.bool false) → gTok (.str (S [c])) = some (.int y) → symD ρ σ = some (.int y, σ) := by
    intro c y hc h1 h2
    rw [hc] at h
    unfold symD
    rw [dIf_eq (t2_eq (dName_eq h) (y := .str (Str.ofString "wxyz")) (σ2 := σ) rfl (f2_eq h1))]
    refine flat_eq (σ1 := σ) ?_ rfl
    rw [d1_eq (dName_eq h)]
    show (gTok (.str (S [c]))).map (·, σ) = _
    rw [h2]; rfl
  match t, hok with
  | .l n, hn =>
    unfold symD
    rw [dIf_eq (t2_eq (dName_eq h) (y := .str (Str.ofString "wxyz")) (σ2 := σ) rfl (f2_eq (in_l n hn)))]
    have e : dFlat (dApp (f2 gIndex) [(dStr "wxyz"), (dName "sign")]) ρ σ = some (.int n, σ) :=
      app2_eq (x := .str (Str.ofString "wxyz")) (σ1 := σ) rfl (dName_eq h) (f2_eq (idx_l n hn)) rfl
    show d2 fAdd (dInt 256) _ ρ σ = _
    rw [d2_eq (x := .int 256) (σ1 := σ) rfl e]
    show some (V.int (256 + (n : Int)), σ) = some (V.int ((256 + n : Nat) : Int), σ)
    simp
  | .lp, _ => exact other 40 7 rfl in_lp rfl
  | .rp, _ => exact other 41 8 rfl in_rp rfl
  | .amp, _ => exact other 38 19 rfl in_amp rfl
  | .bar, _ => exact other 124 18 rfl in_bar rfl
  | .til, _ => exact other 126 31 rfl in_til rfl
theorem nonterm {n : Nat} {ρ : Loc} {σ : Store} (h : ρ "symbol" = some (.int n)) : t2 (f2 gIs) (dFlat (dApp K_ISNONTERMINAL [(dName "symbol")])) (dBool true) ρ σ = some (decide (256 ≤ n)) := by
  refine t2_eq (x := .bool (decide ((256 : Int) ≤ n))) (y := .bool true) (σ1 := σ) (σ2 := σ) (σ3 := σ) (app1_eq (dName_eq h) (σ2 := σ) rfl rfl) rfl ?_
  show some (V.bool (decide ((256 : Int) ≤ n) == true), σ) = _
  by_cases q : 256 ≤ n
  · have : (256 : Int) ≤ n := by omega
    simp [q, this]
  · have : ¬ (256 : Int) ≤ n := by omega
    simp [q, this]
theorem letterRow {n : Nat} (hn : n < 4) {ρ : Loc} {σ : Store} (h : ρ "symbol" = some (.int ((256 + n : Nat) : Int))) :
    dFlat (d2 fItem (dTup [(dInt 43690), (dInt 52428), (dInt 61680), (dInt 65280)]) (d2 (f2 (int2 gSub)) (dName "symbol") (dInt 256))) ρ σ = some (.int (mk (bitf n)), σ) := by
  refine flat_eq (σ1 := σ) ?_ rfl
  have e : d2 (f2 (int2 gSub)) (dName "symbol") (dInt 256) ρ σ = some (.int (((256 + n : Nat) : Int) - 256), σ) := by
    rw [d2_eq (dName_eq h) (y := .int 256) (σ2 := σ) rfl]; rfl
  rw [d2_eq (x := .tup [.int 43690, .int 52428, .int 61680, .int 65280]) (σ1 := σ) rfl e]
  match n, hn with
  | 0, _ => rw [masks0]; rfl
  | 1, _ => rw [masks1]; rfl
  | 2, _ => rw [masks2]; rfl
  | 3, _ => rw [masks3]; rfl
theorem turn_eq {t : Tm} (hok : t.ok) {R R' : List (Nat → Bool)} {W W' : List Nat} {ρ : Loc} (T : TL ρ) (hs : ρ "sign" = some (.str (S [t.code]))) (hw : W.length < 31) (hr : R.length < 4000) (hst : stepB t R W = some (R', W')) :
    ∃ ρ', tTurn 0 ρ (tst R W) = some (.next, ρ', tst R' W') ∧ TL ρ' := by
  have h1 : sSet "symbol" (mOf symD) 0 ρ (tst R W) = some (.next, upd ρ "symbol" (.int t.sym), tst R W) := set_next (sym_eq hok hs)
  generalize hρ1 : upd ρ "symbol" (V.int t.sym) = ρ1 at h1
  have T1 : TL ρ1 := by subst hρ1; exact ⟨by simp [upd, T.rows], by simp [upd, T.waits]⟩
  have s1 : ρ1 "symbol" = some (.int t.sym) := by subst hρ1; simp [upd]
  have hn := nonterm (σ := tst R W) s1
  have closing : ∀ sym : Nat, t.sym = sym → sym < 256 → sym ≠ 7 → sym ≠ 31 → (∃ R1 W1, redB sym R W = some (R1, W1) ∧ ∃ ρ2, sIf (t2 (f2 gEq) (dName "symbol") (dInt 8)) (sSeq (sDrop (mPop "waits")) sDone) (sSeq (sDrop (mApp (dName "waits") (mOf (dName "symbol")))) sDone) 0 ρ2 (tst R1 W1) = some (.next, ρ2, tst R' W') ∧ TL ρ2 ∧ (∀ ρ3, TL ρ3 → ρ3 "symbol" = some (.int sym) → sIf (t2 (f2 gEq) (dName "symbol") (dInt 8)) (sSeq (sDrop (mPop "waits")) sDone) (sSeq (sDrop (mApp (dName "waits") (mOf (dName "symbol")))) sDone) 0 ρ3 (tst R1 W1) = some (.next, ρ3, tst R' W'))) →
      ∃ ρ', tTurn 0 ρ (tst R W) = some (.next, ρ', tst R' W') ∧ TL ρ' := by
    rintro sym he hlt h7 h31 ⟨R1, W1, hred, _, _, _, hfin⟩
    rw [he] at s1 hn
    obtain ⟨ρ2, e2, T2, s2⟩ := loop_eq (fuel := 32) T1 s1 (by omega) (by omega) (by omega) hred
    refine ⟨ρ2, ?_, T2⟩
    refine (seq_next h1).trans ?_
    refine (seq_next (ρ1 := ρ2) (σ1 := tst R' W') ?_).trans rfl
    refine (if_eq hn).trans ?_
    rw [decide_eq_false (by omega)]
    show sSeq _ _ 0 ρ1 (tst R W) = _
    refine (seq_next (ρ1 := ρ2) (σ1 := tst R' W') ?_).trans rfl
    have ht : tOr (t2 (f2 gEq) (dName "symbol") (dInt 7)) (t2 (f2 gEq) (dName "symbol") (dInt 31)) ρ1 (tst R W) = some false := by
      unfold tOr
      rw [show t2 (f2 gEq) (dName "symbol") (dInt 7) ρ1 (tst R W) = some false from (isInt (b := 7) s1).trans (by rw [decide_eq_false h7])]
      exact (isInt (b := 31) s1).trans (by rw [decide_eq_false h31])
    refine (if_eq ht).trans ?_
    show tClose 0 ρ1 (tst R W) = _
    unfold tClose
    have e3 : sWhile 32 tHigh tPop 0 ρ1 (tst R W) = some (.next, ρ2, tst R1 W1) := e2
    rw [seq_next e3, seq_next (hfin ρ2 T2 s2)]; rfl
  have opening : ∀ sym : Nat, t.sym = sym → sym < 256 → (sym = 7 ∨ sym = 31) → R' = R → W' = sym :: W → ∃ ρ', tTurn 0 ρ (tst R W) = some (.next, ρ', tst R' W') ∧ TL ρ' := by
    intro sym he hlt h7 hR hW
    subst hR hW
    rw [he] at s1 hn
    refine ⟨ρ1, ?_, T1⟩
    refine (seq_next h1).trans ?_
    refine (seq_next (ρ1 := ρ1) (σ1 := tst R' (sym :: W)) ?_).trans rfl
    refine (if_eq hn).trans ?_
    rw [decide_eq_false (by omega)]
    show sSeq _ _ 0 ρ1 _ = _
    refine (seq_next (ρ1 := ρ1) (σ1 := tst R' (sym :: W)) ?_).trans rfl
    have ht : tOr (t2 (f2 gEq) (dName "symbol") (dInt 7)) (t2 (f2 gEq) (dName "symbol") (dInt 31)) ρ1 (tst R' W) = some true := by
      unfold tOr
      rw [show t2 (f2 gEq) (dName "symbol") (dInt 7) ρ1 (tst R' W) = some (decide (sym = 7)) from isInt (b := 7) s1]
      rcases h7 with q | q
      · subst q; rfl
      · subst q; exact isInt (b := 31) s1
    refine (if_eq ht).trans ?_
    show sSeq _ _ 0 ρ1 _ = _
    rw [seq_next (drop_eq (pushWaits (n := sym) T1 (m := mOf (dName "symbol")) (dName_eq s1) (by omega)))]; rfl
  cases t with
  | l n =>
    cases hst
    refine ⟨ρ1, ?_, T1⟩
    refine (seq_next h1).trans ?_
    refine (seq_next (ρ1 := ρ1) (σ1 := tst (bitf n :: R) W) ?_).trans rfl
    refine (if_eq hn).trans ?_
    rw [decide_eq_true (show 256 ≤ (Tm.l n).sym from Nat.le_add_right _ _)]
    show sSeq _ _ 0 ρ1 _ = _
    rw [seq_next (drop_eq (pushRows T1 (letterRow hok s1) (by omega)))]; rfl
  | lp => cases hst; exact opening 7 rfl (by decide) (.inl rfl) rfl rfl
  | til => cases hst; exact opening 31 rfl (by decide) (.inr rfl) rfl rfl
  | rp =>
    have hst' : (match redB 8 R W with | some (R', _ :: W') => some (R', W') | _ => none) = some (R', W') := hst
    split at hst'
    · rename_i R1 w1 W1 hred
      cases hst'
      have fin : ∀ ρ3, TL ρ3 → ρ3 "symbol" = some (.int (8 : Nat)) → sIf (t2 (f2 gEq) (dName "symbol") (dInt 8)) (sSeq (sDrop (mPop "waits")) sDone) (sSeq (sDrop (mApp (dName "waits") (mOf (dName "symbol")))) sDone) 0 ρ3 (tst R' (w1 :: W')) = some (.next, ρ3, tst R' W') := by
        intro ρ3 T3 s3
        refine (if_eq (isInt (b := 8) s3)).trans ?_
        show sSeq _ _ 0 ρ3 _ = _
        rw [seq_next (drop_eq (popWaits T3))]; rfl
      exact closing 8 rfl (by decide) (by decide) (by decide) ⟨R', w1 :: W', hred, ρ1, fin ρ1 T1 s1, T1, fin⟩
    · cases hst'
  | bar =>
    have hst' : (match redB 18 R W with | some (R', W') => some (R', 18 :: W') | none => none) = some (R', W') := hst
    split at hst'
    · rename_i R1 W1 hred
      cases hst'
      have hlen := redB_len hred
      have fin : ∀ ρ3, TL ρ3 → ρ3 "symbol" = some (.int (18 : Nat)) → sIf (t2 (f2 gEq) (dName "symbol") (dInt 8)) (sSeq (sDrop (mPop "waits")) sDone) (sSeq (sDrop (mApp (dName "waits") (mOf (dName "symbol")))) sDone) 0 ρ3 (tst R' W1) = some (.next, ρ3, tst R' (18 :: W1)) := by
        intro ρ3 T3 s3
        refine (if_eq (isInt (b := 8) s3)).trans ?_
        show sSeq _ _ 0 ρ3 _ = _
        rw [seq_next (drop_eq (pushWaits (n := 18) T3 (m := mOf (dName "symbol")) (dName_eq s3) (by omega)))]; rfl
      exact closing 18 rfl (by decide) (by decide) (by decide) ⟨R', W1, hred, ρ1, fin ρ1 T1 s1, T1, fin⟩
    · cases hst'
  | amp =>
    have hst' : (match redB 19 R W with | some (R', W') => some (R', 19 :: W') | none => none) = some (R', W') := hst
    split at hst'
    · rename_i R1 W1 hred
      cases hst'
      have hlen := redB_len hred
      have fin : ∀ ρ3, TL ρ3 → ρ3 "symbol" = some (.int (19 : Nat)) → sIf (t2 (f2 gEq) (dName "symbol") (dInt 8)) (sSeq (sDrop (mPop "waits")) sDone) (sSeq (sDrop (mApp (dName "waits") (mOf (dName "symbol")))) sDone) 0 ρ3 (tst R' W1) = some (.next, ρ3, tst R' (19 :: W1)) := by
        intro ρ3 T3 s3
        refine (if_eq (isInt (b := 8) s3)).trans ?_
        show sSeq _ _ 0 ρ3 _ = _
        rw [seq_next (drop_eq (pushWaits (n := 19) T3 (m := mOf (dName "symbol")) (dName_eq s3) (by omega)))]; rfl
      exact closing 19 rfl (by decide) (by decide) (by decide) ⟨R', W1, hred, ρ1, fin ρ1 T1 s1, T1, fin⟩
    · cases hst'
theorem stepB_len {t : Tm} {R R' : List (Nat → Bool)} {W W' : List Nat} (h : stepB t R W = some (R', W')) : W'.length ≤ W.length + 1 ∧ R'.length ≤ R.length + 1 := by
  cases t with
  | l n => cases h; simp
  | lp => cases h; simp
  | til => cases h; simp
  | rp =>
    have h' : (match redB 8 R W with | some (R', _ :: W') => some (R', W') | _ => none) = some (R', W') := h
    split at h'
    · rename_i hr; cases h'; have := redB_len hr; simp only [List.length_cons] at this; omega
    · cases h'
  | amp =>
    have h' : (match redB 19 R W with | some (R', W') => some (R', 19 :: W') | none => none) = some (R', W') := h
    split at h'
    · rename_i hr; cases h'; have := redB_len hr; simp only [List.length_cons]; omega
    · cases h'
  | bar =>
    have h' : (match redB 18 R W with | some (R', W') => some (R', 18 :: W') | none => none) = some (R', W') := h
    split at h'
    · rename_i hr; cases h'; have := redB_len hr; simp only [List.length_cons]; omega
    · cases h'
theorem run_eq : ∀ {ts : List Tm} {R R' : List (Nat → Bool)} {W W' : List Nat} {ρ : Loc}, (∀ t ∈ ts, t.ok) → TL ρ → ts.length + W.length < 31 → ts.length + R.length < 4000 → runB ts R W = some (R', W') →
    ∃ ρ', forGo (tName "sign") tTurn 0 (ts.map fun t => V.str (S [t.code])) ρ (tst R W) = some (.next, ρ', tst R' W') ∧ TL ρ'
  | [], R, R', W, W', ρ, hok, T, hw, hr, h => by cases h; exact ⟨ρ, rfl, T⟩
  | t :: ts, R, R', W, W', ρ, hok, T, hw, hr, h => by
    unfold runB at h
    split at h
    · rename_i R1 W1 hst
      have hlen := stepB_len hst
      simp only [List.length_cons] at hw hr
      have T0 : TL (upd ρ "sign" (.str (S [t.code]))) := ⟨by simp [upd, T.rows], by simp [upd, T.waits]⟩
      obtain ⟨ρ1, e1, T1⟩ := turn_eq (hok t List.mem_cons_self) T0 (by simp [upd]) (by omega) (by omega) hst
      obtain ⟨ρ', e2, T2⟩ := run_eq (fun t ht => hok t (List.mem_cons_of_mem _ ht)) T1 (by omega) (by omega) h
      refine ⟨ρ', ?_, T2⟩
      rw [List.map_cons, forGo_cons (ρ1 := upd ρ "sign" (.str (S [t.code]))) rfl e1]
      exact e2
    · cases h
theorem fCall_ret {ns : List String} {B : SDen} {vs : List V} {σ s : Store} {r : Loc} {v : V} (hl : vs.length = ns.length) (h : B σ.length (locOf ns vs) σ = some (.ret v, r, s)) : fCall ns B vs σ = some (v, s) := by
  unfold fCall
  rw [if_pos hl, h]
theorem told_raw {ts : List Tm} {p : Nat → Bool} (hok : ∀ t ∈ ts, t.ok) (hl : ts.length ≤ 25) (h : runB (.lp :: ts ++ [.rp]) [] [] = some ([p], [])) : R_told [.str (S (ts.map Tm.code))] [] = some (.lst 0, [[.int (mk p)]]) := by
  have a0 : D_told0 0 (locOf ["text"] [.str (S (ts.map Tm.code))]) [] = some (.next, upd (locOf ["text"] [.str (S (ts.map Tm.code))]) "rows" (.lst 0), [[]]) := rfl
  have a1 : D_told1 0 (upd (locOf ["text"] [.str (S (ts.map Tm.code))]) "rows" (.lst 0)) [[]] = some (.next, upd (upd (locOf ["text"] [.str (S (ts.map Tm.code))]) "rows" (.lst 0)) "waits" (.lst 1), tst [] []) := rfl
  generalize hρ : upd (upd (locOf ["text"] [V.str (S (ts.map Tm.code))]) "rows" (.lst 0)) "waits" (.lst 1) = ρ at a1
  have T : TL ρ := by subst hρ; exact ⟨rfl, rfl⟩
  have ht : ρ "text" = some (.str (S (ts.map Tm.code))) := by subst hρ; rfl
  obtain ⟨ρ', e, T'⟩ := run_eq (ts := .lp :: ts ++ [.rp]) (ρ := ρ) (by
    intro t q
    rcases List.mem_append.mp q with q | q
    · rcases List.mem_cons.mp q with q | q
      · subst q; exact trivial
      · exact hok t q
    · rw [List.mem_singleton.mp q]; exact trivial) T (by simp only [List.length_append, List.length_cons, List.length_nil]; omega) (by simp only [List.length_append, List.length_cons, List.length_nil]; omega) h
  have i1 : d2 fAdd (d2 fAdd (dStr "(") (dName "text")) (dStr ")") ρ (tst [] []) = some (.str (S ((.lp :: ts ++ [.rp] : List Tm).map Tm.code)), tst [] []) := by
    have b1 : d2 fAdd (dStr "(") (dName "text") ρ (tst [] []) = some (.str (S (40 :: ts.map Tm.code)), tst [] []) := by
      rw [d2_eq (x := .str (S [40])) (σ1 := tst [] []) (by rw [← lparen]) (dName_eq ht)]
      exact add_str (by simp only [List.length_cons, List.length_nil, List.length_map]; omega)
    rw [d2_eq b1 (y := .str (S [41])) (σ2 := tst [] []) (by rw [← rparen])]
    rw [add_str (by simp only [List.length_cons, List.length_nil, List.length_map]; omega)]
    simp [Tm.code]
  have i2 : dIter (d2 fAdd (d2 fAdd (dStr "(") (dName "text")) (dStr ")")) ρ (tst [] []) = some ((.lp :: ts ++ [.rp] : List Tm).map (fun t => V.str (S [t.code])), tst [] [], 0) := by
    unfold dIter
    rw [i1]
    dsimp only
    congr 1
    congr 1
    unfold chars S
    simp [Function.comp_def]
  have a2 : D_told2 0 ρ (tst [] []) = some (.next, ρ', tst [p] []) := by
    rw [told2_is, for_eq i2]
    exact e
  have a3 : D_told3 0 ρ' (tst [p] []) = some (.ret (.lst 0), ρ', tst [p] []) := ret_eq (dName_eq T'.rows)
  have hD : D_told 0 (locOf ["text"] [.str (S (ts.map Tm.code))]) [] = some (.ret (.lst 0), ρ', tst [p] []) := by
    unfold D_told
    rw [seq_next a0, seq_next a1, seq_next a2, seq_ret a3]
  have hF : fCall ["text"] D_told [.str (S (ts.map Tm.code))] [] = some (.lst 0, tst [p] []) := fCall_ret rfl hD
  unfold R_told fNeat
  rw [hF]
  rfl
end Mine
end

section
open PySem PySem.W PyProof.Rows PySem.Calls
set_option Elab.async false
set_option autoImplicit false
set_option maxRecDepth 100000
set_option maxHeartbeats 400000
namespace Mine
noncomputable def flatGoB (acc cur : Bool) : List Bool → List Bool → Bool
  | v :: vs, s :: ss => if s then flatGoB (acc || cur) v vs ss else flatGoB acc (cur && v) vs ss
  | _, _ => acc || cur
noncomputable def flatB : List Bool → List Bool → Bool
  | v :: vs, ss => flatGoB false v vs ss
  | [], _ => false
noncomputable def truthB (g : Nat) (vs : List Bool) (ss : List Bool) : Bool :=
  if g = 0 then flatB vs ss else
    flatB (vs.take (pairOf g).1 ++ [flatB ((vs.take ((pairOf g).2 + 1)).drop (pairOf g).1) ((ss.take (pairOf g).2).drop (pairOf g).1)] ++ vs.drop ((pairOf g).2 + 1)) (ss.take (pairOf g).1 ++ ss.drop (pairOf g).2)
theorem min_b2i (a b : Bool) : min (b2i a) (b2i b) = b2i (a && b) := by cases a <;> cases b <;> rfl
theorem max_b2i (a b : Bool) : max (b2i a) (b2i b) = b2i (a || b) := by cases a <;> cases b <;> rfl
theorem flatGo_b2i : ∀ (vs ss : List Bool) (acc : Option Bool) (cur : Bool), flatGoP (acc.map b2i) (b2i cur) (vs.map b2i) ss = b2i (flatGoB (acc.getD false) cur vs ss)
  | [], ss, acc, cur => by
    cases acc with
    | none => cases ss <;> simp [flatGoP, flatGoB]
    | some m => cases ss <;> simp [flatGoP, flatGoB, max_b2i]
  | v :: vs, [], acc, cur => by
    cases acc with
    | none => simp [flatGoP, flatGoB]
    | some m => simp [flatGoP, flatGoB, max_b2i]
  | v :: vs, s :: ss, acc, cur => by
    cases s with
    | false =>
      have := flatGo_b2i vs ss acc (cur && v)
      rw [List.map_cons]
      show flatGoP (acc.map b2i) (min (b2i cur) (b2i v)) (vs.map b2i) ss = b2i (flatGoB (acc.getD false) (cur && v) vs ss)
      rw [min_b2i]; exact this
    | true =>
      rw [List.map_cons]
      cases acc with
      | none =>
        show flatGoP (some (b2i cur)) (b2i v) (vs.map b2i) ss = b2i (flatGoB (false || cur) v vs ss)
        have := flatGo_b2i vs ss (some cur) v
        simpa using this
      | some m =>
        show flatGoP (some (max (b2i m) (b2i cur))) (b2i v) (vs.map b2i) ss = b2i (flatGoB (m || cur) v vs ss)
        rw [max_b2i]
        exact flatGo_b2i vs ss (some (m || cur)) v
theorem flat_b2i (vs ss : List Bool) : flatP (vs.map b2i) ss = b2i (flatB vs ss) := by
  cases vs with
  | nil => rfl
  | cons v vs => exact flatGo_b2i vs ss none v
theorem truth_b2i (g : Nat) (vs ss : List Bool) : truthP g (vs.map b2i) ss = b2i (truthB g vs ss) := by
  unfold truthP truthB
  split
  · exact flat_b2i vs ss
  · rw [← List.map_take, ← List.map_take, ← List.map_drop, ← List.map_drop, flat_b2i]
    have : ∀ b : Bool, [b2i b] = [b].map b2i := fun _ => rfl
    rw [this, ← List.map_append, ← List.map_append, flat_b2i]
theorem vbit_is (c n : Nat) : vbit c n = b2i (c.testBit n) := by
  unfold vbit b2i
  rw [Nat.testBit_eq_decide_div_mod_eq]
  have := Nat.mod_two_eq_zero_or_one (c / 2 ^ n)
  rcases this with h | h <;> simp [h]

/-- formulas -/
structure Fm where
  (n0 n1 n2 n3 : Nat)
  (s0 s1 s2 : Bool)
  g : Nat
  (h0 : n0 < 4) (h1 : n1 < 4) (h2 : n2 < 4) (h3 : n3 < 4)
  hg : g < 6
noncomputable def Fm.f (φ : Fm) : Nat → Bool := fun c => truthB φ.g [c.testBit φ.n0, c.testBit φ.n1, c.testBit φ.n2, c.testBit φ.n3] [φ.s0, φ.s1, φ.s2]
noncomputable def parenT (a b : Nat) (t : Tm) : List Tm := if a = b then [t] else []
noncomputable def signT (b : Bool) : Tm := if b then .bar else .amp
noncomputable def tksT (n0 n1 n2 n3 : Nat) (s0 s1 s2 : Bool) (f l : Nat) : List Tm :=
  (parenT 0 f .lp ++ [.l n0] ++ parenT 0 l .rp ++ [signT s0]) ++ (parenT 1 f .lp ++ [.l n1] ++ parenT 1 l .rp ++ [signT s1]) ++ (parenT 2 f .lp ++ [.l n2] ++ parenT 2 l .rp ++ [signT s2]) ++ (parenT 3 f .lp ++ [.l n3] ++ parenT 3 l .rp ++ [])
noncomputable def Fm.tks (φ : Fm) : List Tm := tksT φ.n0 φ.n1 φ.n2 φ.n3 φ.s0 φ.s1 φ.s2 (pairOf φ.g).1 (pairOf φ.g).2
theorem paren_code (a b : Nat) (t : Tm) : (parenT a b t).map Tm.code = paren a b t.code := by
  unfold parenT paren; split <;> rfl
theorem sign_code (b : Bool) : (signT b).code = sc b := by cases b <;> rfl
theorem tks_code (φ : Fm) : φ.tks.map Tm.code = textP [φ.n0, φ.n1, φ.n2, φ.n3] [φ.s0, φ.s1, φ.s2] (pairOf φ.g).1 (pairOf φ.g).2 := by
  unfold Fm.tks tksT textP piece
  simp only [List.map_append, paren_code, List.map_cons, List.map_nil, sign_code]
  rfl
theorem runA (n0 n1 n2 n3 g : Nat) (hg : g < 6) (s0 s1 s2 : Bool) (R : List (Nat → Bool)) (W : List Nat) :
    runB (tksT n0 n1 n2 n3 s0 s1 s2 (pairOf g).1 (pairOf g).2 ++ [.rp]) R (7 :: W) = some ((fun c => truthB g [c.testBit n0, c.testBit n1, c.testBit n2, c.testBit n3] [s0, s1, s2]) :: R, W) := by
  match g, hg with
  | 0, _ => cases s0 <;> cases s1 <;> cases s2 <;> kernel_rfl
  | 1, _ => cases s0 <;> cases s1 <;> cases s2 <;> kernel_rfl
  | 2, _ => cases s0 <;> cases s1 <;> cases s2 <;> kernel_rfl
  | 3, _ => cases s0 <;> cases s1 <;> cases s2 <;> kernel_rfl
  | 4, _ => cases s0 <;> cases s1 <;> cases s2 <;> kernel_rfl
  | 5, _ => cases s0 <;> cases s1 <;> cases s2 <;> kernel_rfl
theorem runBar (n0 n1 n2 n3 g : Nat) (hg : g < 6) (s0 s1 s2 : Bool) (R : List (Nat → Bool)) (W : List Nat) :
    runB (tksT n0 n1 n2 n3 s0 s1 s2 (pairOf g).1 (pairOf g).2 ++ [.bar]) R (7 :: W) = some ((fun c => truthB g [c.testBit n0, c.testBit n1, c.testBit n2, c.testBit n3] [s0, s1, s2]) :: R, 18 :: 7 :: W) := by
  match g, hg with
  | 0, _ => cases s0 <;> cases s1 <;> cases s2 <;> kernel_rfl
  | 1, _ => cases s0 <;> cases s1 <;> cases s2 <;> kernel_rfl
  | 2, _ => cases s0 <;> cases s1 <;> cases s2 <;> kernel_rfl
  | 3, _ => cases s0 <;> cases s1 <;> cases s2 <;> kernel_rfl
  | 4, _ => cases s0 <;> cases s1 <;> cases s2 <;> kernel_rfl
  | 5, _ => cases s0 <;> cases s1 <;> cases s2 <;> kernel_rfl
theorem Fm.runA (φ : Fm) (R : List (Nat → Bool)) (W : List Nat) : runB (φ.tks ++ [.rp]) R (7 :: W) = some (φ.f :: R, W) := Mine.runA _ _ _ _ _ φ.hg _ _ _ R W
theorem Fm.runBar (φ : Fm) (R : List (Nat → Bool)) (W : List Nat) : runB (φ.tks ++ [.bar]) R (7 :: W) = some (φ.f :: R, 18 :: 7 :: W) := Mine.runBar _ _ _ _ _ φ.hg _ _ _ R W
theorem Fm.ok (φ : Fm) : ∀ t ∈ φ.tks, t.ok := by
  have hp : ∀ a b t, Tm.ok t → ∀ x ∈ parenT a b t, x.ok := fun a b t h x hx => by
    unfold parenT at hx
    split at hx
    · rw [List.mem_singleton.mp hx]; exact h
    · cases hx
  have hs : ∀ b, (signT b).ok := fun b => by cases b <;> trivial
  intro t ht
  unfold Fm.tks tksT at ht
  simp only [List.mem_append, List.mem_cons, List.not_mem_nil, or_false] at ht
  rcases ht with (((((h | h) | h) | h) | (((h | h) | h) | h)) | (((h | h) | h) | h)) | ((h | h) | h)
  all_goals first
    | exact hp _ _ .lp trivial t h
    | exact hp _ _ .rp trivial t h
    | (rw [h]; first | exact φ.h0 | exact φ.h1 | exact φ.h2 | exact φ.h3 | exact hs _)
theorem Fm.len (φ : Fm) : φ.tks.length ≤ 9 := by
  obtain ⟨n0, n1, n2, n3, s0, s1, s2, g, h0, h1, h2, h3, hg⟩ := φ
  show (tksT n0 n1 n2 n3 s0 s1 s2 (pairOf g).1 (pairOf g).2).length ≤ 9
  match g, hg with
  | 0, _ => exact Nat.le_of_ble_eq_true rfl
  | 1, _ => exact Nat.le_of_ble_eq_true rfl
  | 2, _ => exact Nat.le_of_ble_eq_true rfl
  | 3, _ => exact Nat.le_of_ble_eq_true rfl
  | 4, _ => exact Nat.le_of_ble_eq_true rfl
  | 5, _ => exact Nat.le_of_ble_eq_true rfl
theorem run_then {a b : List Tm} {R R' : List (Nat → Bool)} {W W' : List Nat} (h : runB a R W = some (R', W')) : runB (a ++ b) R W = runB b R' W' := by
  rw [runB_app, h]

/-- the six texts -/
noncomputable def txt (φ ψ : Fm) : Nat → List Tm
  | 0 => φ.tks
  | 1 => ψ.tks
  | 2 => .lp :: (φ.tks ++ [.rp]) ++ (.amp :: .lp :: (ψ.tks ++ [.rp]))
  | 3 => .lp :: (φ.tks ++ [.rp]) ++ (.amp :: .til :: .lp :: (ψ.tks ++ [.rp]))
  | 4 => .til :: .lp :: (ψ.tks ++ [.rp])
  | _ => (φ.tks ++ [.bar]) ++ (.til :: .lp :: (φ.tks ++ [.rp]))
noncomputable def due (φ ψ : Fm) : Nat → Nat → Bool
  | 0 => φ.f
  | 1 => ψ.f
  | 2 => fun c => φ.f c && ψ.f c
  | 3 => fun c => φ.f c && !ψ.f c
  | 4 => fun c => !ψ.f c
  | _ => fun c => φ.f c || !φ.f c
theorem txt_run (φ ψ : Fm) (k : Nat) : runB (.lp :: txt φ ψ k ++ [.rp]) [] [] = some ([due φ ψ k], []) := by
  match k with
  | 0 => exact φ.runA [] []
  | 1 => exact ψ.runA [] []
  | 2 =>
    show runB (.lp :: (.lp :: (φ.tks ++ [.rp]) ++ (.amp :: .lp :: (ψ.tks ++ [.rp]))) ++ [.rp]) [] [] = _
    have e : (.lp :: (.lp :: (φ.tks ++ [.rp]) ++ (.amp :: .lp :: (ψ.tks ++ [.rp]))) ++ [.rp] : List Tm) = [.lp, .lp] ++ ((φ.tks ++ [.rp]) ++ ([.amp, .lp] ++ ((ψ.tks ++ [.rp]) ++ [.rp]))) := by simp
    rw [e, run_then (R' := []) (W' := [7, 7]) rfl, run_then (φ.runA [] [7]), run_then (R' := [φ.f]) (W' := [7, 19, 7]) rfl, run_then (ψ.runA [φ.f] [19, 7])]
    rfl
  | 3 =>
    have e : (.lp :: (.lp :: (φ.tks ++ [.rp]) ++ (.amp :: .til :: .lp :: (ψ.tks ++ [.rp]))) ++ [.rp] : List Tm) = [.lp, .lp] ++ ((φ.tks ++ [.rp]) ++ ([.amp, .til, .lp] ++ ((ψ.tks ++ [.rp]) ++ [.rp]))) := by simp
    show runB (.lp :: (.lp :: (φ.tks ++ [.rp]) ++ (.amp :: .til :: .lp :: (ψ.tks ++ [.rp]))) ++ [.rp]) [] [] = _
    rw [e, run_then (R' := []) (W' := [7, 7]) rfl, run_then (φ.runA [] [7]), run_then (R' := [φ.f]) (W' := [7, 31, 19, 7]) rfl, run_then (ψ.runA [φ.f] [31, 19, 7])]
    rfl
  | 4 =>
    have e : (.lp :: (.til :: .lp :: (ψ.tks ++ [.rp])) ++ [.rp] : List Tm) = [.lp, .til, .lp] ++ ((ψ.tks ++ [.rp]) ++ [.rp]) := by simp
    show runB (.lp :: (.til :: .lp :: (ψ.tks ++ [.rp])) ++ [.rp]) [] [] = _
    rw [e, run_then (R' := []) (W' := [7, 31, 7]) rfl, run_then (ψ.runA [] [31, 7])]
    rfl
  | k + 5 =>
    have e : (.lp :: ((φ.tks ++ [.bar]) ++ (.til :: .lp :: (φ.tks ++ [.rp]))) ++ [.rp] : List Tm) = [.lp] ++ ((φ.tks ++ [.bar]) ++ ([.til, .lp] ++ ((φ.tks ++ [.rp]) ++ [.rp]))) := by simp
    show runB (.lp :: ((φ.tks ++ [.bar]) ++ (.til :: .lp :: (φ.tks ++ [.rp]))) ++ [.rp]) [] [] = _
    rw [e, run_then (R' := []) (W' := [7]) rfl, run_then (φ.runBar [] []), run_then (R' := [φ.f]) (W' := [7, 31, 18, 7]) rfl, run_then (φ.runA [φ.f] [31, 18, 7])]
    rfl
theorem txt_told (φ ψ : Fm) (k : Nat) : R_told [.str (S ((txt φ ψ k).map Tm.code))] [] = some (.lst 0, [[.int (mk (due φ ψ k))]]) := by
  have hφ := φ.len
  have hψ := ψ.len
  refine told_raw ?_ ?_ (txt_run φ ψ k)
  · intro t ht
    have o1 := φ.ok t
    have o2 := ψ.ok t
    match k with
    | 0 => exact o1 ht
    | 1 => exact o2 ht
    | 2 =>
      simp only [txt, List.mem_append, List.mem_cons, List.not_mem_nil, or_false] at ht
      rcases ht with (h | h | h) | h | h | h | h
      all_goals first | (rw [h]; trivial) | exact o1 h | exact o2 h
    | 3 =>
      simp only [txt, List.mem_append, List.mem_cons, List.not_mem_nil, or_false] at ht
      rcases ht with (h | h | h) | h | h | h | h | h
      all_goals first | (rw [h]; trivial) | exact o1 h | exact o2 h
    | 4 =>
      simp only [txt, List.mem_append, List.mem_cons, List.not_mem_nil, or_false] at ht
      rcases ht with h | h | h | h
      all_goals first | (rw [h]; trivial) | exact o1 h | exact o2 h
    | k + 5 =>
      simp only [txt, List.mem_append, List.mem_cons, List.not_mem_nil, or_false] at ht
      rcases ht with (h | h) | h | h | h | h
      all_goals first | (rw [h]; trivial) | exact o1 h | exact o2 h
  · match k with
    | 0 => exact Nat.le_trans hφ (by decide)
    | 1 => exact Nat.le_trans hψ (by decide)
    | 2 => simp only [txt, List.length_append, List.length_cons, List.length_nil]; omega
    | 3 => simp only [txt, List.length_append, List.length_cons, List.length_nil]; omega
    | 4 => simp only [txt, List.length_append, List.length_cons, List.length_nil]; omega
    | k + 5 => simp only [txt, List.length_append, List.length_cons, List.length_nil]; omega
end Mine
end

section
open PySem PySem.W PyProof.Rows PySem.Calls
set_option Elab.async false
set_option autoImplicit false
set_option maxRecDepth 100000
set_option maxHeartbeats 400000
namespace Mine
noncomputable def hexGo : Nat → Nat → List Nat → List Nat
  | 0, _, acc => acc
  | f + 1, n, acc => if n = 0 then acc else hexGo f (n / 16) (n % 16 :: acc)
noncomputable def bd (l : List Nat) : Array UInt8 := (l.map fun d => UInt8.ofNat (65 + d)).toArray
noncomputable def apAll : List UInt8 := [65, 66, 67, 68, 69, 70, 71, 72, 73, 74, 75, 76, 77, 78, 79, 80]
theorem pick1 {m : Nat} (h : m < 16) : KBy.picked apAll.toArray (some (m : Int)) (some ((m : Int) + 1)) = bd [m] := by
  have : ∀ m : Fin 16, KBy.picked apAll.toArray (some ((m.1 : Nat) : Int)) (some (((m.1 : Nat) : Int) + 1)) = bd [m.1] := by decide +kernel
  exact this ⟨m, h⟩
noncomputable def apTurn : SDen := (sSeq (sUnpack (tTup [(tName "num"), (tName "mod")]) (dFlat (dApp fDivmod [(dName "num"), (dInt 16)]))) (sSeq (sSet "val" (mOf (d2 fAdd (dSliceB (dName "AP") (some (dName "mod")) (some (d2 fAdd (dName "mod") (dInt 1)))) (dName "val")))) sDone))
structure AL (n : Nat) (acc : List Nat) (ρ : Loc) : Prop where
  num : ρ "num" = some (.int n)
  val : ρ "val" = some (.bytes (bd acc))
  ap : ρ "AP" = some (.bytes apAll.toArray)
theorem apTurn_eq {n : Nat} {acc : List Nat} {ρ : Loc} {σ : Store} {lo : Nat} (A : AL n acc ρ) (hl : acc.length ≤ 1000) : ∃ ρ', apTurn lo ρ σ = some (.next, ρ', σ) ∧ AL (n / 16) (n % 16 :: acc) ρ' := by
  have h1 : dFlat (dApp fDivmod [(dName "num"), (dInt 16)]) ρ σ = some (.tup [.int ((n / 16 : Nat) : Int), .int ((n % 16 : Nat) : Int)], σ) := by
    unfold dFlat dApp dArgs
    rw [dName_eq A.num]
    rfl
  have h2 : sUnpack (tTup [(tName "num"), (tName "mod")]) (dFlat (dApp fDivmod [(dName "num"), (dInt 16)])) lo ρ σ = some (.next, upd (upd ρ "num" (.int ((n / 16 : Nat) : Int))) "mod" (.int ((n % 16 : Nat) : Int)), σ) := by
    unfold sUnpack
    rw [h1]
    rfl
  generalize hρ : upd (upd ρ "num" (V.int ((n / 16 : Nat) : Int))) "mod" (V.int ((n % 16 : Nat) : Int)) = ρ1 at h2
  have m1 : ρ1 "mod" = some (.int ((n % 16 : Nat) : Int)) := by subst hρ; simp [upd]
  have a1 : ρ1 "AP" = some (.bytes apAll.toArray) := by subst hρ; simp [upd, A.ap]
  have v1 : ρ1 "val" = some (.bytes (bd acc)) := by subst hρ; simp [upd, A.val]
  have n1 : ρ1 "num" = some (.int ((n / 16 : Nat) : Int)) := by subst hρ; simp [upd]
  have h3 : dSliceB (dName "AP") (some (dName "mod")) (some (d2 fAdd (dName "mod") (dInt 1))) ρ1 σ = some (.bytes (bd [n % 16]), σ) := by
    unfold dSliceB
    rw [dName_eq a1]
    have p1 : dPart (some (dName "mod")) ρ1 σ = some (some ((n % 16 : Nat) : Int)) := by
      unfold dPart; dsimp only; rw [dName_eq m1]
    have p2 : dPart (some (d2 fAdd (dName "mod") (dInt 1))) ρ1 σ = some (some (((n % 16 : Nat) : Int) + 1)) := by
      unfold dPart; dsimp only; rw [d2_eq (dName_eq m1) (y := .int 1) (σ2 := σ) rfl]; rfl
    dsimp only
    rw [p1, p2]
    dsimp only
    rw [if_pos (by decide), pick1 (Nat.mod_lt _ (by decide))]
  have h4 : sSet "val" (mOf (d2 fAdd (dSliceB (dName "AP") (some (dName "mod")) (some (d2 fAdd (dName "mod") (dInt 1)))) (dName "val"))) lo ρ1 σ = some (.next, upd ρ1 "val" (.bytes (bd (n % 16 :: acc))), σ) := by
    refine set_next ?_
    rw [d2_eq h3 (dName_eq v1)]
    unfold fAdd
    dsimp only
    rw [if_pos (by unfold bd; simp only [List.size_toArray, List.length_map, List.length_cons, List.length_nil]; omega)]
    have : bd [n % 16] ++ bd acc = bd (n % 16 :: acc) := by unfold bd; simp
    rw [this]
  refine ⟨upd ρ1 "val" (.bytes (bd (n % 16 :: acc))), ?_, ⟨by simp [upd, n1], by simp [upd], by simp [upd, a1]⟩⟩
  unfold apTurn
  rw [seq_next h2, seq_next h4]; rfl
theorem apLoop : ∀ {f n : Nat} {acc : List Nat} {ρ : Loc} {σ : Store} {lo : Nat}, AL n acc ρ → n < 16 ^ f → acc.length + f ≤ 1000 → ∃ ρ', whileGo (dTruth (dName "num")) apTurn lo (f + 1) ρ σ = some (.next, ρ', σ) ∧ ρ' "val" = some (.bytes (bd (hexGo f n acc)))
  | 0, n, acc, ρ, σ, lo, A, hn, hl => by
    have : n = 0 := by simpa using hn
    subst this
    refine ⟨ρ, ?_, A.val⟩
    unfold whileGo dTruth
    rw [dName_eq A.num]
    rfl
  | f + 1, n, acc, ρ, σ, lo, A, hn, hl => by
    have ht : dTruth (dName "num") ρ σ = some (decide (n ≠ 0)) := by
      unfold dTruth
      rw [dName_eq A.num]
      show some (decide ((n : Int) ≠ 0)) = _
      congr 1
      by_cases h : n = 0
      · subst h; rfl
      · rw [decide_eq_true (by omega), decide_eq_true h]
    by_cases h : n = 0
    · refine ⟨ρ, ?_, by rw [A.val]; unfold hexGo; rw [if_pos h]⟩
      unfold whileGo
      rw [ht, decide_eq_false (by omega)]
    · obtain ⟨ρ1, e1, A1⟩ := apTurn_eq (σ := σ) (lo := lo) A (by omega)
      have hn' : n / 16 < 16 ^ f := by
        rw [Nat.div_lt_iff_lt_mul (by decide), ← Nat.pow_succ]; exact hn
      obtain ⟨ρ', e2, v2⟩ := apLoop (σ := σ) (lo := lo) A1 hn' (by simp only [List.length_cons]; omega)
      refine ⟨ρ', ?_, by rw [v2]; conv => rhs; unfold hexGo; rw [if_neg h]⟩
      unfold whileGo
      rw [ht, decide_eq_true h]
      dsimp only
      rw [e1]
      exact e2
theorem ap_raw {i : Int} (h : i.natAbs < 65536) : (R_Int2AP [.int i] []).map (·.1) = some (.bytes (bd (hexGo 31 i.natAbs []))) := by
  refine fCall_fst rfl ?_
  show ans (D_Int2AP 0 (locOf ["num"] [.int i]) []) = _
  have a0 : D_Int2AP0 0 (locOf ["num"] [.int i]) [] = some (.next, upd (locOf ["num"] [.int i]) "val" (.bytes (bd [])), []) := rfl
  have a1 : D_Int2AP1 0 (upd (locOf ["num"] [.int i]) "val" (.bytes (bd []))) [] = some (.next, upd (upd (locOf ["num"] [.int i]) "val" (.bytes (bd []))) "AP" (.bytes apAll.toArray), []) := rfl
  have a2 : D_Int2AP2 0 (upd (upd (locOf ["num"] [.int i]) "val" (.bytes (bd []))) "AP" (.bytes apAll.toArray)) [] = some (.next, upd (upd (upd (locOf ["num"] [.int i]) "val" (.bytes (bd []))) "AP" (.bytes apAll.toArray)) "num" (.int i.natAbs), []) := by
    refine set_next (app1_eq (x := .int i.natAbs) (σ1 := []) (σ2 := []) (app1_eq (x := .int i) (σ1 := []) (σ2 := []) rfl ?_ rfl) rfl rfl)
    show some (V.int (if i < 0 then -i else i), _) = _
    congr 3
    split <;> omega
  have A : AL i.natAbs [] (upd (upd (upd (locOf ["num"] [.int i]) "val" (.bytes (bd []))) "AP" (.bytes apAll.toArray)) "num" (.int i.natAbs)) := ⟨rfl, rfl, rfl⟩
  obtain ⟨ρ', e, v⟩ := apLoop (f := 31) (σ := []) (lo := 0) A (Nat.lt_of_lt_of_le h (by decide)) (by decide)
  have a3 : D_Int2AP3 0 (upd (upd (upd (locOf ["num"] [.int i]) "val" (.bytes (bd []))) "AP" (.bytes apAll.toArray)) "num" (.int i.natAbs)) [] = some (.next, ρ', []) := e
  have a4 : D_Int2AP4 0 ρ' [] = some (.ret (.bytes (bd (hexGo 31 i.natAbs []))), ρ', []) := ret_eq (dName_eq v)
  unfold D_Int2AP
  rw [seq_next a0, seq_next a1, seq_next a2, seq_next a3, seq_ret a4]
  rfl
theorem decode_bd {l : List Nat} (hl : l.length ≤ 1000) (h : ∀ d ∈ l, d < 16) : gDecode (.bytes (bd l)) = some (.str (S (l.map fun d => 65 + d))) := by
  have e : ∀ d, d < 16 → (UInt8.ofNat (65 + d)).toNat = 65 + d := fun d hd => by
    rw [UInt8.toNat_ofNat']; omega
  unfold gDecode
  dsimp only
  rw [if_pos]
  · unfold S bd
    congr 3
    congr 1
    rw [List.toList_toArray, List.map_map]
    exact List.map_congr_left fun d hd => e d (h d hd)
  · unfold bd
    refine ⟨by simp only [List.size_toArray, List.length_map]; omega, ?_⟩
    rw [List.toList_toArray, List.all_eq_true]
    intro x hx
    obtain ⟨d, hd, rfl⟩ := List.mem_map.mp hx
    have := h d hd
    rw [e d this]
    exact decide_eq_true (by omega)
end Mine
end

section
open PySem PySem.W PyProof.Rows PySem.Calls
set_option Elab.async false
set_option autoImplicit false
set_option maxRecDepth 100000
set_option maxHeartbeats 400000
namespace Mine
theorem hexGo_zero (f : Nat) (acc : List Nat) : hexGo f 0 acc = acc := by cases f <;> rfl
theorem hexGo_succ {f n : Nat} {acc : List Nat} (h : n ≠ 0) : hexGo (f + 1) n acc = hexGo f (n / 16) (n % 16 :: acc) := by
  show (if n = 0 then acc else _) = _
  rw [if_neg h]
noncomputable def hexW (n : Nat) : List Nat := if n = 0 then [] else if n < 16 then [n] else if n < 256 then [n / 16, n % 16] else if n < 4096 then [n / 256, n / 16 % 16, n % 16] else [n / 4096, n / 256 % 16, n / 16 % 16, n % 16]
theorem hex_is {n : Nat} (h : n < 65536) : hexGo 31 n [] = hexW n := by
  unfold hexW
  split
  · rename_i e; subst e; rfl
  · rename_i h0
    rw [hexGo_succ h0]
    split
    · rename_i h1
      have e : n / 16 = 0 := by omega
      rw [e, hexGo_zero]; congr 1; omega
    · rename_i h1
      rw [hexGo_succ (by omega)]
      split
      · rename_i h2
        have e : n / 16 / 16 = 0 := by omega
        rw [e, hexGo_zero]; congr 1; omega
      · rename_i h2
        rw [hexGo_succ (by omega)]
        split
        · rename_i h3
          have e : n / 16 / 16 / 16 = 0 := by omega
          rw [e, hexGo_zero]
          have : n / 16 / 16 % 16 = n / 256 := by omega
          rw [this]
        · rename_i h3
          rw [hexGo_succ (by omega)]
          have e : n / 16 / 16 / 16 / 16 = 0 := by omega
          have e2 : n / 16 / 16 / 16 % 16 = n / 4096 := by omega
          have e3 : n / 16 / 16 % 16 = n / 256 % 16 := by omega
          rw [e, hexGo_zero, e2, e3]
theorem hexW_lt {n : Nat} (h : n < 65536) : ∀ d ∈ hexW n, d < 16 := by
  unfold hexW
  intro d hd
  split at hd
  · cases hd
  · split at hd
    · simp only [List.mem_cons, List.not_mem_nil, or_false] at hd; omega
    · split at hd
      · simp only [List.mem_cons, List.not_mem_nil, or_false] at hd; omega
      · split at hd
        · simp only [List.mem_cons, List.not_mem_nil, or_false] at hd; omega
        · simp only [List.mem_cons, List.not_mem_nil, or_false] at hd; omega
theorem sl4 (a b c d : Nat) : Txt.slice (S [a, b, c, d]) (some (-4)) none = S [a, b, c, d] := by kernel_rfl
theorem sl5 (x a b c d : Nat) : Txt.slice (S [x, a, b, c, d]) (some (-4)) none = S [a, b, c, d] := by kernel_rfl
theorem sl6 (x y a b c d : Nat) : Txt.slice (S [x, y, a, b, c, d]) (some (-4)) none = S [a, b, c, d] := by kernel_rfl
theorem sl7 (x y z a b c d : Nat) : Txt.slice (S [x, y, z, a, b, c, d]) (some (-4)) none = S [a, b, c, d] := by kernel_rfl
theorem sl8 (x y z u a b c d : Nat) : Txt.slice (S [x, y, z, u, a, b, c, d]) (some (-4)) none = S [a, b, c, d] := by kernel_rfl
theorem f0 : Txt.slice (S []) none (some 1) = S [] := by kernel_rfl
theorem f1' (a : Nat) : Txt.slice (S [a]) none (some 1) = S [a] := by kernel_rfl
theorem f2' (a b : Nat) : Txt.slice (S [a, b]) none (some 1) = S [a] := by kernel_rfl
theorem f3' (a b c : Nat) : Txt.slice (S [a, b, c]) none (some 1) = S [a] := by kernel_rfl
theorem f4' (a b c d : Nat) : Txt.slice (S [a, b, c, d]) none (some 1) = S [a] := by kernel_rfl
noncomputable def word (n : Nat) : List Nat := (hexW n).map fun d => 65 + d
theorem pad_is {n : Nat} (h : n < 65536) : Txt.slice (S ([65, 65, 65, 65] ++ word n)) (some (-4)) none = S [65 + n / 4096 % 16, 65 + n / 256 % 16, 65 + n / 16 % 16, 65 + n % 16] := by
  unfold word hexW
  split
  · rename_i e; subst e; exact sl4 _ _ _ _
  · split
    · refine (sl5 _ _ _ _ _).trans ?_
      have a : n / 4096 % 16 = 0 := by omega
      have b : n / 256 % 16 = 0 := by omega
      have c : n / 16 % 16 = 0 := by omega
      have d : n % 16 = n := by omega
      rw [a, b, c, d]
    · split
      · refine (sl6 _ _ _ _ _ _).trans ?_
        have a : n / 4096 % 16 = 0 := by omega
        have b : n / 256 % 16 = 0 := by omega
        have c : n / 16 % 16 = n / 16 := by omega
        rw [a, b, c]
      · split
        · refine (sl7 _ _ _ _ _ _ _).trans ?_
          have a : n / 4096 % 16 = 0 := by omega
          have b : n / 256 % 16 = n / 256 := by omega
          rw [a, b]
        · refine (sl8 _ _ _ _ _ _ _ _).trans ?_
          have a : n / 4096 % 16 = n / 4096 := by omega
          rw [a]
theorem S_beq {a b : List Nat} (h : a ≠ b) : (S a == S b) = false := by
  refine beq_eq_false_iff_ne.mpr fun e => h ?_
  have := congrArg Str.cps e
  simpa [S] using this
theorem head_is {n : Nat} : (Txt.slice (S (word n)) none (some 1) == S [65]) = false := by
  unfold word hexW
  split
  · rw [show ([] : List Nat).map (fun d => 65 + d) = [] from rfl, f0]; exact S_beq (by simp)
  · rename_i h0
    split
    · exact (congrArg (· == S [65]) (f1' _)).trans (S_beq (by simp; omega))
    · split
      · exact (congrArg (· == S [65]) (f2' _ _)).trans (S_beq (by simp; omega))
      · split
        · exact (congrArg (· == S [65]) (f3' _ _ _)).trans (S_beq (by simp; omega))
        · exact (congrArg (· == S [65]) (f4' _ _ _ _)).trans (S_beq (by simp; omega))
theorem word_len (n : Nat) : (word n).length ≤ 4 := by
  unfold word hexW
  rw [List.length_map]
  split
  · exact Nat.zero_le _
  · split
    · exact Nat.le_of_ble_eq_true rfl
    · split
      · exact Nat.le_of_ble_eq_true rfl
      · split <;> exact Nat.le_of_ble_eq_true rfl

/-- the weights -/
noncomputable def wrow (W : Nat → Nat → Int) (i : Nat) : V := .tup [.int (W i 0), .int (W i 1)]
noncomputable def wl (W : Nat → Nat → Int) : List V := [wrow W 0, wrow W 1, wrow W 2, wrow W 3]
noncomputable def WOk (W : Nat → Nat → Int) : Prop := ∀ i b, 0 < W i b ∧ W i b ≤ 1000
theorem wItem {W : Nat → Nat → Int} {ρ : Loc} {σ : Store} {m i b : Nat} {di db : Den} (hρ : ρ "weights" = some (.lst m)) (hσ : σ[m]? = some (wl W)) (hi : i < 4) (hb : b < 2) (h1 : di ρ σ = some (.int i, σ)) (h2 : db ρ σ = some (.int b, σ)) :
    dFlat (d2 fItem (dFlat (d2 fItem (dName "weights") di)) db) ρ σ = some (.int (W i b), σ) := by
  have e1 : dFlat (d2 fItem (dName "weights") di) ρ σ = some (wrow W i, σ) := by
    unfold dFlat
    rw [d2_eq (dName_eq hρ) h1]
    unfold fItem
    dsimp only
    rw [hσ]
    match i, hi with
    | 0, _ => rfl
    | 1, _ => rfl
    | 2, _ => rfl
    | 3, _ => rfl
  refine flat_eq (σ1 := σ) ?_ rfl
  rw [d2_eq e1 h2]
  match b, hb with
  | 0, _ => rfl
  | 1, _ => rfl
theorem mul_call {a b : Den} {ρ : Loc} {σ : Store} {x y : Int} (h1 : a ρ σ = some (.int x, σ)) (h2 : b ρ σ = some (.int y, σ)) (hy : y.natAbs < 2 ^ 62) : dFlat (dApp K_mul [a, b]) ρ σ = some (.int (x * y), σ) := by
  refine app2_eq h1 h2 (σ3 := σ) ?_ rfl
  unfold K_mul
  dsimp only
  rw [if_pos hy]
theorem add_call {a b : Den} {ρ : Loc} {σ : Store} {x y : Int} (h1 : a ρ σ = some (.int x, σ)) (h2 : b ρ σ = some (.int y, σ)) : dFlat (dApp K_add [a, b]) ρ σ = some (.int (x + y), σ) := app2_eq h1 h2 (σ3 := σ) rfl rfl
theorem mod_eq {a : Den} {ρ : Loc} {σ : Store} {x m : Nat} (h : a ρ σ = some (.int x, σ)) (hm : 0 < m) : d2 (f2 (int2 gMod)) a (dInt m) ρ σ = some (.int ((x % m : Nat) : Int), σ) := by
  rw [d2_eq h (y := .int m) (σ2 := σ) rfl]
  show (gMod x m).map (·, σ) = _
  unfold gMod
  rw [if_pos (by omega)]; rfl
theorem div_eq {a : Den} {ρ : Loc} {σ : Store} {x m : Nat} (h : a ρ σ = some (.int x, σ)) (hm : 0 < m) (hm2 : m < 2 ^ 30) : d2 (f2 (int2 gDiv)) a (dInt m) ρ σ = some (.int ((x / m : Nat) : Int), σ) := by
  rw [d2_eq h (y := .int m) (σ2 := σ) rfl]
  show (gDiv x m).map (·, σ) = _
  unfold gDiv
  rw [if_pos (by omega)]; rfl
theorem int_eq (n : Nat) (ρ : Loc) (σ : Store) : dInt (n : Int) ρ σ = some (.int n, σ) := rfl
end Mine
end

section
open PySem PySem.W PyProof.Rows PySem.Calls
set_option Elab.async false
set_option autoImplicit false
set_option maxRecDepth 100000
set_option maxHeartbeats 400000
namespace Mine
theorem idx16 {d : Nat} (h : d < 16) : gIndex (.str (Str.ofString "ABCDEFGHIJKLMNOP")) (.str (S [65 + d])) = some (.int d) := by
  match d, h with
  | 0, _ => kernel_rfl
  | 1, _ => kernel_rfl
  | 2, _ => kernel_rfl
  | 3, _ => kernel_rfl
  | 4, _ => kernel_rfl
  | 5, _ => kernel_rfl
  | 6, _ => kernel_rfl
  | 7, _ => kernel_rfl
  | 8, _ => kernel_rfl
  | 9, _ => kernel_rfl
  | 10, _ => kernel_rfl
  | 11, _ => kernel_rfl
  | 12, _ => kernel_rfl
  | 13, _ => kernel_rfl
  | 14, _ => kernel_rfl
  | 15, _ => kernel_rfl
  | n + 16, h => exact absurd h (by omega)
noncomputable def wIn : SDen := (sSeq (sIf (t2 (f2 gEq) (d2 (f2 (int2 gMod)) (d2 (f2 (int2 gDiv)) (dName "figure") (d2 (f2 (int2 gPow)) (dInt 2) (dName "k"))) (dInt 2)) (dInt 1)) (sSeq (sSet "part" (mOf (dFlat (dApp K_add [(dName "part"), (dFlat (dApp K_mul [(dFlat (d2 fItem (dFlat (d2 fItem (dName "weights") (dInt 0))) (d2 (f2 (int2 gMod)) (dName "k") (dInt 2)))), (dFlat (d2 fItem (dFlat (d2 fItem (dName "weights") (dInt 1))) (d2 (f2 (int2 gDiv)) (dName "k") (dInt 2))))]))])))) sDone) sDone) sDone)
noncomputable def wEnd : SDen := (sSet "weight" (mOf (dFlat (dApp K_add [(dName "weight"), (dFlat (dApp K_mul [(dName "part"), (dFlat (dApp K_mul [(dFlat (d2 fItem (dFlat (d2 fItem (dName "weights") (dInt 2))) (d2 (f2 (int2 gMod)) (d2 (f2 (int2 gSub)) (dInt 3) (dName "place")) (dInt 2)))), (dFlat (d2 fItem (dFlat (d2 fItem (dName "weights") (dInt 3))) (d2 (f2 (int2 gDiv)) (d2 (f2 (int2 gSub)) (dInt 3) (dName "place")) (dInt 2))))]))]))]))))
noncomputable def wTurn : SDen := (sSeq (sSet "figure" (mOf (dFlat (dApp (f2 gIndex) [(dStr "ABCDEFGHIJKLMNOP"), (dName "letter")])))) (sSeq (sSet "part" (mOf (dInt 0))) (sSeq (sFor (dRange (dInt 4)) (tName "k") wIn) (sSeq wEnd sDone))))
theorem weighed1_is : D_weighed1 = sFor (dEnum (dName "letters")) (tTup [(tName "place"), (tName "letter")]) wTurn := rfl
structure WL (ρ : Loc) (d p : Nat) (y x : Int) : Prop where
  weights : ρ "weights" = some (.lst 0)
  figure : ρ "figure" = some (.int d)
  part : ρ "part" = some (.int x)
  weight : ρ "weight" = some (.int y)
  place : ρ "place" = some (.int p)
noncomputable def pstep (W : Nat → Nat → Int) (d k : Nat) (x : Int) : Int := if d.testBit k then x + W 0 (k % 2) * W 1 (k / 2) else x
theorem small_w {W : Nat → Nat → Int} (h : WOk W) (i b : Nat) : (W i b).natAbs < 2 ^ 62 := by
  have := h i b
  have e : (2 : Nat) ^ 62 = 4611686018427387904 := rfl
  omega
theorem wIn_eq {W : Nat → Nat → Int} (hW : WOk W) {d p k lo : Nat} {x y : Int} {ρ : Loc} (hk : k < 4) (L : WL ρ d p y x) :
    ∃ ρ', wIn lo (upd ρ "k" (.int k)) [wl W] = some (.next, ρ', [wl W]) ∧ WL ρ' d p y (pstep W d k x) := by
  have off : ∀ x, x ≠ "k" → upd ρ "k" (.int k) x = ρ x := fun x hx => by simp [upd, hx]
  have kk : upd ρ "k" (.int k) "k" = some (.int k) := by simp [upd]
  generalize hρ : upd ρ "k" (V.int k) = ρ1 at *
  have L1 : WL ρ1 d p y x := ⟨(off _ (by decide)).trans L.weights, (off _ (by decide)).trans L.figure, (off _ (by decide)).trans L.part, (off _ (by decide)).trans L.weight, (off _ (by decide)).trans L.place⟩
  have hp : d2 (f2 (int2 gPow)) (dInt 2) (dName "k") ρ1 [wl W] = some (.int ((2 ^ k : Nat) : Int), [wl W]) := by
    rw [d2_eq (x := .int 2) (σ1 := [wl W]) rfl (dName_eq kk)]
    match k, hk with
    | 0, _ => rfl
    | 1, _ => rfl
    | 2, _ => rfl
    | 3, _ => rfl
  have hd : d2 (f2 (int2 gDiv)) (dName "figure") (d2 (f2 (int2 gPow)) (dInt 2) (dName "k")) ρ1 [wl W] = some (.int ((d / 2 ^ k : Nat) : Int), [wl W]) := by
    rw [d2_eq (dName_eq L1.figure) hp]
    match k, hk with
    | 0, _ => rfl
    | 1, _ => rfl
    | 2, _ => rfl
    | 3, _ => rfl
  have ht : t2 (f2 gEq) (d2 (f2 (int2 gMod)) (d2 (f2 (int2 gDiv)) (dName "figure") (d2 (f2 (int2 gPow)) (dInt 2) (dName "k"))) (dInt 2)) (dInt 1) ρ1 [wl W] = some (d.testBit k) := by
    refine t2_eq (mod_eq hd (m := 2) (by decide)) (y := .int (1 : Nat)) (σ2 := [wl W]) (σ3 := [wl W]) rfl ?_
    rw [eq_int, Nat.testBit_eq_decide_div_mod_eq]
  unfold wIn pstep
  cases hb : d.testBit k with
  | false =>
    rw [hb] at ht
    refine ⟨ρ1, ?_, L1⟩
    exact (seq_next (ρ1 := ρ1) (σ1 := [wl W]) ((if_eq ht).trans rfl)).trans rfl
  | true =>
    rw [hb] at ht
    have w0 : dFlat (d2 fItem (dFlat (d2 fItem (dName "weights") (dInt 0))) (d2 (f2 (int2 gMod)) (dName "k") (dInt 2))) ρ1 [wl W] = some (.int (W 0 (k % 2)), [wl W]) :=
      wItem (i := 0) L1.weights rfl (by decide) (Nat.mod_lt _ (by decide)) rfl (mod_eq (dName_eq kk) (m := 2) (by decide))
    have w1 : dFlat (d2 fItem (dFlat (d2 fItem (dName "weights") (dInt 1))) (d2 (f2 (int2 gDiv)) (dName "k") (dInt 2))) ρ1 [wl W] = some (.int (W 1 (k / 2)), [wl W]) :=
      wItem (i := 1) L1.weights rfl (by decide) (by omega) rfl (div_eq (dName_eq kk) (m := 2) (by decide) (by decide))
    have hs := set_next (n := "part") (lo := lo) (add_call (dName_eq L1.part) (mul_call w0 w1 (small_w hW _ _)))
    refine ⟨upd ρ1 "part" (.int (x + W 0 (k % 2) * W 1 (k / 2))), ?_, ?_⟩
    · refine (seq_next (ρ1 := upd ρ1 "part" (.int (x + W 0 (k % 2) * W 1 (k / 2)))) (σ1 := [wl W]) ?_).trans rfl
      refine (if_eq ht).trans ?_
      exact (seq_next hs).trans rfl
    exact ⟨by simp [upd, L1.weights], by simp [upd, L1.figure], by simp [upd], by simp [upd, L1.weight], by simp [upd, L1.place]⟩
noncomputable def partOf (W : Nat → Nat → Int) (d : Nat) : Int := pstep W d 3 (pstep W d 2 (pstep W d 1 (pstep W d 0 0)))
theorem wTurn_eq {W : Nat → Nat → Int} (hW : WOk W) {d p lo : Nat} {y : Int} {ρ : Loc} (hd : d < 16) (hp : p < 4) (hw : ρ "weights" = some (.lst 0)) (hl : ρ "letter" = some (.str (S [65 + d]))) (hpl : ρ "place" = some (.int p)) (hy : ρ "weight" = some (.int y)) :
    ∃ ρ', wTurn lo ρ [wl W] = some (.next, ρ', [wl W]) ∧ ρ' "weights" = some (.lst 0) ∧ ρ' "weight" = some (.int (y + partOf W d * (W 2 ((3 - p) % 2) * W 3 ((3 - p) / 2)))) := by
  have h1 : sSet "figure" (mOf (dFlat (dApp (f2 gIndex) [(dStr "ABCDEFGHIJKLMNOP"), (dName "letter")]))) lo ρ [wl W] = some (.next, upd ρ "figure" (.int d), [wl W]) :=
    set_next (app2_eq (x := .str (Str.ofString "ABCDEFGHIJKLMNOP")) (σ1 := [wl W]) rfl (dName_eq hl) (f2_eq (idx16 hd)) rfl)
  have h2 : sSet "part" (mOf (dInt 0)) lo (upd ρ "figure" (.int d)) [wl W] = some (.next, upd (upd ρ "figure" (.int d)) "part" (.int 0), [wl W]) := rfl
  have L0 : WL (upd (upd ρ "figure" (.int d)) "part" (.int 0)) d p y 0 := ⟨by simp [upd, hw], by simp [upd], by simp [upd], by simp [upd, hy], by simp [upd, hpl]⟩
  obtain ⟨ρ1, e1, L1⟩ := wIn_eq (k := 0) (lo := max lo 0) hW (by decide) L0
  obtain ⟨ρ2, e2, L2⟩ := wIn_eq (k := 1) (lo := max lo 0) hW (by decide) L1
  obtain ⟨ρ3, e3, L3⟩ := wIn_eq (k := 2) (lo := max lo 0) hW (by decide) L2
  obtain ⟨ρ4, e4, L4⟩ := wIn_eq (k := 3) (lo := max lo 0) hW (by decide) L3
  have h3 : sFor (dRange (dInt 4)) (tName "k") wIn lo (upd (upd ρ "figure" (.int d)) "part" (.int 0)) [wl W] = some (.next, ρ4, [wl W]) := by
    have hr : dRange (dInt 4) (upd (upd ρ "figure" (.int d)) "part" (.int 0)) [wl W] = some ([.int (0 : Nat), .int (1 : Nat), .int (2 : Nat), .int (3 : Nat)], [wl W], 0) := rfl
    rw [for_eq hr, forGo_cons rfl e1, forGo_cons rfl e2, forGo_cons rfl e3, forGo_cons rfl e4]; rfl
  have hs : d2 (f2 (int2 gSub)) (dInt 3) (dName "place") ρ4 [wl W] = some (.int ((3 - p : Nat) : Int), [wl W]) := by
    rw [d2_eq (x := .int 3) (σ1 := [wl W]) rfl (dName_eq L4.place)]
    match p, hp with
    | 0, _ => rfl
    | 1, _ => rfl
    | 2, _ => rfl
    | 3, _ => rfl
  have w2 : dFlat (d2 fItem (dFlat (d2 fItem (dName "weights") (dInt 2))) (d2 (f2 (int2 gMod)) (d2 (f2 (int2 gSub)) (dInt 3) (dName "place")) (dInt 2))) ρ4 [wl W] = some (.int (W 2 ((3 - p) % 2)), [wl W]) :=
    wItem (i := 2) L4.weights rfl (by decide) (Nat.mod_lt _ (by decide)) rfl (mod_eq hs (m := 2) (by decide))
  have w3 : dFlat (d2 fItem (dFlat (d2 fItem (dName "weights") (dInt 3))) (d2 (f2 (int2 gDiv)) (d2 (f2 (int2 gSub)) (dInt 3) (dName "place")) (dInt 2))) ρ4 [wl W] = some (.int (W 3 ((3 - p) / 2)), [wl W]) :=
    wItem (i := 3) L4.weights rfl (by decide) (by omega) rfl (div_eq hs (m := 2) (by decide) (by decide))
  have hsmall : (W 2 ((3 - p) % 2) * W 3 ((3 - p) / 2)).natAbs < 2 ^ 62 := by
    have a := hW 2 ((3 - p) % 2)
    have b := hW 3 ((3 - p) / 2)
    rw [Int.natAbs_mul]
    have : (W 2 ((3 - p) % 2)).natAbs * (W 3 ((3 - p) / 2)).natAbs ≤ 1000 * 1000 := Nat.mul_le_mul (by omega) (by omega)
    have e : (2 : Nat) ^ 62 = 4611686018427387904 := rfl
    omega
  have h4 : wEnd lo ρ4 [wl W] = some (.next, upd ρ4 "weight" (.int (y + partOf W d * (W 2 ((3 - p) % 2) * W 3 ((3 - p) / 2)))), [wl W]) :=
    set_next (add_call (dName_eq L4.weight) (mul_call (dName_eq L4.part) (mul_call w2 w3 (small_w hW _ _)) hsmall))
  refine ⟨upd ρ4 "weight" (.int (y + partOf W d * (W 2 ((3 - p) % 2) * W 3 ((3 - p) / 2)))), ?_, by simp [upd, L4.weights], by simp [upd]⟩
  unfold wTurn
  rw [seq_next h1, seq_next h2, seq_next h3, seq_next h4]; rfl
noncomputable def weighP (W : Nat → Nat → Int) (d0 d1 d2 d3 : Nat) : Int :=
  0 + partOf W d0 * (W 2 1 * W 3 1) + partOf W d1 * (W 2 0 * W 3 1) + partOf W d2 * (W 2 1 * W 3 0) + partOf W d3 * (W 2 0 * W 3 0)
theorem weighed_raw {W : Nat → Nat → Int} (hW : WOk W) {d0 d1 d2 d3 : Nat} (h0 : d0 < 16) (h1 : d1 < 16) (h2 : d2 < 16) (h3 : d3 < 16) :
    (R_weighed [.str (S [65 + d0, 65 + d1, 65 + d2, 65 + d3]), .lst 0] [wl W]).map (·.1) = some (.int (weighP W d0 d1 d2 d3)) := by
  refine fCall_fst rfl ?_
  show ans (D_weighed 1 (locOf ["letters", "weights"] [.str (S [65 + d0, 65 + d1, 65 + d2, 65 + d3]), .lst 0]) [wl W]) = _
  generalize hρ : locOf ["letters", "weights"] [V.str (S [65 + d0, 65 + d1, 65 + d2, 65 + d3]), .lst 0] = ρ
  have hl : ρ "letters" = some (.str (S [65 + d0, 65 + d1, 65 + d2, 65 + d3])) := by subst hρ; rfl
  have hw : ρ "weights" = some (.lst 0) := by subst hρ; rfl
  have a0 : D_weighed0 1 ρ [wl W] = some (.next, upd ρ "weight" (.int 0), [wl W]) := rfl
  have hr : dEnum (dName "letters") (upd ρ "weight" (.int 0)) [wl W] = some ([.tup [.int (0 : Nat), .str (S [65 + d0])], .tup [.int (1 : Nat), .str (S [65 + d1])], .tup [.int (2 : Nat), .str (S [65 + d2])], .tup [.int (3 : Nat), .str (S [65 + d3])]], [wl W], 0) := by
    unfold dEnum dArgs
    rw [dName_eq (v := .str (S [65 + d0, 65 + d1, 65 + d2, 65 + d3])) (by simp [upd, hl])]
    rfl
  have nx : ∀ (ρ : Loc) (p d : Nat) (y : Int), d < 16 → p < 4 → ρ "weights" = some (.lst 0) → ρ "weight" = some (.int y) → ∃ ρ1 ρ', tTup [(tName "place"), (tName "letter")] (.tup [.int p, .str (S [65 + d])]) ρ = some ρ1 ∧ wTurn (max 1 0) ρ1 [wl W] = some (.next, ρ', [wl W]) ∧ ρ' "weights" = some (.lst 0) ∧ ρ' "weight" = some (.int (y + partOf W d * (W 2 ((3 - p) % 2) * W 3 ((3 - p) / 2)))) := by
    intro ρ p d y hd hp hw hy
    obtain ⟨ρ', e, a, b⟩ := wTurn_eq (lo := max 1 0) (y := y) (ρ := upd (upd ρ "place" (.int p)) "letter" (.str (S [65 + d]))) hW hd hp (by simp [upd, hw]) (by simp [upd]) (by simp [upd]) (by simp [upd, hy])
    exact ⟨_, ρ', rfl, e, a, b⟩
  obtain ⟨p1, q1, t1, e1, x1, y1⟩ := nx (upd ρ "weight" (.int 0)) 0 d0 0 h0 (by decide) (by simp [upd, hw]) (by simp [upd])
  obtain ⟨p2, q2, t2, e2, x2, y2⟩ := nx q1 1 d1 _ h1 (by decide) x1 y1
  obtain ⟨p3, q3, t3, e3, x3, y3⟩ := nx q2 2 d2 _ h2 (by decide) x2 y2
  obtain ⟨p4, q4, t4, e4, x4, y4⟩ := nx q3 3 d3 _ h3 (by decide) x3 y3
  have a1 : D_weighed1 1 (upd ρ "weight" (.int 0)) [wl W] = some (.next, q4, [wl W]) := by
    rw [weighed1_is, for_eq hr, forGo_cons t1 e1, forGo_cons t2 e2, forGo_cons t3 e3, forGo_cons t4 e4]; rfl
  have a2 : D_weighed2 1 q4 [wl W] = some (.ret _, q4, [wl W]) := ret_eq (dName_eq y4)
  unfold D_weighed
  rw [seq_next a0, seq_next a1, seq_ret a2]
  rfl
end Mine
end

section
set_option Elab.async false
set_option autoImplicit false
namespace Mine
theorem algId (a b F0 F1 G0 G1 H0 H1 Z : Int) : (a * H0 + b * H1) * (a * Z + b * Z) - (a * F0 + b * F1) * (a * G0 + b * G1) =
    (a * a + a * b) * (H0 * Z - F0 * G0) + (b * b + a * b) * (H1 * Z - F1 * G1) + a * b * ((F1 - F0) * (G1 - G0)) := by grind
theorem alg {a b F0 F1 G0 G1 H0 H1 Z : Int} (ha : 0 < a) (hb : 0 < b) (hF : F0 ≤ F1) (hG : G0 ≤ G1) (h0 : F0 * G0 ≤ H0 * Z) (h1 : F1 * G1 ≤ H1 * Z) : (a * F0 + b * F1) * (a * G0 + b * G1) ≤ (a * H0 + b * H1) * (a * Z + b * Z) := by
  have e := algId a b F0 F1 G0 G1 H0 H1 Z
  have aa := Int.mul_pos ha ha
  have ab := Int.mul_pos ha hb
  have bb := Int.mul_pos hb hb
  have x1 : 0 ≤ (a * a + a * b) * (H0 * Z - F0 * G0) := Int.mul_nonneg (by omega) (by omega)
  have x2 : 0 ≤ (b * b + a * b) * (H1 * Z - F1 * G1) := Int.mul_nonneg (by omega) (by omega)
  have x3 : 0 ≤ a * b * ((F1 - F0) * (G1 - G0)) := Int.mul_nonneg (by omega) (Int.mul_nonneg (by omega) (by omega))
  omega
theorem algS {a b F0 F1 G0 G1 H0 H1 Z : Int} (ha : 0 < a) (hb : 0 < b) (hF : F0 ≤ F1) (hG : G0 ≤ G1) (h0 : F0 * G0 ≤ H0 * Z) (h1 : F1 * G1 ≤ H1 * Z) (hs : F0 * G0 < H0 * Z ∨ F1 * G1 < H1 * Z ∨ (F0 < F1 ∧ G0 < G1)) :
    (a * F0 + b * F1) * (a * G0 + b * G1) < (a * H0 + b * H1) * (a * Z + b * Z) := by
  have e := algId a b F0 F1 G0 G1 H0 H1 Z
  have aa := Int.mul_pos ha ha
  have ab := Int.mul_pos ha hb
  have bb := Int.mul_pos hb hb
  have x1 : 0 ≤ (a * a + a * b) * (H0 * Z - F0 * G0) := Int.mul_nonneg (by omega) (by omega)
  have x2 : 0 ≤ (b * b + a * b) * (H1 * Z - F1 * G1) := Int.mul_nonneg (by omega) (by omega)
  have x3 : 0 ≤ a * b * ((F1 - F0) * (G1 - G0)) := Int.mul_nonneg (by omega) (Int.mul_nonneg (by omega) (by omega))
  rcases hs with h | h | ⟨h, h'⟩
  · have : 0 < (a * a + a * b) * (H0 * Z - F0 * G0) := Int.mul_pos (by omega) (by omega)
    omega
  · have : 0 < (b * b + a * b) * (H1 * Z - F1 * G1) := Int.mul_pos (by omega) (by omega)
    omega
  · have : 0 < a * b * ((F1 - F0) * (G1 - G0)) := Int.mul_pos (by omega) (Int.mul_pos (by omega) (by omega))
    omega

/-- sums over the points, weighed coordinate by coordinate -/
noncomputable def Ex : List (Int × Int) → (List Bool → Int) → Int
  | [], f => f []
  | (a, b) :: ws, f => a * Ex ws (fun x => f (false :: x)) + b * Ex ws (fun x => f (true :: x))
noncomputable def Pos (ws : List (Int × Int)) : Prop := ∀ p ∈ ws, 0 < p.1 ∧ 0 < p.2
noncomputable def Mon : Nat → (List Bool → Int) → Prop
  | 0, _ => True
  | n + 1, f => Mon n (fun x => f (false :: x)) ∧ Mon n (fun x => f (true :: x)) ∧ ∀ x, x.length = n → f (false :: x) ≤ f (true :: x)
noncomputable def Dep : Nat → Nat → (List Bool → Int) → Prop
  | 0, _, _ => False
  | n + 1, 0, f => ∃ x, x.length = n ∧ f (false :: x) ≠ f (true :: x)
  | n + 1, k + 1, f => Dep n k (fun x => f (false :: x)) ∨ Dep n k (fun x => f (true :: x))
theorem Pos.tail {p : Int × Int} {ws : List (Int × Int)} (h : Pos (p :: ws)) : Pos ws := fun q hq => h q (List.mem_cons_of_mem _ hq)
theorem Ex_le : ∀ {ws : List (Int × Int)} {f g : List Bool → Int}, Pos ws → (∀ x, x.length = ws.length → f x ≤ g x) → Ex ws f ≤ Ex ws g
  | [], f, g, _, h => h [] rfl
  | (a, b) :: ws, f, g, hp, h => by
    have h0 := Ex_le (f := fun x => f (false :: x)) (g := fun x => g (false :: x)) hp.tail fun x hx => h _ (by simp [hx])
    have h1 := Ex_le (f := fun x => f (true :: x)) (g := fun x => g (true :: x)) hp.tail fun x hx => h _ (by simp [hx])
    obtain ⟨ha, hb⟩ := hp (a, b) List.mem_cons_self
    have := Int.mul_le_mul_of_nonneg_left h0 (Int.le_of_lt ha)
    have := Int.mul_le_mul_of_nonneg_left h1 (Int.le_of_lt hb)
    unfold Ex
    dsimp only at *
    omega
theorem Ex_lt : ∀ {ws : List (Int × Int)} {f g : List Bool → Int}, Pos ws → (∀ x, x.length = ws.length → f x ≤ g x) → (∃ x, x.length = ws.length ∧ f x < g x) → Ex ws f < Ex ws g
  | [], f, g, _, h, ⟨x, hx, hl⟩ => by
    have : x = [] := List.length_eq_zero_iff.mp hx
    subst this; exact hl
  | (a, b) :: ws, f, g, hp, h, ⟨x, hx, hl⟩ => by
    have le0 : ∀ x, x.length = ws.length → f (false :: x) ≤ g (false :: x) := fun x hx => h _ (by simp [hx])
    have le1 : ∀ x, x.length = ws.length → f (true :: x) ≤ g (true :: x) := fun x hx => h _ (by simp [hx])
    have h0 := Ex_le (f := fun x => f (false :: x)) (g := fun x => g (false :: x)) hp.tail le0
    have h1 := Ex_le (f := fun x => f (true :: x)) (g := fun x => g (true :: x)) hp.tail le1
    obtain ⟨ha, hb⟩ := hp (a, b) List.mem_cons_self
    have m0 := Int.mul_le_mul_of_nonneg_left h0 (Int.le_of_lt ha)
    have m1 := Int.mul_le_mul_of_nonneg_left h1 (Int.le_of_lt hb)
    cases x with
    | nil => cases hx
    | cons c x =>
      have hx' : x.length = ws.length := by simpa using hx
      unfold Ex
      dsimp only at *
      cases c with
      | false =>
        have := Int.mul_lt_mul_of_pos_left (Ex_lt (f := fun x => f (false :: x)) (g := fun x => g (false :: x)) hp.tail le0 ⟨x, hx', hl⟩) ha
        omega
      | true =>
        have := Int.mul_lt_mul_of_pos_left (Ex_lt (f := fun x => f (true :: x)) (g := fun x => g (true :: x)) hp.tail le1 ⟨x, hx', hl⟩) hb
        omega
theorem Ex_congr : ∀ {ws : List (Int × Int)} {f g : List Bool → Int}, (∀ x, x.length = ws.length → f x = g x) → Ex ws f = Ex ws g
  | [], f, g, h => h [] rfl
  | (a, b) :: ws, f, g, h => by
    unfold Ex
    rw [Ex_congr (f := fun x => f (false :: x)) (g := fun x => g (false :: x)) fun x hx => h _ (by simp [hx]),
      Ex_congr (f := fun x => f (true :: x)) (g := fun x => g (true :: x)) fun x hx => h _ (by simp [hx])]
theorem Dep_congr : ∀ {n k : Nat} {f g : List Bool → Int}, (∀ x, x.length = n → f x = g x) → Dep n k f → Dep n k g
  | 0, _, _, _, _, d => d.elim
  | n + 1, 0, f, g, h, ⟨x, hx, ne⟩ => ⟨x, hx, by rw [← h _ (by simp [hx]), ← h _ (by simp [hx])]; exact ne⟩
  | n + 1, k + 1, f, g, h, d => d.elim (fun d => .inl (Dep_congr (fun x hx => h _ (by simp [hx])) d)) (fun d => .inr (Dep_congr (fun x hx => h _ (by simp [hx])) d))
theorem harris : ∀ {ws : List (Int × Int)} {f g : List Bool → Int}, Pos ws → Mon ws.length f → Mon ws.length g → Ex ws f * Ex ws g ≤ Ex ws (fun x => f x * g x) * Ex ws (fun _ => 1)
  | [], f, g, _, _, _ => by show f [] * g [] ≤ f [] * g [] * 1; omega
  | (a, b) :: ws, f, g, hp, hf, hg => by
    obtain ⟨f0, f1, fm⟩ := hf
    obtain ⟨g0, g1, gm⟩ := hg
    obtain ⟨ha, hb⟩ := hp (a, b) List.mem_cons_self
    exact alg ha hb (Ex_le hp.tail fm) (Ex_le hp.tail gm) (harris hp.tail f0 g0) (harris hp.tail f1 g1)
theorem harrisS : ∀ {ws : List (Int × Int)} {f g : List Bool → Int} (k : Nat), Pos ws → Mon ws.length f → Mon ws.length g → Dep ws.length k f → Dep ws.length k g → Ex ws f * Ex ws g < Ex ws (fun x => f x * g x) * Ex ws (fun _ => 1)
  | [], f, g, _, _, _, _, d, _ => d.elim
  | (a, b) :: ws, f, g, 0, hp, hf, hg, df, dg => by
    obtain ⟨f0, f1, fm⟩ := hf
    obtain ⟨g0, g1, gm⟩ := hg
    obtain ⟨ha, hb⟩ := hp (a, b) List.mem_cons_self
    obtain ⟨x, hx, nx⟩ := df
    obtain ⟨y, hy, ny⟩ := dg
    have lx := fm x hx
    have ly := gm y hy
    exact algS ha hb (Ex_le hp.tail fm) (Ex_le hp.tail gm) (harris hp.tail f0 g0) (harris hp.tail f1 g1)
      (.inr (.inr ⟨Ex_lt hp.tail fm ⟨x, hx, by omega⟩, Ex_lt hp.tail gm ⟨y, hy, by omega⟩⟩))
  | (a, b) :: ws, f, g, k + 1, hp, hf, hg, df, dg => by
    obtain ⟨f0, f1, fm⟩ := hf
    obtain ⟨g0, g1, gm⟩ := hg
    obtain ⟨ha, hb⟩ := hp (a, b) List.mem_cons_self
    have ne : ∀ {f0 f1 : List Bool → Int}, Dep ws.length k f0 → ¬ Dep ws.length k f1 → ∃ x, x.length = ws.length ∧ f0 x ≠ f1 x := by
      intro f0 f1 h0 h1
      apply Classical.byContradiction
      intro hn
      have hall : ∀ x, x.length = ws.length → f0 x = f1 x := fun x hx => Classical.byContradiction fun q => hn ⟨x, hx, q⟩
      exact h1 (Dep_congr hall h0)
    by_cases A : Dep ws.length k (fun x => f (false :: x)) ∧ Dep ws.length k (fun x => g (false :: x))
    · exact algS ha hb (Ex_le hp.tail fm) (Ex_le hp.tail gm) (harris hp.tail f0 g0) (harris hp.tail f1 g1) (.inl (harrisS k hp.tail f0 g0 A.1 A.2))
    · by_cases B : Dep ws.length k (fun x => f (true :: x)) ∧ Dep ws.length k (fun x => g (true :: x))
      · exact algS ha hb (Ex_le hp.tail fm) (Ex_le hp.tail gm) (harris hp.tail f0 g0) (harris hp.tail f1 g1) (.inr (.inl (harrisS k hp.tail f1 g1 B.1 B.2)))
      · have strict : ∀ {h : List Bool → Int}, (∀ x, x.length = ws.length → h (false :: x) ≤ h (true :: x)) → (Dep ws.length k (fun x => h (false :: x)) ∧ ¬ Dep ws.length k (fun x => h (true :: x)) ∨ ¬ Dep ws.length k (fun x => h (false :: x)) ∧ Dep ws.length k (fun x => h (true :: x))) → Ex ws (fun x => h (false :: x)) < Ex ws (fun x => h (true :: x)) := by
          intro h hm hd
          rcases hd with ⟨p, q⟩ | ⟨p, q⟩
          · obtain ⟨x, hx, nx⟩ := ne p q
            have := hm x hx
            exact Ex_lt hp.tail hm ⟨x, hx, by omega⟩
          · obtain ⟨x, hx, nx⟩ := ne q p
            have := hm x hx
            exact Ex_lt hp.tail hm ⟨x, hx, by omega⟩
        have df' : (Dep ws.length k (fun x => f (false :: x)) ∧ ¬ Dep ws.length k (fun x => f (true :: x)) ∨ ¬ Dep ws.length k (fun x => f (false :: x)) ∧ Dep ws.length k (fun x => f (true :: x))) ∧ (Dep ws.length k (fun x => g (false :: x)) ∧ ¬ Dep ws.length k (fun x => g (true :: x)) ∨ ¬ Dep ws.length k (fun x => g (false :: x)) ∧ Dep ws.length k (fun x => g (true :: x))) := by
          have d1 : Dep ws.length k (fun x => f (false :: x)) ∨ Dep ws.length k (fun x => f (true :: x)) := df
          have d2 : Dep ws.length k (fun x => g (false :: x)) ∨ Dep ws.length k (fun x => g (true :: x)) := dg
          by_cases a1 : Dep ws.length k (fun x => f (false :: x)) <;> by_cases a2 : Dep ws.length k (fun x => f (true :: x)) <;> by_cases a3 : Dep ws.length k (fun x => g (false :: x)) <;> by_cases a4 : Dep ws.length k (fun x => g (true :: x)) <;> simp_all
        exact algS ha hb (Ex_le hp.tail fm) (Ex_le hp.tail gm) (harris hp.tail f0 g0) (harris hp.tail f1 g1) (.inr (.inr ⟨strict fm df'.1, strict gm df'.2⟩))
theorem harrisE : ∀ {ws : List (Int × Int)} {f g : List Bool → Int}, (∀ k, k < ws.length → ¬ (Dep ws.length k f ∧ Dep ws.length k g)) → Ex ws f * Ex ws g = Ex ws (fun x => f x * g x) * Ex ws (fun _ => 1)
  | [], f, g, _ => by show f [] * g [] = f [] * g [] * 1; omega
  | (a, b) :: ws, f, g, h => by
    have i0 := harrisE (ws := ws) (f := fun x => f (false :: x)) (g := fun x => g (false :: x)) fun k hk d => h (k + 1) (by simp only [List.length_cons]; omega) ⟨.inl d.1, .inl d.2⟩
    have i1 := harrisE (ws := ws) (f := fun x => f (true :: x)) (g := fun x => g (true :: x)) fun k hk d => h (k + 1) (by simp only [List.length_cons]; omega) ⟨.inr d.1, .inr d.2⟩
    have e := algId a b (Ex ws fun x => f (false :: x)) (Ex ws fun x => f (true :: x)) (Ex ws fun x => g (false :: x)) (Ex ws fun x => g (true :: x)) (Ex ws fun x => f (false :: x) * g (false :: x)) (Ex ws fun x => f (true :: x) * g (true :: x)) (Ex ws fun _ => 1)
    have z : ((Ex ws fun x => f (true :: x)) - Ex ws fun x => f (false :: x)) * ((Ex ws fun x => g (true :: x)) - Ex ws fun x => g (false :: x)) = 0 := by
      have key : ∀ u : List Bool → Int, ¬ Dep (ws.length + 1) 0 u → (Ex ws fun x => u (true :: x)) - (Ex ws fun x => u (false :: x)) = 0 := by
        intro u hu
        rw [Ex_congr (f := fun x => u (true :: x)) (g := fun x => u (false :: x)) fun x hx => Classical.byContradiction fun q => hu ⟨x, hx, fun q' => q q'.symm⟩]
        omega
      by_cases hf : Dep (ws.length + 1) 0 f
      · rw [key g fun hg => h 0 (by simp) ⟨hf, hg⟩, Int.mul_zero]
      · rw [key f hf, Int.zero_mul]
    rw [z, i0, i1, Int.sub_self, Int.sub_self, Int.mul_zero, Int.mul_zero, Int.mul_zero] at e
    exact (Int.sub_eq_zero.mp (e.trans rfl)).symm
end Mine
end

section
open PySem PySem.W PyProof.Rows PySem.Calls
set_option Elab.async false
set_option autoImplicit false
set_option maxRecDepth 100000
set_option maxHeartbeats 1000000
namespace Mine
noncomputable def heavyAt (W : Nat → Nat → Int) (q : Nat → Bool) (c : Nat) : Int := b2i (q c) * W 0 (c % 2) * W 1 (c / 2 % 2) * W 2 (c / 4 % 2) * W 3 (c / 8)
noncomputable def mu (W : Nat → Nat → Int) (q : Nat → Bool) : Int := ((List.range 16).map (heavyAt W q)).sum
theorem mu_is (W : Nat → Nat → Int) (q : Nat → Bool) : mu W q =
    b2i (q 0) * W 0 0 * W 1 0 * W 2 0 * W 3 0 + (b2i (q 1) * W 0 1 * W 1 0 * W 2 0 * W 3 0 + (b2i (q 2) * W 0 0 * W 1 1 * W 2 0 * W 3 0 + (b2i (q 3) * W 0 1 * W 1 1 * W 2 0 * W 3 0
    + (b2i (q 4) * W 0 0 * W 1 0 * W 2 1 * W 3 0 + (b2i (q 5) * W 0 1 * W 1 0 * W 2 1 * W 3 0 + (b2i (q 6) * W 0 0 * W 1 1 * W 2 1 * W 3 0 + (b2i (q 7) * W 0 1 * W 1 1 * W 2 1 * W 3 0
    + (b2i (q 8) * W 0 0 * W 1 0 * W 2 0 * W 3 1 + (b2i (q 9) * W 0 1 * W 1 0 * W 2 0 * W 3 1 + (b2i (q 10) * W 0 0 * W 1 1 * W 2 0 * W 3 1 + (b2i (q 11) * W 0 1 * W 1 1 * W 2 0 * W 3 1
    + (b2i (q 12) * W 0 0 * W 1 0 * W 2 1 * W 3 1 + (b2i (q 13) * W 0 1 * W 1 0 * W 2 1 * W 3 1 + (b2i (q 14) * W 0 0 * W 1 1 * W 2 1 * W 3 1 + (b2i (q 15) * W 0 1 * W 1 1 * W 2 1 * W 3 1 + 0))))))))))))))) := rfl
theorem part_is (W : Nat → Nat → Int) (d : Nat) : partOf W d = b2i (d.testBit 0) * (W 0 0 * W 1 0) + b2i (d.testBit 1) * (W 0 1 * W 1 0) + b2i (d.testBit 2) * (W 0 0 * W 1 1) + b2i (d.testBit 3) * (W 0 1 * W 1 1) := by
  show (if d.testBit 3 then (if d.testBit 2 then (if d.testBit 1 then (if d.testBit 0 then 0 + W 0 0 * W 1 0 else 0) + W 0 1 * W 1 0 else (if d.testBit 0 then 0 + W 0 0 * W 1 0 else 0)) + W 0 0 * W 1 1 else (if d.testBit 1 then (if d.testBit 0 then 0 + W 0 0 * W 1 0 else 0) + W 0 1 * W 1 0 else (if d.testBit 0 then 0 + W 0 0 * W 1 0 else 0))) + W 0 1 * W 1 1 else (if d.testBit 2 then (if d.testBit 1 then (if d.testBit 0 then 0 + W 0 0 * W 1 0 else 0) + W 0 1 * W 1 0 else (if d.testBit 0 then 0 + W 0 0 * W 1 0 else 0)) + W 0 0 * W 1 1 else (if d.testBit 1 then (if d.testBit 0 then 0 + W 0 0 * W 1 0 else 0) + W 0 1 * W 1 0 else (if d.testBit 0 then 0 + W 0 0 * W 1 0 else 0)))) = _
  generalize W 0 0 * W 1 0 = a
  generalize W 0 1 * W 1 0 = b
  generalize W 0 0 * W 1 1 = c
  generalize W 0 1 * W 1 1 = e
  cases d.testBit 0 <;> cases d.testBit 1 <;> cases d.testBit 2 <;> cases d.testBit 3 <;> simp [b2i] <;> omega
theorem bit_at {q : Nat → Bool} {j k : Nat} (hj : j < 4) (hk : k < 4) : (mkN 16 q / 2 ^ (4 * j) % 16).testBit k = q (4 * j + k) := by
  rw [show 16 = 2 ^ 4 from rfl, Nat.testBit_mod_two_pow, Nat.testBit_div_two_pow, mkN_bit, decide_eq_true (show k < 4 from hk), decide_eq_true (show k + 4 * j < 2 ^ 4 by omega), Bool.true_and, Bool.true_and, Nat.add_comm]
theorem weigh_is (W : Nat → Nat → Int) (q : Nat → Bool) : weighP W (mkN 16 q / 4096 % 16) (mkN 16 q / 256 % 16) (mkN 16 q / 16 % 16) (mkN 16 q % 16) = mu W q := by
  have b3 : ∀ k, k < 4 → (mkN 16 q / 4096 % 16).testBit k = q (12 + k) := fun k hk => bit_at (j := 3) (by decide) hk
  have b2 : ∀ k, k < 4 → (mkN 16 q / 256 % 16).testBit k = q (8 + k) := fun k hk => bit_at (j := 2) (by decide) hk
  have b1 : ∀ k, k < 4 → (mkN 16 q / 16 % 16).testBit k = q (4 + k) := fun k hk => bit_at (j := 1) (by decide) hk
  have b0 : ∀ k, k < 4 → (mkN 16 q % 16).testBit k = q k := fun k hk => by
    have := bit_at (q := q) (j := 0) (by decide) hk
    simpa using this
  unfold weighP
  rw [part_is, part_is, part_is, part_is, mu_is]
  rw [b3 0 (by decide), b3 1 (by decide), b3 2 (by decide), b3 3 (by decide), b2 0 (by decide), b2 1 (by decide), b2 2 (by decide), b2 3 (by decide), b1 0 (by decide), b1 1 (by decide), b1 2 (by decide), b1 3 (by decide), b0 0 (by decide), b0 1 (by decide), b0 2 (by decide), b0 3 (by decide)]
  generalize b2i (q 0) = x0
  generalize b2i (q 1) = x1
  generalize b2i (q 2) = x2
  generalize b2i (q 3) = x3
  simp only [Nat.reduceAdd]
  generalize b2i (q 4) = x4
  generalize b2i (q 5) = x5
  generalize b2i (q 6) = x6
  generalize b2i (q 7) = x7
  generalize b2i (q 8) = x8
  generalize b2i (q 9) = x9
  generalize b2i (q 10) = x10
  generalize b2i (q 11) = x11
  generalize b2i (q 12) = x12
  generalize b2i (q 13) = x13
  generalize b2i (q 14) = x14
  generalize b2i (q 15) = x15
  generalize W 0 0 = a0
  generalize W 0 1 = a1
  generalize W 1 0 = c0
  generalize W 1 1 = c1
  generalize W 2 0 = e0
  generalize W 2 1 = e1
  generalize W 3 0 = g0
  generalize W 3 1 = g1
  grind
noncomputable def bitN (b : Bool) : Nat := if b then 1 else 0
noncomputable def codeOf : List Bool → Nat
  | [a, b, c, d] => bitN a + 2 * bitN b + 4 * bitN c + 8 * bitN d
  | _ => 0
noncomputable def wsOf (W : Nat → Nat → Int) : List (Int × Int) := [(W 0 0, W 0 1), (W 1 0, W 1 1), (W 2 0, W 2 1), (W 3 0, W 3 1)]
theorem mu_ex (W : Nat → Nat → Int) (q : Nat → Bool) : mu W q = Ex (wsOf W) fun x => b2i (q (codeOf x)) := by
  rw [mu_is]
  show _ = W 0 0 * (W 1 0 * (W 2 0 * (W 3 0 * b2i (q 0) + W 3 1 * b2i (q 8)) + W 2 1 * (W 3 0 * b2i (q 4) + W 3 1 * b2i (q 12))) + W 1 1 * (W 2 0 * (W 3 0 * b2i (q 2) + W 3 1 * b2i (q 10)) + W 2 1 * (W 3 0 * b2i (q 6) + W 3 1 * b2i (q 14))))
    + W 0 1 * (W 1 0 * (W 2 0 * (W 3 0 * b2i (q 1) + W 3 1 * b2i (q 9)) + W 2 1 * (W 3 0 * b2i (q 5) + W 3 1 * b2i (q 13))) + W 1 1 * (W 2 0 * (W 3 0 * b2i (q 3) + W 3 1 * b2i (q 11)) + W 2 1 * (W 3 0 * b2i (q 7) + W 3 1 * b2i (q 15))))
  generalize b2i (q 0) = x0
  generalize b2i (q 1) = x1
  generalize b2i (q 2) = x2
  generalize b2i (q 3) = x3
  generalize b2i (q 4) = x4
  generalize b2i (q 5) = x5
  generalize b2i (q 6) = x6
  generalize b2i (q 7) = x7
  generalize b2i (q 8) = x8
  generalize b2i (q 9) = x9
  generalize b2i (q 10) = x10
  generalize b2i (q 11) = x11
  generalize b2i (q 12) = x12
  generalize b2i (q 13) = x13
  generalize b2i (q 14) = x14
  generalize b2i (q 15) = x15
  generalize W 0 0 = a0
  generalize W 0 1 = a1
  generalize W 1 0 = c0
  generalize W 1 1 = c1
  generalize W 2 0 = e0
  generalize W 2 1 = e1
  generalize W 3 0 = g0
  generalize W 3 1 = g1
  grind
end Mine
end

section
open PySem PySem.W PyProof.Rows PySem.Calls
set_option Elab.async false
set_option autoImplicit false
set_option maxRecDepth 100000
set_option maxHeartbeats 1000000
namespace Mine
inductive LeL : List Bool → List Bool → Prop
  | nil : LeL [] []
  | cons {a b : Bool} {x y : List Bool} : (a = true → b = true) → LeL x y → LeL (a :: x) (b :: y)
theorem flatGo_mono : ∀ {vs vs' : List Bool} {ss : List Bool} {acc acc' cur cur' : Bool}, LeL vs vs' → (acc = true → acc' = true) → (cur = true → cur' = true) → flatGoB acc cur vs ss = true → flatGoB acc' cur' vs' ss = true
  | _, _, ss, acc, acc', cur, cur', .nil, h1, h2, h => by
    have h' : (acc || cur) = true := by cases ss <;> exact h
    have g : (acc' || cur') = true := by
      rcases (Bool.or_eq_true _ _).mp h' with q | q
      · rw [h1 q]; rfl
      · rw [h2 q]; simp
    cases ss <;> exact g
  | _, _, [], acc, acc', cur, cur', .cons _ _, h1, h2, h => by
    have h' : (acc || cur) = true := h
    show (acc' || cur') = true
    rcases (Bool.or_eq_true _ _).mp h' with q | q
    · rw [h1 q]; rfl
    · rw [h2 q]; simp
  | _, _, false :: ss, acc, acc', cur, cur', .cons ha r, h1, h2, h => by
    refine flatGo_mono (ss := ss) r h1 (fun q => ?_) h
    rw [Bool.and_eq_true] at q ⊢
    exact ⟨h2 q.1, ha q.2⟩
  | _, _, true :: ss, acc, acc', cur, cur', .cons ha r, h1, h2, h => by
    refine flatGo_mono (ss := ss) r (fun q => ?_) ha h
    rcases (Bool.or_eq_true _ _).mp q with q | q
    · rw [h1 q]; rfl
    · rw [h2 q]; simp
theorem flat_mono {vs vs' ss : List Bool} (h : LeL vs vs') : flatB vs ss = true → flatB vs' ss = true := by
  cases h with
  | nil => exact fun h => h
  | cons ha r => exact flatGo_mono r (fun h => h) ha
theorem truth_mono {g : Nat} (hg : g < 6) {a b c d a' b' c' d' : Bool} (s0 s1 s2 : Bool) (ha : a = true → a' = true) (hb : b = true → b' = true) (hc : c = true → c' = true) (hd : d = true → d' = true) :
    truthB g [a, b, c, d] [s0, s1, s2] = true → truthB g [a', b', c', d'] [s0, s1, s2] = true := by
  match g, hg with
  | 0, _ => exact flat_mono (.cons ha (.cons hb (.cons hc (.cons hd .nil))))
  | 1, _ => exact flat_mono (ss := [s1, s2]) (.cons (flat_mono (ss := [s0]) (.cons ha (.cons hb .nil))) (.cons hc (.cons hd .nil)))
  | 2, _ => exact flat_mono (ss := [s0, s2]) (.cons ha (.cons (flat_mono (ss := [s1]) (.cons hb (.cons hc .nil))) (.cons hd .nil)))
  | 3, _ => exact flat_mono (ss := [s0, s1]) (.cons ha (.cons hb (.cons (flat_mono (ss := [s2]) (.cons hc (.cons hd .nil))) .nil)))
  | 4, _ => exact flat_mono (ss := [s2]) (.cons (flat_mono (ss := [s0, s1]) (.cons ha (.cons hb (.cons hc .nil)))) (.cons hd .nil))
  | 5, _ => exact flat_mono (ss := [s0]) (.cons ha (.cons (flat_mono (ss := [s1, s2]) (.cons hb (.cons hc (.cons hd .nil)))) .nil))
theorem mon_of : ∀ {n : Nat} {f : List Bool → Int}, (∀ x y, LeL x y → x.length = n → f x ≤ f y) → Mon n f
  | 0, _, _ => trivial
  | n + 1, f, h => by
    have refl : ∀ x : List Bool, LeL x x := fun x => by
      induction x with
      | nil => exact .nil
      | cons a x ih => exact .cons (fun h => h) ih
    exact ⟨mon_of fun x y l e => h _ _ (.cons (fun h => h) l) (by simp [e]), mon_of fun x y l e => h _ _ (.cons (fun h => h) l) (by simp [e]), fun x e => h _ _ (.cons (fun h => nomatch h) (refl x)) (by simp [e])⟩
theorem code_bit : ∀ (a b c d : Bool) (n : Fin 4), (codeOf [a, b, c, d]).testBit n.1 = [a, b, c, d].getD n.1 false := by decide
theorem LeL.get {x y : List Bool} (h : LeL x y) : ∀ n, x.getD n false = true → y.getD n false = true := by
  induction h with
  | nil => intro n h; simp at h
  | cons ha r ih =>
    intro n h
    cases n with
    | zero => exact ha h
    | succ n => exact ih n h
theorem LeL.len {x y : List Bool} (h : LeL x y) : x.length = y.length := by
  induction h with
  | nil => rfl
  | cons ha r ih => simp [ih]
theorem four {x : List Bool} (h : x.length = 4) : ∃ a b c d, x = [a, b, c, d] := by
  match x, h with
  | [a, b, c, d], _ => exact ⟨a, b, c, d, rfl⟩
theorem b2i_le {a b : Bool} (h : a = true → b = true) : b2i a ≤ b2i b := by
  cases a <;> cases b <;> first | decide | (exact absurd (h rfl) (by decide))
noncomputable def Fm.x (φ : Fm) : List Bool → Int := fun x => b2i (φ.f (codeOf x))
theorem Fm.mon (φ : Fm) : Mon 4 φ.x := by
  refine mon_of fun x y l e => b2i_le ?_
  obtain ⟨a, b, c, d, rfl⟩ := four e
  obtain ⟨a', b', c', d', rfl⟩ := four (l.len.symm.trans e)
  have g := l.get
  have bx : ∀ n, n < 4 → ((codeOf [a, b, c, d]).testBit n = true → (codeOf [a', b', c', d']).testBit n = true) := fun n hn h => by
    rw [code_bit _ _ _ _ ⟨n, hn⟩] at h ⊢
    exact g n h
  exact truth_mono φ.hg _ _ _ (bx _ φ.h0) (bx _ φ.h1) (bx _ φ.h2) (bx _ φ.h3)

/-- what the rows' comparison says -/
noncomputable def matP (q : Nat → Bool) (k : Nat) : Bool := (List.range 16).any fun c => b2i (q c) != b2i (q (c ^^^ 2 ^ k))
theorem three {P : List Bool → Prop} : (∃ x, x.length = 3 ∧ P x) ↔ (P [false, false, false] ∨ P [true, false, false] ∨ P [false, true, false] ∨ P [true, true, false] ∨ P [false, false, true] ∨ P [true, false, true] ∨ P [false, true, true] ∨ P [true, true, true]) := by
  constructor
  · rintro ⟨x, hx, h⟩
    match x, hx with
    | [a, b, c], _ => cases a <;> cases b <;> cases c <;> simp [h]
  · rintro (h | h | h | h | h | h | h | h) <;> exact ⟨_, rfl, h⟩
theorem two_ {P : List Bool → Prop} : (∃ x, x.length = 2 ∧ P x) ↔ (P [false, false] ∨ P [true, false] ∨ P [false, true] ∨ P [true, true]) := by
  constructor
  · rintro ⟨x, hx, h⟩
    match x, hx with
    | [a, b], _ => cases a <;> cases b <;> simp [h]
  · rintro (h | h | h | h) <;> exact ⟨_, rfl, h⟩
theorem one_ {P : List Bool → Prop} : (∃ x, x.length = 1 ∧ P x) ↔ (P [false] ∨ P [true]) := by
  constructor
  · rintro ⟨x, hx, h⟩
    match x, hx with
    | [a], _ => cases a <;> simp [h]
  · rintro (h | h) <;> exact ⟨_, rfl, h⟩
theorem zero_ {P : List Bool → Prop} : (∃ x, x.length = 0 ∧ P x) ↔ P [] := by
  constructor
  · rintro ⟨x, hx, h⟩
    have : x = [] := List.length_eq_zero_iff.mp hx
    subst this; exact h
  · exact fun h => ⟨[], rfl, h⟩
theorem mat0 (q : Nat → Bool) : matP q 0 = true ↔ Dep 4 0 (fun x => b2i (q (codeOf x))) := by
  have e : matP q 0 = (b2i (q 0) != b2i (q 1) || (b2i (q 1) != b2i (q 0) || (b2i (q 2) != b2i (q 3) || (b2i (q 3) != b2i (q 2) || (b2i (q 4) != b2i (q 5) || (b2i (q 5) != b2i (q 4) || (b2i (q 6) != b2i (q 7) || (b2i (q 7) != b2i (q 6) || (b2i (q 8) != b2i (q 9) || (b2i (q 9) != b2i (q 8) || (b2i (q 10) != b2i (q 11) || (b2i (q 11) != b2i (q 10) || (b2i (q 12) != b2i (q 13) || (b2i (q 13) != b2i (q 12) || (b2i (q 14) != b2i (q 15) || (b2i (q 15) != b2i (q 14) || false)))))))))))))))) := rfl
  have d : Dep 4 0 (fun x => b2i (q (codeOf x))) ↔ (b2i (q 0) ≠ b2i (q 1) ∨ b2i (q 2) ≠ b2i (q 3) ∨ b2i (q 4) ≠ b2i (q 5) ∨ b2i (q 6) ≠ b2i (q 7) ∨ b2i (q 8) ≠ b2i (q 9) ∨ b2i (q 10) ≠ b2i (q 11) ∨ b2i (q 12) ≠ b2i (q 13) ∨ b2i (q 14) ≠ b2i (q 15)) := three
  rw [e, d]
  simp only [Bool.or_eq_true, bne_iff_ne, ne_eq, Bool.false_eq_true, or_false]
  constructor
  · intro h
    rcases h with h | (h | (h | (h | (h | (h | (h | (h | (h | (h | (h | (h | (h | (h | (h | h))))))))))))))
    · exact .inl h
    · exact .inl (fun e => h e.symm)
    · exact .inr (.inl h)
    · exact .inr (.inl (fun e => h e.symm))
    · exact .inr (.inr (.inl h))
    · exact .inr (.inr (.inl (fun e => h e.symm)))
    · exact .inr (.inr (.inr (.inl h)))
    · exact .inr (.inr (.inr (.inl (fun e => h e.symm))))
    · exact .inr (.inr (.inr (.inr (.inl h))))
    · exact .inr (.inr (.inr (.inr (.inl (fun e => h e.symm)))))
    · exact .inr (.inr (.inr (.inr (.inr (.inl h)))))
    · exact .inr (.inr (.inr (.inr (.inr (.inl (fun e => h e.symm))))))
    · exact .inr (.inr (.inr (.inr (.inr (.inr (.inl h))))))
    · exact .inr (.inr (.inr (.inr (.inr (.inr (.inl (fun e => h e.symm)))))))
    · exact .inr (.inr (.inr (.inr (.inr (.inr (.inr h))))))
    · exact .inr (.inr (.inr (.inr (.inr (.inr (.inr (fun e => h e.symm)))))))
  · intro h
    rcases h with h | (h | (h | (h | (h | (h | (h | h))))))
    · exact .inl h
    · exact .inr (.inr (.inl h))
    · exact .inr (.inr (.inr (.inr (.inl h))))
    · exact .inr (.inr (.inr (.inr (.inr (.inr (.inl h))))))
    · exact .inr (.inr (.inr (.inr (.inr (.inr (.inr (.inr (.inl h))))))))
    · exact .inr (.inr (.inr (.inr (.inr (.inr (.inr (.inr (.inr (.inr (.inl h))))))))))
    · exact .inr (.inr (.inr (.inr (.inr (.inr (.inr (.inr (.inr (.inr (.inr (.inr (.inl h))))))))))))
    · exact .inr (.inr (.inr (.inr (.inr (.inr (.inr (.inr (.inr (.inr (.inr (.inr (.inr (.inr (.inl h))))))))))))))
theorem mat1 (q : Nat → Bool) : matP q 1 = true ↔ Dep 4 1 (fun x => b2i (q (codeOf x))) := by
  have e : matP q 1 = (b2i (q 0) != b2i (q 2) || (b2i (q 1) != b2i (q 3) || (b2i (q 2) != b2i (q 0) || (b2i (q 3) != b2i (q 1) || (b2i (q 4) != b2i (q 6) || (b2i (q 5) != b2i (q 7) || (b2i (q 6) != b2i (q 4) || (b2i (q 7) != b2i (q 5) || (b2i (q 8) != b2i (q 10) || (b2i (q 9) != b2i (q 11) || (b2i (q 10) != b2i (q 8) || (b2i (q 11) != b2i (q 9) || (b2i (q 12) != b2i (q 14) || (b2i (q 13) != b2i (q 15) || (b2i (q 14) != b2i (q 12) || (b2i (q 15) != b2i (q 13) || false)))))))))))))))) := rfl
  have d : Dep 4 1 (fun x => b2i (q (codeOf x))) ↔ ((b2i (q 0) ≠ b2i (q 2) ∨ b2i (q 4) ≠ b2i (q 6) ∨ b2i (q 8) ≠ b2i (q 10) ∨ b2i (q 12) ≠ b2i (q 14)) ∨ (b2i (q 1) ≠ b2i (q 3) ∨ b2i (q 5) ≠ b2i (q 7) ∨ b2i (q 9) ≠ b2i (q 11) ∨ b2i (q 13) ≠ b2i (q 15))) := or_congr two_ two_
  rw [e, d]
  simp only [Bool.or_eq_true, bne_iff_ne, ne_eq, Bool.false_eq_true, or_false]
  constructor
  · intro h
    rcases h with h | (h | (h | (h | (h | (h | (h | (h | (h | (h | (h | (h | (h | (h | (h | h))))))))))))))
    · exact .inl (.inl h)
    · exact .inr (.inl h)
    · exact .inl (.inl (fun e => h e.symm))
    · exact .inr (.inl (fun e => h e.symm))
    · exact .inl (.inr (.inl h))
    · exact .inr (.inr (.inl h))
    · exact .inl (.inr (.inl (fun e => h e.symm)))
    · exact .inr (.inr (.inl (fun e => h e.symm)))
    · exact .inl (.inr (.inr (.inl h)))
    · exact .inr (.inr (.inr (.inl h)))
    · exact .inl (.inr (.inr (.inl (fun e => h e.symm))))
    · exact .inr (.inr (.inr (.inl (fun e => h e.symm))))
    · exact .inl (.inr (.inr (.inr h)))
    · exact .inr (.inr (.inr (.inr h)))
    · exact .inl (.inr (.inr (.inr (fun e => h e.symm))))
    · exact .inr (.inr (.inr (.inr (fun e => h e.symm))))
  · intro h
    rcases h with (h | (h | (h | h))) | (h | (h | (h | h)))
    · exact .inl h
    · exact .inr (.inr (.inr (.inr (.inl h))))
    · exact .inr (.inr (.inr (.inr (.inr (.inr (.inr (.inr (.inl h))))))))
    · exact .inr (.inr (.inr (.inr (.inr (.inr (.inr (.inr (.inr (.inr (.inr (.inr (.inl h))))))))))))
    · exact .inr (.inl h)
    · exact .inr (.inr (.inr (.inr (.inr (.inl h)))))
    · exact .inr (.inr (.inr (.inr (.inr (.inr (.inr (.inr (.inr (.inl h)))))))))
    · exact .inr (.inr (.inr (.inr (.inr (.inr (.inr (.inr (.inr (.inr (.inr (.inr (.inr (.inl h)))))))))))))
theorem mat2 (q : Nat → Bool) : matP q 2 = true ↔ Dep 4 2 (fun x => b2i (q (codeOf x))) := by
  have e : matP q 2 = (b2i (q 0) != b2i (q 4) || (b2i (q 1) != b2i (q 5) || (b2i (q 2) != b2i (q 6) || (b2i (q 3) != b2i (q 7) || (b2i (q 4) != b2i (q 0) || (b2i (q 5) != b2i (q 1) || (b2i (q 6) != b2i (q 2) || (b2i (q 7) != b2i (q 3) || (b2i (q 8) != b2i (q 12) || (b2i (q 9) != b2i (q 13) || (b2i (q 10) != b2i (q 14) || (b2i (q 11) != b2i (q 15) || (b2i (q 12) != b2i (q 8) || (b2i (q 13) != b2i (q 9) || (b2i (q 14) != b2i (q 10) || (b2i (q 15) != b2i (q 11) || false)))))))))))))))) := rfl
  have d : Dep 4 2 (fun x => b2i (q (codeOf x))) ↔ (((b2i (q 0) ≠ b2i (q 4) ∨ b2i (q 8) ≠ b2i (q 12)) ∨ (b2i (q 2) ≠ b2i (q 6) ∨ b2i (q 10) ≠ b2i (q 14))) ∨ ((b2i (q 1) ≠ b2i (q 5) ∨ b2i (q 9) ≠ b2i (q 13)) ∨ (b2i (q 3) ≠ b2i (q 7) ∨ b2i (q 11) ≠ b2i (q 15)))) := or_congr (or_congr one_ one_) (or_congr one_ one_)
  rw [e, d]
  simp only [Bool.or_eq_true, bne_iff_ne, ne_eq, Bool.false_eq_true, or_false]
  constructor
  · intro h
    rcases h with h | (h | (h | (h | (h | (h | (h | (h | (h | (h | (h | (h | (h | (h | (h | h))))))))))))))
    · exact .inl (.inl (.inl h))
    · exact .inr (.inl (.inl h))
    · exact .inl (.inr (.inl h))
    · exact .inr (.inr (.inl h))
    · exact .inl (.inl (.inl (fun e => h e.symm)))
    · exact .inr (.inl (.inl (fun e => h e.symm)))
    · exact .inl (.inr (.inl (fun e => h e.symm)))
    · exact .inr (.inr (.inl (fun e => h e.symm)))
    · exact .inl (.inl (.inr h))
    · exact .inr (.inl (.inr h))
    · exact .inl (.inr (.inr h))
    · exact .inr (.inr (.inr h))
    · exact .inl (.inl (.inr (fun e => h e.symm)))
    · exact .inr (.inl (.inr (fun e => h e.symm)))
    · exact .inl (.inr (.inr (fun e => h e.symm)))
    · exact .inr (.inr (.inr (fun e => h e.symm)))
  · intro h
    rcases h with ((h | h) | (h | h)) | ((h | h) | (h | h))
    · exact .inl h
    · exact .inr (.inr (.inr (.inr (.inr (.inr (.inr (.inr (.inl h))))))))
    · exact .inr (.inr (.inl h))
    · exact .inr (.inr (.inr (.inr (.inr (.inr (.inr (.inr (.inr (.inr (.inl h))))))))))
    · exact .inr (.inl h)
    · exact .inr (.inr (.inr (.inr (.inr (.inr (.inr (.inr (.inr (.inl h)))))))))
    · exact .inr (.inr (.inr (.inl h)))
    · exact .inr (.inr (.inr (.inr (.inr (.inr (.inr (.inr (.inr (.inr (.inr (.inl h)))))))))))
theorem mat3 (q : Nat → Bool) : matP q 3 = true ↔ Dep 4 3 (fun x => b2i (q (codeOf x))) := by
  have e : matP q 3 = (b2i (q 0) != b2i (q 8) || (b2i (q 1) != b2i (q 9) || (b2i (q 2) != b2i (q 10) || (b2i (q 3) != b2i (q 11) || (b2i (q 4) != b2i (q 12) || (b2i (q 5) != b2i (q 13) || (b2i (q 6) != b2i (q 14) || (b2i (q 7) != b2i (q 15) || (b2i (q 8) != b2i (q 0) || (b2i (q 9) != b2i (q 1) || (b2i (q 10) != b2i (q 2) || (b2i (q 11) != b2i (q 3) || (b2i (q 12) != b2i (q 4) || (b2i (q 13) != b2i (q 5) || (b2i (q 14) != b2i (q 6) || (b2i (q 15) != b2i (q 7) || false)))))))))))))))) := rfl
  have d : Dep 4 3 (fun x => b2i (q (codeOf x))) ↔ ((((b2i (q 0) ≠ b2i (q 8)) ∨ (b2i (q 4) ≠ b2i (q 12))) ∨ ((b2i (q 2) ≠ b2i (q 10)) ∨ (b2i (q 6) ≠ b2i (q 14)))) ∨ (((b2i (q 1) ≠ b2i (q 9)) ∨ (b2i (q 5) ≠ b2i (q 13))) ∨ ((b2i (q 3) ≠ b2i (q 11)) ∨ (b2i (q 7) ≠ b2i (q 15))))) := or_congr (or_congr (or_congr zero_ zero_) (or_congr zero_ zero_)) (or_congr (or_congr zero_ zero_) (or_congr zero_ zero_))
  rw [e, d]
  simp only [Bool.or_eq_true, bne_iff_ne, ne_eq, Bool.false_eq_true, or_false]
  constructor
  · intro h
    rcases h with h | (h | (h | (h | (h | (h | (h | (h | (h | (h | (h | (h | (h | (h | (h | h))))))))))))))
    · exact .inl (.inl (.inl h))
    · exact .inr (.inl (.inl h))
    · exact .inl (.inr (.inl h))
    · exact .inr (.inr (.inl h))
    · exact .inl (.inl (.inr h))
    · exact .inr (.inl (.inr h))
    · exact .inl (.inr (.inr h))
    · exact .inr (.inr (.inr h))
    · exact .inl (.inl (.inl (fun e => h e.symm)))
    · exact .inr (.inl (.inl (fun e => h e.symm)))
    · exact .inl (.inr (.inl (fun e => h e.symm)))
    · exact .inr (.inr (.inl (fun e => h e.symm)))
    · exact .inl (.inl (.inr (fun e => h e.symm)))
    · exact .inr (.inl (.inr (fun e => h e.symm)))
    · exact .inl (.inr (.inr (fun e => h e.symm)))
    · exact .inr (.inr (.inr (fun e => h e.symm)))
  · intro h
    rcases h with ((h | h) | (h | h)) | ((h | h) | (h | h))
    · exact .inl h
    · exact .inr (.inr (.inr (.inr (.inl h))))
    · exact .inr (.inr (.inl h))
    · exact .inr (.inr (.inr (.inr (.inr (.inr (.inl h))))))
    · exact .inr (.inl h)
    · exact .inr (.inr (.inr (.inr (.inr (.inl h)))))
    · exact .inr (.inr (.inr (.inl h)))
    · exact .inr (.inr (.inr (.inr (.inr (.inr (.inr (.inl h)))))))
theorem mat_dep (q : Nat → Bool) {k : Nat} (hk : k < 4) : matP q k = true ↔ Dep 4 k (fun x => b2i (q (codeOf x))) := by
  match k, hk with
  | 0, _ => exact mat0 q
  | 1, _ => exact mat1 q
  | 2, _ => exact mat2 q
  | 3, _ => exact mat3 q
theorem sum_add (l : List Nat) (f g h : Nat → Int) (e : ∀ c, f c = g c + h c) : (l.map f).sum = (l.map g).sum + (l.map h).sum := by
  induction l with
  | nil => rfl
  | cons a l ih => simp only [List.map_cons, List.sum_cons, ih, e]; omega
theorem mu_add (W : Nat → Nat → Int) (q r t : Nat → Bool) (h : ∀ c, b2i (q c) = b2i (r c) + b2i (t c)) : mu W q = mu W r + mu W t := by
  refine sum_add _ _ _ _ fun c => ?_
  unfold heavyAt
  rw [h c]
  simp only [Int.add_mul]
theorem mu_congr {W : Nat → Nat → Int} {q r : Nat → Bool} (h : ∀ c, q c = r c) : mu W q = mu W r := by
  have : q = r := funext h
  rw [this]
noncomputable def shareP (φ ψ : Fm) : Bool := (List.range 4).any fun k => matP φ.f k && matP ψ.f k
theorem law_strict {W : Nat → Nat → Int} (hW : WOk W) (φ ψ : Fm) : (shareP φ ψ = true → mu W φ.f * mu W ψ.f < mu W (due φ ψ 2) * mu W (due φ ψ 5)) ∧ (shareP φ ψ = false → mu W φ.f * mu W ψ.f = mu W (due φ ψ 2) * mu W (due φ ψ 5)) := by
  have e2 : mu W (due φ ψ 2) = Ex (wsOf W) fun x => φ.x x * ψ.x x := by
    rw [mu_ex]
    refine Ex_congr fun x _ => ?_
    show b2i (φ.f (codeOf x) && ψ.f (codeOf x)) = b2i (φ.f (codeOf x)) * b2i (ψ.f (codeOf x))
    cases φ.f (codeOf x) <;> cases ψ.f (codeOf x) <;> rfl
  have e5 : mu W (due φ ψ 5) = Ex (wsOf W) fun _ => 1 := by
    rw [mu_ex]
    refine Ex_congr fun x _ => ?_
    show b2i (φ.f (codeOf x) || !φ.f (codeOf x)) = 1
    cases φ.f (codeOf x) <;> rfl
  have hp : Pos (wsOf W) := by
    intro p hp
    simp only [wsOf, List.mem_cons, List.not_mem_nil, or_false] at hp
    rcases hp with rfl | rfl | rfl | rfl <;> exact ⟨(hW _ _).1, (hW _ _).1⟩
  rw [e2, e5, mu_ex W φ.f, mu_ex W ψ.f]
  constructor
  · intro h
    obtain ⟨k, hk, h⟩ := List.any_eq_true.mp h
    have hk4 : k < 4 := List.mem_range.mp hk
    rw [Bool.and_eq_true] at h
    exact harrisS k hp φ.mon ψ.mon ((mat_dep _ hk4).mp h.1) ((mat_dep _ hk4).mp h.2)
  · intro h
    refine harrisE fun k hk d => ?_
    have hk4 : k < 4 := hk
    have : shareP φ ψ = true := List.any_eq_true.mpr ⟨k, List.mem_range.mpr hk4, by rw [Bool.and_eq_true]; exact ⟨(mat_dep _ hk4).mpr d.1, (mat_dep _ hk4).mpr d.2⟩⟩
    rw [h] at this; cases this
theorem due3 (W : Nat → Nat → Int) (φ ψ : Fm) : mu W (due φ ψ 3) = mu W φ.f - mu W (due φ ψ 2) := by
  have := mu_add W φ.f (due φ ψ 3) (due φ ψ 2) fun c => by
    show b2i (φ.f c) = b2i (φ.f c && !ψ.f c) + b2i (φ.f c && ψ.f c)
    cases φ.f c <;> cases ψ.f c <;> rfl
  omega
theorem due4 (W : Nat → Nat → Int) (φ ψ : Fm) : mu W (due φ ψ 4) = mu W (due φ ψ 5) - mu W ψ.f := by
  have := mu_add W (due φ ψ 5) (due φ ψ 4) ψ.f fun c => by
    show b2i (φ.f c || !φ.f c) = b2i (!ψ.f c) + b2i (ψ.f c)
    cases φ.f c <;> cases ψ.f c <;> rfl
  omega
/-- both pairs: less exactly where a variable is shared, equal otherwise -/
theorem pairs {W : Nat → Nat → Int} (hW : WOk W) (φ ψ : Fm) :
    (decide (mu W φ.f * mu W ψ.f < mu W (due φ ψ 2) * mu W (due φ ψ 5)) = shareP φ ψ ∧ mu W φ.f * mu W ψ.f ≤ mu W (due φ ψ 2) * mu W (due φ ψ 5)) ∧
    (decide (mu W (due φ ψ 3) * mu W (due φ ψ 5) < mu W φ.f * mu W (due φ ψ 4)) = shareP φ ψ ∧ mu W (due φ ψ 3) * mu W (due φ ψ 5) ≤ mu W φ.f * mu W (due φ ψ 4)) := by
  have h := law_strict hW φ ψ
  rw [due3, due4]
  generalize mu W φ.f = F at *
  generalize mu W ψ.f = G at *
  generalize mu W (due φ ψ 2) = H at *
  generalize mu W (due φ ψ 5) = Z at *
  have e1 : (F - H) * Z = F * Z - H * Z := Int.sub_mul ..
  have e2 : F * (Z - G) = F * Z - F * G := Int.mul_sub ..
  rw [e1, e2]
  cases hs : shareP φ ψ with
  | true =>
    have := h.1 hs
    exact ⟨⟨decide_eq_true this, by omega⟩, ⟨decide_eq_true (by omega), by omega⟩⟩
  | false =>
    have := h.2 hs
    exact ⟨⟨decide_eq_false (by omega), by omega⟩, ⟨decide_eq_false (by omega), by omega⟩⟩
end Mine
end

section
open PySem PySem.W PyProof.Rows PySem.Calls
set_option Elab.async false
set_option autoImplicit false
set_option maxRecDepth 100000
set_option maxHeartbeats 400000
namespace Mine
theorem range_eq {n : Nat} (hn : n ≤ 4096) (ρ : Loc) (σ : Store) : dRange (dInt (n : Int)) ρ σ = some (upTo n, σ, 0) := by
  unfold dRange
  show (if (0 : Int) ≤ n ∧ (n : Int) ≤ 4096 then some (upTo (n : Int).toNat, σ, 0) else none) = _
  rw [if_pos (by omega), Int.toNat_natCast]
theorem compN {n : Nat} (hn : n ≤ 4096) {x : String} {fv : List String} {d : Den} {ρ : Loc} {σ : Store} (P : Loc → Prop) (f : Nat → V) (hP : P (only fv ρ)) (hu : ∀ ρ v, P ρ → P (upd ρ x v))
    (h : ∀ c, c < n → ∀ ρ, P ρ → ρ x = some (.int c) → ∃ σ2, d ρ σ = some (f c, σ2)) (hs : ∀ c, c < n → (f c).solid = true) :
    dComp (dRange (dInt (n : Int))) fv (tName x) tYes d ρ σ = some (.lst σ.length, σ ++ [(List.range n).map f]) := by
  rw [dComp_map (items := upTo n) P (fun v => match v with | .int i => f i.toNat | _ => .none) (range_eq hn ρ σ) hP (by unfold upTo; rw [List.length_map, List.length_range]; exact hn) ?_]
  · congr 4
    unfold upTo
    rw [List.map_map]
    exact List.map_congr_left fun c _ => by show f (c : Int).toNat = f c; rw [Int.toNat_natCast]
  · intro v hv ρ hρ
    unfold upTo at hv
    obtain ⟨c, hc, rfl⟩ := List.mem_map.mp hv
    have hc := List.mem_range.mp hc
    refine ⟨upd ρ x (.int c), rfl, hu _ _ hρ, ?_, ?_⟩
    · show ∃ σ2, d (upd ρ x (.int c)) σ = some (f (c : Int).toNat, σ2)
      rw [Int.toNat_natCast]
      exact h c hc _ (hu _ _ hρ) (by simp [upd])
    · show (f (c : Int).toNat).solid = true
      rw [Int.toNat_natCast]; exact hs c hc
/-- with a condition, the numbers themselves listed -/
theorem compNf {n : Nat} (hn : n ≤ 4096) {x : String} {fv : List String} {t : Tst} {ρ : Loc} {σ : Store} (P : Loc → Prop) (p : Nat → Bool) (hP : P (only fv ρ)) (hu : ∀ ρ v, P ρ → P (upd ρ x v))
    (h : ∀ c, c < n → ∀ ρ, P ρ → ρ x = some (.int c) → t ρ σ = some (p c)) :
    dComp (dRange (dInt (n : Int))) fv (tName x) t (dName x) ρ σ = some (.lst σ.length, σ ++ [((List.range n).filter p).map fun (c : Nat) => V.int (c : Int)]) := by
  unfold dComp
  rw [range_eq hn ρ σ]
  dsimp only
  rw [compGo_filter P (fun v => match v with | .int i => p i.toNat | _ => false) (fun v => v) hP ?_]
  · dsimp only
    have e : ((upTo n).filter fun v => match v with | .int i => p i.toNat | _ => false).map (fun v => v) = ((List.range n).filter p).map fun (c : Nat) => V.int (c : Int) := by
      rw [List.map_id']
      unfold upTo
      rw [List.filter_map]
      congr 1
    rw [e]
    unfold alloc
    rw [if_pos]
    rw [List.length_map]
    exact Nat.le_trans (List.length_filter_le _ _) (by rw [List.length_range]; exact hn)
  · intro v hv ρ hρ
    unfold upTo at hv
    obtain ⟨c, hc, rfl⟩ := List.mem_map.mp hv
    have hc := List.mem_range.mp hc
    refine ⟨upd ρ x (.int c), rfl, hu _ _ hρ, ?_, fun _ => ⟨⟨σ, dName_eq (by simp [upd])⟩, rfl⟩⟩
    show t _ _ = some (p (c : Int).toNat)
    rw [Int.toNat_natCast]
    exact h c hc _ (hu _ _ hρ) (by simp [upd])
theorem ints_map (l : List Int) : ints? (l.map V.int) = some l := by
  induction l with
  | nil => rfl
  | cons a l ih => show (ints? (l.map V.int)).map (a :: ·) = _; rw [ih]; rfl
theorem ints_nat (l : List Nat) : ints? (l.map fun (c : Nat) => V.int (c : Int)) = some (l.map fun (c : Nat) => (c : Int)) := by
  have := ints_map (l.map fun (c : Nat) => (c : Int))
  rwa [List.map_map] at this
noncomputable def tb (q : Nat → Bool) : List V := (List.range 16).map fun c => V.int (b2i (q c))
theorem tb_get (q : Nat → Bool) {c : Nat} (hc : c < 16) : (tb q)[c]? = some (.int (b2i (q c))) := by
  unfold tb
  rw [List.getElem?_map, List.getElem?_range hc]; rfl
theorem item_lst {n m : String} {ρ : Loc} {σ : Store} {i c : Nat} {xs : List V} {v : V} (h1 : ρ n = some (.lst i)) (h2 : ρ m = some (.int c)) (hσ : σ[i]? = some xs) (hv : xs[c]? = some v) (hc : c < 100000) (hf : v.flat = true) : dFlat (d2 fItem (dName n) (dName m)) ρ σ = some (v, σ) := by
  refine flat_eq (σ1 := σ) ?_ hf
  rw [d2_eq (dName_eq h1) (dName_eq h2)]
  unfold fItem
  dsimp only
  rw [hσ]
  unfold pyIdx
  dsimp only
  rw [if_pos (by omega), if_pos (by omega), Int.toNat_natCast, hv]
  rfl
theorem item_at {n : String} {d : Den} {ρ : Loc} {σ : Store} {i c : Nat} {xs : List V} {v : V} (h1 : ρ n = some (.lst i)) (h2 : d ρ σ = some (.int c, σ)) (hσ : σ[i]? = some xs) (hv : xs[c]? = some v) (hc : c < 100000) (hf : v.flat = true) : dFlat (d2 fItem (dName n) d) ρ σ = some (v, σ) := by
  refine flat_eq (σ1 := σ) ?_ hf
  rw [d2_eq (dName_eq h1) h2]
  unfold fItem
  dsimp only
  rw [hσ]
  unfold pyIdx
  dsimp only
  rw [if_pos (by omega), if_pos (by omega), Int.toNat_natCast, hv]
  rfl
theorem xor_nat : ∀ (c : Fin 16) (k : Fin 4), Builtin.bitXor (c.1 : Nat) ((2 ^ k.1 : Nat) : Int) = ((c.1 ^^^ 2 ^ k.1 : Nat) : Int) ∧ c.1 ^^^ 2 ^ k.1 < 16 := by decide +kernel
theorem matters_raw (q : Nat → Bool) {k : Nat} (hk : k < 4) : (R_matters [.lst 0, .int k] [tb q]).map (·.1) = some (.bool (matP q k)) := by
  refine fCall_fst rfl ?_
  show ans (D_matters 1 (locOf ["truths", "name"] [.lst 0, .int k]) [tb q]) = _
  have hc : dComp (dRange (dInt 16)) ["truths", "name"] (tName "c") (t2 fNe (dFlat (d2 fItem (dName "truths") (dName "c"))) (dFlat (d2 fItem (dName "truths") (d2 (f2 (int2 gXor)) (dName "c") (d2 (f2 (int2 gPow)) (dInt 2) (dName "name")))))) (dName "c") (locOf ["truths", "name"] [.lst 0, .int k]) [tb q]
      = some (.lst 1, [tb q] ++ [((List.range 16).filter fun c => b2i (q c) != b2i (q (c ^^^ 2 ^ k))).map fun (c : Nat) => V.int (c : Int)]) := by
    refine compNf (n := 16) (by decide) (fun ρ => ρ "truths" = some (.lst 0) ∧ ρ "name" = some (.int k)) (fun c => b2i (q c) != b2i (q (c ^^^ 2 ^ k))) ⟨rfl, rfl⟩ (fun ρ v h => ⟨by simp [upd, h.1], by simp [upd, h.2]⟩) ?_
    rintro c hc ρ ⟨h1, h2⟩ h3
    have hp : d2 (f2 (int2 gPow)) (dInt 2) (dName "name") ρ [tb q] = some (.int ((2 ^ k : Nat) : Int), [tb q]) := by
      rw [d2_eq (x := .int 2) (σ1 := [tb q]) rfl (dName_eq h2)]
      match k, hk with
      | 0, _ => rfl
      | 1, _ => rfl
      | 2, _ => rfl
      | 3, _ => rfl
    obtain ⟨x1, x2⟩ := xor_nat ⟨c, hc⟩ ⟨k, hk⟩
    have x2 : c ^^^ 2 ^ k < 16 := x2
    have hx : d2 (f2 (int2 gXor)) (dName "c") (d2 (f2 (int2 gPow)) (dInt 2) (dName "name")) ρ [tb q] = some (.int ((c ^^^ 2 ^ k : Nat) : Int), [tb q]) := by
      rw [d2_eq (dName_eq h3) hp]
      show some (V.int (Builtin.bitXor c ((2 ^ k : Nat) : Int)), [tb q]) = _
      rw [x1]
    refine t2_eq (item_lst h1 h3 rfl (tb_get q hc) (by omega) rfl) (item_at h1 hx rfl (tb_get q x2) (by omega) rfl) (σ3 := [tb q]) rfl
  unfold D_matters
  have hr : D_matters0 1 (locOf ["truths", "name"] [.lst 0, .int k]) [tb q] = some (.ret (.bool (matP q k)), locOf ["truths", "name"] [.lst 0, .int k], [tb q] ++ [((List.range 16).filter fun c => b2i (q c) != b2i (q (c ^^^ 2 ^ k))).map fun (c : Nat) => V.int (c : Int)] ++ [[]]) := by
    refine ret_eq ?_
    rw [d2_eq hc (y := .lst 2) (σ2 := [tb q] ++ [((List.range 16).filter fun c => b2i (q c) != b2i (q (c ^^^ 2 ^ k))).map fun (c : Nat) => V.int (c : Int)] ++ [[]]) rfl]
    show (match ints? (((List.range 16).filter fun c => b2i (q c) != b2i (q (c ^^^ 2 ^ k))).map fun (c : Nat) => V.int (c : Int)), ints? [] with | some ns, some ms => some (V.bool (!decide (ns = ms)), _) | _, _ => none) = _
    rw [ints_nat]
    show some (V.bool (!decide (_ = ([] : List Int))), _) = _
    congr 3
    unfold matP
    generalize hp : (fun c => b2i (q c) != b2i (q (c ^^^ 2 ^ k))) = p
    cases h : (List.range 16).any p with
    | true =>
      obtain ⟨c, hc, hpc⟩ := List.any_eq_true.mp h
      have hm : c ∈ (List.range 16).filter p := List.mem_filter.mpr ⟨hc, hpc⟩
      cases hf : (List.range 16).filter p with
      | nil => rw [hf] at hm; cases hm
      | cons a l => simp
    | false =>
      have : (List.range 16).filter p = [] := by
        rw [List.filter_eq_nil_iff]
        intro c hc hpc
        have := List.any_eq_false.mp h c hc
        exact this hpc
      rw [this]; rfl
  rw [seq_ret hr]
  rfl
end Mine
end

section
open PySem PySem.W PyProof.Rows PySem.Calls
set_option Elab.async false
set_option autoImplicit false
set_option maxRecDepth 100000
set_option maxHeartbeats 400000
namespace Mine
theorem only_get {fv : List String} {ρ : Loc} {n : String} {v : V} (h : n ∈ fv) (e : ρ n = some v) : only fv ρ n = some v := by
  unfold only; rw [if_pos h]; exact e
theorem imod_eq {a b : Den} {ρ : Loc} {σ σ1 σ2 : Store} {x m : Int} (h : a ρ σ = some (.int x, σ1)) (h2 : b ρ σ1 = some (.int m, σ2)) (hm : 0 < m) : d2 (f2 (int2 gMod)) a b ρ σ = some (.int (x % m), σ2) := by
  rw [d2_eq h h2]
  show (gMod x m).map (·, σ2) = _
  unfold gMod; rw [if_pos hm]; rfl
theorem idiv_eq {a b : Den} {ρ : Loc} {σ σ1 σ2 : Store} {x m : Int} (h : a ρ σ = some (.int x, σ1)) (h2 : b ρ σ1 = some (.int m, σ2)) (hm : 0 < m) (hm2 : m < 2 ^ 30) : d2 (f2 (int2 gDiv)) a b ρ σ = some (.int (x / m), σ2) := by
  rw [d2_eq h h2]
  show (gDiv x m).map (·, σ2) = _
  unfold gDiv; rw [if_pos ⟨hm, hm2⟩]; rfl
theorem ipow_eq {n : String} {ρ : Loc} {σ : Store} {a : Int} {k : Nat} (h : ρ n = some (.int k)) (hk : k < 64) (ha : 0 ≤ a) (ha2 : a < 64) : d2 (f2 (int2 gPow)) (dInt a) (dName n) ρ σ = some (.int (a ^ k), σ) := by
  rw [d2_eq (x := .int a) (σ1 := σ) rfl (dName_eq h)]
  show (gPow a k).map (·, σ) = _
  unfold gPow; rw [if_pos ⟨by omega, by omega, ha, ha2⟩, Int.toNat_natCast]; rfl
theorem iadd_eq {a b : Den} {ρ : Loc} {σ σ1 σ2 : Store} {x y : Int} (h : a ρ σ = some (.int x, σ1)) (h2 : b ρ σ1 = some (.int y, σ2)) : d2 fAdd a b ρ σ = some (.int (x + y), σ2) := by
  rw [d2_eq h h2]; rfl

/-- formulas out of cells -/
noncomputable def nmI (cell low count : Int) (k : Nat) : Int := low + cell / 4 ^ k % 4 % count
noncomputable def sgn (cell : Int) (k : Nat) : Bool := decide (cell / 256 / 2 ^ k % 2 = 1)
structure LC (low count : Int) : Prop where
  hl : 0 ≤ low
  hc : 0 < count
  h : low + count ≤ 4
theorem nmI_bd {cell low count : Int} (h : LC low count) (k : Nat) : 0 ≤ nmI cell low count k ∧ nmI cell low count k < 4 := by
  obtain ⟨a, b, c⟩ := h
  unfold nmI
  have h1 := Int.emod_nonneg (cell / 4 ^ k % 4) (by omega : count ≠ 0)
  have h2 := Int.emod_lt_of_pos (cell / 4 ^ k % 4) b
  omega
noncomputable def fmOf (cell low count : Int) (h : LC low count) : Fm where
  n0 := (nmI cell low count 0).toNat
  n1 := (nmI cell low count 1).toNat
  n2 := (nmI cell low count 2).toNat
  n3 := (nmI cell low count 3).toNat
  s0 := sgn cell 0
  s1 := sgn cell 1
  s2 := sgn cell 2
  g := (cell / 2048 % 6).toNat
  h0 := by have := nmI_bd (cell := cell) h 0; omega
  h1 := by have := nmI_bd (cell := cell) h 1; omega
  h2 := by have := nmI_bd (cell := cell) h 2; omega
  h3 := by have := nmI_bd (cell := cell) h 3; omega
  hg := by omega
noncomputable def Fm.nl (φ : Fm) : List V := [.int φ.n0, .int φ.n1, .int φ.n2, .int φ.n3]
noncomputable def Fm.sl (φ : Fm) : List V := [φ.s0, φ.s1, φ.s2].map sg
theorem fmOf_nl {cell low count : Int} (h : LC low count) : (fmOf cell low count h).nl = (List.range 4).map fun k => V.int (nmI cell low count k) := by
  show [V.int ((nmI cell low count 0).toNat : Int), V.int ((nmI cell low count 1).toNat : Int), V.int ((nmI cell low count 2).toNat : Int), V.int ((nmI cell low count 3).toNat : Int)] = _
  rw [Int.toNat_of_nonneg (nmI_bd h 0).1, Int.toNat_of_nonneg (nmI_bd h 1).1, Int.toNat_of_nonneg (nmI_bd h 2).1, Int.toNat_of_nonneg (nmI_bd h 3).1]
  rfl
theorem formula0 {cell low count : Int} (h : LC low count) {ρ : Loc} {σ : Store} {lo : Nat} (h1 : ρ "cell" = some (.int cell)) (h2 : ρ "low" = some (.int low)) (h3 : ρ "count" = some (.int count)) :
    D_formula0 lo ρ σ = some (.next, upd ρ "names" (.lst σ.length), σ ++ [(fmOf cell low count h).nl]) := by
  refine set_next ?_
  rw [fmOf_nl]
  refine compN (n := 4) (by decide) (fun ρ => ρ "cell" = some (.int cell) ∧ ρ "low" = some (.int low) ∧ ρ "count" = some (.int count)) (fun k => V.int (nmI cell low count k))
    ⟨only_get (by decide) h1, only_get (by decide) h2, only_get (by decide) h3⟩ (fun ρ v h => ⟨by simp [upd, h.1], by simp [upd, h.2.1], by simp [upd, h.2.2]⟩) ?_ (fun _ _ => rfl)
  rintro k hk ρ ⟨e1, e2, e3⟩ e4
  have h4 : (0 : Int) < 4 ^ k ∧ (4 : Int) ^ k < 2 ^ 30 := by
    match k, hk with
    | 0, _ => decide
    | 1, _ => decide
    | 2, _ => decide
    | 3, _ => decide
  exact ⟨σ, iadd_eq (dName_eq e2) (imod_eq (imod_eq (idiv_eq (dName_eq e1) (ipow_eq e4 (by omega) (by decide) (by decide)) h4.1 h4.2) rfl (by decide)) (dName_eq e3) h.hc)⟩
theorem sign_item (cell : Int) (k : Nat) (σ : Store) : fItem [.str (Str.ofString "&|"), .int (cell / 256 / 2 ^ k % 2)] σ = some (sg (sgn cell k), σ) := by
  unfold sgn
  generalize cell / 256 / 2 ^ k = x
  rcases (show x % 2 = 0 ∨ x % 2 = 1 by omega) with e | e
  · rw [e]; rfl
  · rw [e]; rfl
theorem formula1 {cell low count : Int} (h : LC low count) {ρ : Loc} {σ : Store} {lo : Nat} (h1 : ρ "cell" = some (.int cell)) :
    D_formula1 lo ρ σ = some (.next, upd ρ "signs" (.lst σ.length), σ ++ [(fmOf cell low count h).sl]) := by
  refine set_next ?_
  refine compN (n := 3) (by decide) (fun ρ => ρ "cell" = some (.int cell)) (fun k => sg (sgn cell k))
    (only_get (by decide) h1) (fun ρ v h => by simp [upd, h]) ?_ (fun _ _ => by unfold sg; rfl)
  intro k hk ρ e1 e4
  have h4 : (0 : Int) < 2 ^ k ∧ (2 : Int) ^ k < 2 ^ 30 := by
    match k, hk with
    | 0, _ => decide
    | 1, _ => decide
    | 2, _ => decide
  refine ⟨σ, flat_eq (σ1 := σ) ?_ (by unfold sg; rfl)⟩
  rw [d2_eq (x := .str (Str.ofString "&|")) (σ1 := σ) rfl (imod_eq (idiv_eq (idiv_eq (dName_eq e1) rfl (by decide) (by decide)) (ipow_eq e4 (by omega) (by decide) (by decide)) h4.1 h4.2) rfl (by decide))]
  exact sign_item cell k σ
theorem pair_item {g : Nat} (hg : g < 6) (σ : Store) : fItem [.tup [.tup [.int 4, .int 4], .tup [.int 0, .int 1], .tup [.int 1, .int 2], .tup [.int 2, .int 3], .tup [.int 0, .int 2], .tup [.int 1, .int 3]], .int g] σ = some (.tup [.int (pairOf g).1, .int (pairOf g).2], σ) := by
  match g, hg with
  | 0, _ => rfl
  | 1, _ => rfl
  | 2, _ => rfl
  | 3, _ => rfl
  | 4, _ => rfl
  | 5, _ => rfl
theorem formula2 {cell low count : Int} (h : LC low count) {ρ : Loc} {σ : Store} {lo : Nat} (h1 : ρ "cell" = some (.int cell)) :
    D_formula2 lo ρ σ = some (.next, upd (upd ρ "first" (.int (pairOf (fmOf cell low count h).g).1)) "last" (.int (pairOf (fmOf cell low count h).g).2), σ) := by
  have hg : (fmOf cell low count h).g < 6 := (fmOf cell low count h).hg
  have e : cell / 2048 % 6 = (((fmOf cell low count h).g : Nat) : Int) := by
    show _ = ((cell / 2048 % 6).toNat : Int)
    omega
  generalize (fmOf cell low count h).g = g at *
  have hd : dFlat (d2 fItem (dTup [(dTup [(dInt 4), (dInt 4)]), (dTup [(dInt 0), (dInt 1)]), (dTup [(dInt 1), (dInt 2)]), (dTup [(dInt 2), (dInt 3)]), (dTup [(dInt 0), (dInt 2)]), (dTup [(dInt 1), (dInt 3)])]) (d2 (f2 (int2 gMod)) (d2 (f2 (int2 gDiv)) (dName "cell") (dInt 2048)) (dInt 6))) ρ σ = some (.tup [.int (pairOf g).1, .int (pairOf g).2], σ) := by
    have hm : d2 (f2 (int2 gMod)) (d2 (f2 (int2 gDiv)) (dName "cell") (dInt 2048)) (dInt 6) ρ σ = some (.int g, σ) := by
      rw [← e]
      exact imod_eq (idiv_eq (dName_eq h1) rfl (by decide) (by decide)) rfl (by decide)
    unfold dFlat
    rw [d2_eq (x := .tup [.tup [.int 4, .int 4], .tup [.int 0, .int 1], .tup [.int 1, .int 2], .tup [.int 2, .int 3], .tup [.int 0, .int 2], .tup [.int 1, .int 3]]) (σ1 := σ) rfl hm, pair_item hg]
    rfl
  unfold D_formula2 sUnpack
  rw [hd]
  rfl
theorem formula_eq {cell low count : Int} (h : LC low count) (σ : Store) :
    R_formula [.int cell, .int low, .int count] σ = some (fm (fmOf cell low count h).g σ.length (σ.length + 1), σ ++ [(fmOf cell low count h).nl] ++ [(fmOf cell low count h).sl]) := by
  have a0 := formula0 (cell := cell) h (ρ := locOf ["cell", "low", "count"] [.int cell, .int low, .int count]) (σ := σ) (lo := σ.length) rfl rfl rfl
  have a1 := formula1 (cell := cell) h (ρ := upd (locOf ["cell", "low", "count"] [.int cell, .int low, .int count]) "names" (.lst σ.length)) (σ := σ ++ [(fmOf cell low count h).nl]) (lo := σ.length) rfl
  have a2 := formula2 (cell := cell) h (ρ := upd (upd (locOf ["cell", "low", "count"] [.int cell, .int low, .int count]) "names" (.lst σ.length)) "signs" (.lst (σ ++ [(fmOf cell low count h).nl]).length)) (σ := σ ++ [(fmOf cell low count h).nl] ++ [(fmOf cell low count h).sl]) (lo := σ.length) rfl
  unfold R_formula fCall
  rw [if_pos (show [V.int cell, V.int low, V.int count].length = ["cell", "low", "count"].length from rfl)]
  unfold D_formula
  rw [seq_next a0, seq_next a1, seq_next a2]
  have hl : (σ ++ [(fmOf cell low count h).nl]).length = σ.length + 1 := by rw [List.length_append]; rfl
  rw [hl]
  generalize σ ++ [(fmOf cell low count h).nl] ++ [(fmOf cell low count h).sl] = τ
  generalize σ.length = L
  rfl

/-- the small calls -/
theorem fS_eq {f : Fn} {vs : List V} {σs σ : Store} {v : V} (hs : σs.all (fun xs => xs.all V.solid) = true) (h : (f vs σs).map (·.1) = some v) (hv : v.flat = true) : fS f vs σs σ = some (v, σ) := by
  unfold fS
  rw [if_pos hs]
  cases e : f vs σs with
  | none => rw [e] at h; cases h
  | some p =>
    obtain ⟨v', σ'⟩ := p
    rw [e] at h
    cases h
    dsimp only
    rw [if_pos hv]
theorem with1_eq {i : Nat} {σ : Store} {k : List V → Option (V × Store)} {xs : List V} (h : σ[i]? = some xs) : with1 i σ k = k xs := by
  unfold with1; rw [h]
theorem with2_eq {i j : Nat} {σ : Store} {k : List V → List V → Option (V × Store)} {xs ys : List V} (hn : i ≠ j) (h1 : σ[i]? = some xs) (h2 : σ[j]? = some ys) : with2 i j σ k = k xs ys := by
  unfold with2; rw [if_neg hn, h1, h2]
theorem Fm.solid (φ : Fm) : ([φ.nl, φ.sl] : Store).all (fun xs => xs.all V.solid) = true := by
  unfold Fm.nl Fm.sl sg; rfl
theorem K_truth_eq (φ : Fm) {i j c : Nat} {σ : Store} (hn : i ≠ j) (h1 : σ[i]? = some φ.nl) (h2 : σ[j]? = some φ.sl) : K_truth [fm φ.g i j, .int c] σ = some (.int (b2i (φ.f c)), σ) := by
  show with2 i j σ _ = _
  rw [with2_eq hn h1 h2]
  refine fS_eq φ.solid ?_ rfl
  have := truth_raw (c := c) φ.hg φ.h0 φ.h1 φ.h2 φ.h3 φ.s0 φ.s1 φ.s2
  rw [vbit_is, vbit_is, vbit_is, vbit_is] at this
  refine this.trans ?_
  congr 2
  exact truth_b2i φ.g [c.testBit φ.n0, c.testBit φ.n1, c.testBit φ.n2, c.testBit φ.n3] [φ.s0, φ.s1, φ.s2]
theorem K_text_eq (φ : Fm) {i j : Nat} {σ : Store} (hn : i ≠ j) (h1 : σ[i]? = some φ.nl) (h2 : σ[j]? = some φ.sl) : K_text [fm φ.g i j] σ = some (.str (S (φ.tks.map Tm.code)), σ) := by
  show with2 i j σ _ = _
  rw [with2_eq hn h1 h2]
  refine fS_eq φ.solid ?_ rfl
  rw [tks_code]
  exact text_raw (g := φ.g) φ.h0 φ.h1 φ.h2 φ.h3 φ.s0 φ.s1 φ.s2
theorem K_told_eq (φ ψ : Fm) (k : Nat) (σ : Store) : K_told [.str (S ((txt φ ψ k).map Tm.code))] σ = some (.lst σ.length, σ ++ [[.int (mk (due φ ψ k))]]) := by
  show (match R_told [.str (S ((txt φ ψ k).map Tm.code))] [] with
    | some (.lst 0, [xs]) => if xs.all V.flat = true then some (V.lst σ.length, σ ++ [xs]) else none
    | _ => none) = _
  rw [txt_told]
  rfl
theorem tb_solid (q : Nat → Bool) : ([tb q] : Store).all (fun xs => xs.all V.solid) = true := rfl
theorem K_matters_eq (q : Nat → Bool) {i k : Nat} {σ : Store} (hk : k < 4) (h : σ[i]? = some (tb q)) : K_matters [.lst i, .int k] σ = some (.bool (matP q k), σ) := by
  show with1 i σ _ = _
  rw [with1_eq h]
  exact fS_eq (tb_solid q) (matters_raw q hk) rfl
theorem wl_solid (W : Nat → Nat → Int) : ([wl W] : Store).all (fun xs => xs.all V.solid) = true := rfl
theorem K_weighed_eq {W : Nat → Nat → Int} (hW : WOk W) {d0 d1 d2 d3 i : Nat} {σ : Store} (h0 : d0 < 16) (h1 : d1 < 16) (h2 : d2 < 16) (h3 : d3 < 16) (h : σ[i]? = some (wl W)) :
    K_weighed [.str (S [65 + d0, 65 + d1, 65 + d2, 65 + d3]), .lst i] σ = some (.int (weighP W d0 d1 d2 d3), σ) := by
  show with1 i σ _ = _
  rw [with1_eq h]
  exact fS_eq (wl_solid W) (weighed_raw hW h0 h1 h2 h3) rfl
theorem K_Int2AP_eq {i : Int} (σ : Store) (h : i.natAbs < 65536) : K_Int2AP [.int i] σ = some (.bytes (bd (hexGo 31 i.natAbs [])), σ) :=
  fS_eq rfl (ap_raw h) rfl
end Mine
end

section
open PySem PySem.W PyProof.Rows PySem.Calls
set_option Elab.async false
set_option autoImplicit false
set_option maxRecDepth 100000
set_option maxHeartbeats 400000
namespace Mine
/-- cells -/
noncomputable def sixV : List V := [.int 740, .int 5475, .int 2001, .int 4, .int 3000, .int 1006]
theorem vSlice_map (ns : List Int) (lo hi st : Option Int) : vSlice (ns.map V.int) lo hi st = (vSlice ns lo hi st).map V.int := by
  unfold vSlice
  rw [List.length_map, List.map_filterMap]
  congr 1
  funext i
  rw [List.getElem?_map]
theorem vSlice6_len {α : Type} (vs : List α) (k : Nat) : (vSlice vs (some (k : Int)) none (some 6)).length ≤ vs.length := by
  unfold vSlice
  refine Nat.le_trans (List.length_filterMap_le _ _) (sliceRange_length_le _ _ _ _ (fun _ => ?_) fun h => absurd (show (6 : Int) > 0 by decide) h)
  show 0 ≤ max 0 (min (if (k : Int) < 0 then (k : Int) + vs.length else (k : Int)) (vs.length : Int)) ∧ (vs.length : Int) ≤ vs.length
  omega
noncomputable def cellOf (ns : List Int) (k : Nat) (b : Int) : Int := b + (vSlice ns (some (k : Int)) none (some 6)).sum
noncomputable def cellsOf (ns : List Int) : List V := [.int (cellOf ns 0 740), .int (cellOf ns 1 5475), .int (cellOf ns 2 2001), .int (cellOf ns 3 4), .int (cellOf ns 4 3000), .int (cellOf ns 5 1006)]
theorem cell_el {ns : List Int} (hns : ns.length ≤ 63) {ρ : Loc} {σ : Store} {i k : Nat} {b : Int} (hs : ρ "script" = some (.lst i)) (hσ : σ[i]? = some (ns.map V.int)) (hk : ρ "k" = some (.int k)) (hb : ρ "base" = some (.int b)) :
    ∃ σ1, d2 fAdd (dName "base") (dFlat (dApp (onList gSum) [(dStep (dName "script") (some (dName "k")) (some (dInt 6)))])) ρ σ = some (.int (cellOf ns k b), σ1) := by
  have h1 : dStep (dName "script") (some (dName "k")) (some (dInt 6)) ρ σ = some (.lst σ.length, σ ++ [(vSlice ns (some (k : Int)) none (some 6)).map V.int]) := by
    have p1 : dPart (some (dName "k")) ρ σ = some (some (k : Int)) := by unfold dPart; dsimp only; rw [dName_eq hk]
    have p2 : dPart (some (dInt 6)) ρ σ = some (some 6) := rfl
    unfold dStep
    rw [dName_eq hs]
    dsimp only
    rw [p1, p2, hσ]
    dsimp only
    rw [if_pos (by decide), vSlice_map]
    unfold alloc
    rw [if_pos]
    rw [List.length_map]
    exact Nat.le_trans (vSlice6_len ns k) (Nat.le_trans hns (Nat.le_of_ble_eq_true rfl))
  have h2 : dFlat (dApp (onList gSum) [(dStep (dName "script") (some (dName "k")) (some (dInt 6)))]) ρ σ = some (.int (vSlice ns (some (k : Int)) none (some 6)).sum, σ) := by
    refine app1_eq h1 (σ2 := σ ++ [(vSlice ns (some (k : Int)) none (some 6)).map V.int]) ?_ rfl
    unfold onList
    dsimp only
    rw [List.getElem?_append_right (Nat.le_refl _), Nat.sub_self]
    show (gSum _).map _ = _
    unfold gSum
    rw [ints_map]; rfl
  exact ⟨σ, iadd_eq (dName_eq hb) h2⟩
theorem law0 {ns : List Int} (hns : ns.length ≤ 63) {ρ : Loc} {σ : Store} {i lo : Nat} (hs : ρ "script" = some (.lst i)) (hσ : σ[i]? = some (ns.map V.int)) :
    D_law0 lo ρ σ = some (.next, upd ρ "cells" (.lst (σ.length + 1)), σ ++ [sixV] ++ [cellsOf ns]) := by
  have hL : (σ ++ [sixV]).length = σ.length + 1 := by rw [List.length_append]; rfl
  refine set_next ?_
  rw [← hL]
  have hI : dEnum (dList [(dInt 740), (dInt 5475), (dInt 2001), (dInt 4), (dInt 3000), (dInt 1006)]) ρ σ = some ([.tup [.int (0 : Nat), .int 740], .tup [.int (1 : Nat), .int 5475], .tup [.int (2 : Nat), .int 2001], .tup [.int (3 : Nat), .int 4], .tup [.int (4 : Nat), .int 3000], .tup [.int (5 : Nat), .int 1006]], σ ++ [sixV], σ.length + 1) := by
    unfold dEnum dArgs
    rw [show dList [(dInt 740), (dInt 5475), (dInt 2001), (dInt 4), (dInt 3000), (dInt 1006)] ρ σ = some (.lst σ.length, σ ++ [sixV]) from rfl]
    dsimp only [dArgs]
    rw [List.getElem?_append_right (Nat.le_refl _), Nat.sub_self]
    rfl
  have hσ' : (σ ++ [sixV])[i]? = some (ns.map V.int) := getE hσ
  refine (dComp_map (fun ρ => ρ "script" = some (.lst i)) (fun v => match v with | .tup [.int k, .int b] => .int (cellOf ns k.toNat b) | _ => .none) hI (only_get (by decide) hs) (Nat.le_of_ble_eq_true rfl) ?_).trans ?_
  · intro v hv ρ hρ
    have key : ∀ (k : Nat) (b : Int), v = .tup [.int k, .int b] → ∃ ρ1, tTup [(tName "k"), (tName "base")] v ρ = some ρ1 ∧ ρ1 "script" = some (.lst i) ∧ (∃ σ2, d2 fAdd (dName "base") (dFlat (dApp (onList gSum) [(dStep (dName "script") (some (dName "k")) (some (dInt 6)))])) ρ1 (σ ++ [sixV]) = some ((match v with | .tup [.int k, .int b] => V.int (cellOf ns k.toNat b) | _ => .none), σ2)) ∧ (match v with | .tup [.int k, .int b] => V.int (cellOf ns k.toNat b) | _ => .none).solid = true := by
      rintro k b rfl
      refine ⟨upd (upd ρ "k" (.int k)) "base" (.int b), rfl, by simp [upd, hρ], ?_, rfl⟩
      exact cell_el hns (i := i) (by simp [upd, hρ]) hσ' (by simp [upd]) (by simp [upd])
    simp only [List.mem_cons, List.not_mem_nil, or_false] at hv
    rcases hv with rfl | rfl | rfl | rfl | rfl | rfl
    · exact key 0 740 rfl
    · exact key 1 5475 rfl
    · exact key 2 2001 rfl
    · exact key 3 4 rfl
    · exact key 4 3000 rfl
    · exact key 5 1006 rfl
  · rfl
theorem tup_eq {d : Den} {ρ : Loc} {σ σ1 : Store} {v : V} (h : d ρ σ = some (v, σ1)) (hv : v.flat = false) : dFlat d ρ σ = some (v, σ1) := by
  unfold dFlat; rw [h]; dsimp only; rw [hv]; rfl
theorem unpack_eq {T : Tgt} {d : Den} {lo : Nat} {ρ ρ1 : Loc} {σ σ1 : Store} {v : V} (h : d ρ σ = some (v, σ1)) (hT : T v ρ = some ρ1) : sUnpack T d lo ρ σ = some (.next, ρ1, σ1) := by
  unfold sUnpack; rw [h]; dsimp only; rw [hT]
theorem slice2 (a b c d e f : V) : vSlice [a, b, c, d, e, f] (some 2) none none = [c, d, e, f] := by kernel_rfl
/-- the names' bounds -/
theorem law1 {ns : List Int} {ρ : Loc} {σ : Store} {i lo : Nat} (hs : ρ "script" = some (.lst i)) (hσ : σ[i]? = some (ns.map V.int)) :
    ∃ a b c d : Int, LC a b ∧ LC c d ∧ D_law1 lo ρ σ = some (.next, upd (upd (upd (upd ρ "low" (.int a)) "count" (.int b)) "other" (.int c)) "number" (.int d), σ) := by
  have hsum : dFlat (dApp (onList gSum) [(dName "script")]) ρ σ = some (.int ns.sum, σ) := by
    refine app1_eq (dName_eq hs) (σ2 := σ) ?_ rfl
    unfold onList
    dsimp only
    rw [hσ]
    show (gSum _).map _ = _
    unfold gSum
    rw [ints_map]; rfl
  have hm := imod_eq (b := dInt 3) (m := 3) hsum rfl (by decide)
  have hx : ns.sum % 3 = 0 ∨ ns.sum % 3 = 1 ∨ ns.sum % 3 = 2 := by omega
  generalize ns.sum % 3 = x at *
  have go : ∀ a b c d : Int, fItem [.tup [.tup [.int 0, .int 4, .int 0, .int 4], .tup [.int 0, .int 2, .int 2, .int 2], .tup [.int 0, .int 3, .int 2, .int 2]], .int x] σ = some (.tup [.int a, .int b, .int c, .int d], σ) →
      D_law1 lo ρ σ = some (.next, upd (upd (upd (upd ρ "low" (.int a)) "count" (.int b)) "other" (.int c)) "number" (.int d), σ) := by
    intro a b c d he
    refine unpack_eq (tup_eq (σ1 := σ) (v := .tup [.int a, .int b, .int c, .int d]) ?_ rfl) rfl
    rw [d2_eq (x := .tup [.tup [.int 0, .int 4, .int 0, .int 4], .tup [.int 0, .int 2, .int 2, .int 2], .tup [.int 0, .int 3, .int 2, .int 2]]) (σ1 := σ) rfl hm, he]
  rcases hx with rfl | rfl | rfl
  · exact ⟨0, 4, 0, 4, ⟨by decide, by decide, by decide⟩, ⟨by decide, by decide, by decide⟩, go _ _ _ _ rfl⟩
  · exact ⟨0, 2, 2, 2, ⟨by decide, by decide, by decide⟩, ⟨by decide, by decide, by decide⟩, go _ _ _ _ rfl⟩
  · exact ⟨0, 3, 2, 2, ⟨by decide, by decide, by decide⟩, ⟨by decide, by decide, by decide⟩, go _ _ _ _ rfl⟩
/-- an item at a number that is written -/
theorem item_int {n : String} {ρ : Loc} {σ : Store} {i k : Nat} {xs : List V} {v : V} (h1 : ρ n = some (.lst i)) (hσ : σ[i]? = some xs) (hk : k < 100000) (hv : xs[k]? = some v) (hf : v.flat = true) : dFlat (d2 fItem (dName n) (dInt k)) ρ σ = some (v, σ) := by
  refine flat_eq (σ1 := σ) ?_ hf
  rw [d2_eq (dName_eq h1) (y := .int k) (σ2 := σ) rfl]
  unfold fItem
  dsimp only
  rw [hσ]
  unfold pyIdx
  dsimp only
  rw [if_pos (by omega), if_pos (by omega), Int.toNat_natCast, hv]
  rfl
theorem call3_eq {g : Fn} {a b c : Den} {ρ : Loc} {σ σ' : Store} {x y z v : V} (h1 : a ρ σ = some (x, σ)) (h2 : b ρ σ = some (y, σ)) (h3 : c ρ σ = some (z, σ)) (hg : g [x, y, z] σ = some (v, σ')) (hf : v.flat = false) : dFlat (dApp g [a, b, c]) ρ σ = some (v, σ') := by
  unfold dFlat dApp
  simp only [dArgs, h1, h2, h3, hg, hf]; rfl
theorem law2 {ρ : Loc} {σ : Store} {i lo : Nat} {xs : List V} {c low count : Int} (h : LC low count) (h1 : ρ "cells" = some (.lst i)) (hσ : σ[i]? = some xs) (hv : xs[0]? = some (.int c)) (h2 : ρ "low" = some (.int low)) (h3 : ρ "count" = some (.int count)) :
    D_law2 lo ρ σ = some (.next, upd ρ "one" (fm (fmOf c low count h).g σ.length (σ.length + 1)), σ ++ [(fmOf c low count h).nl] ++ [(fmOf c low count h).sl]) :=
  set_next (call3_eq (item_int (k := 0) h1 hσ (by decide) hv rfl) (dName_eq h2) (dName_eq h3) (formula_eq h σ) rfl)
theorem law3 {ρ : Loc} {σ : Store} {i lo : Nat} {xs : List V} {c low count : Int} (h : LC low count) (h1 : ρ "cells" = some (.lst i)) (hσ : σ[i]? = some xs) (hv : xs[1]? = some (.int c)) (h2 : ρ "other" = some (.int low)) (h3 : ρ "number" = some (.int count)) :
    D_law3 lo ρ σ = some (.next, upd ρ "two" (fm (fmOf c low count h).g σ.length (σ.length + 1)), σ ++ [(fmOf c low count h).nl] ++ [(fmOf c low count h).sl]) :=
  set_next (call3_eq (item_int (k := 1) h1 hσ (by decide) hv rfl) (dName_eq h2) (dName_eq h3) (formula_eq h σ) rfl)
/-- weights -/
noncomputable def wOf (c : Nat → Int) : Nat → Nat → Int := fun i b => 1 + (if b = 0 then c i % 1000 else c i / 1000 % 1000)
theorem wOf_ok (c : Nat → Int) : WOk (wOf c) := by
  intro i b
  unfold wOf
  split <;> omega
noncomputable def restV (c : Nat → Int) : List V := [.int (c 0), .int (c 1), .int (c 2), .int (c 3)]
theorem law4 {ρ : Loc} {σ : Store} {i lo : Nat} {a b : V} {c : Nat → Int} (h1 : ρ "cells" = some (.lst i)) (hσ : σ[i]? = some (a :: b :: restV c)) :
    D_law4 lo ρ σ = some (.next, upd ρ "weights" (.lst (σ.length + 1)), σ ++ [restV c] ++ [wl (wOf c)]) := by
  have hL : (σ ++ [restV c]).length = σ.length + 1 := by rw [List.length_append]; rfl
  refine set_next ?_
  rw [← hL]
  have hS : dSliceL (dName "cells") (some (dInt 2)) none ρ σ = some (.lst σ.length, σ ++ [restV c]) := by
    unfold dSliceL
    rw [dName_eq h1]
    dsimp only
    rw [show dPart (some (dInt 2)) ρ σ = some (some 2) from rfl, show dPart none ρ σ = some none from rfl, hσ]
    dsimp only
    rw [show vSlice (a :: b :: restV c) (some 2) none none = restV c from slice2 _ _ _ _ _ _]
    rfl
  have hI : dIter (dSliceL (dName "cells") (some (dInt 2)) none) ρ σ = some (restV c, σ ++ [restV c], σ.length + 1) := by
    unfold dIter
    rw [hS]
    dsimp only
    rw [List.getElem?_append_right (Nat.le_refl _), Nat.sub_self]
    rfl
  refine (dComp_map (fun _ => True) (fun v => match v with | .int x => .tup [.int (1 + x % 1000), .int (1 + x / 1000 % 1000)] | _ => .none) hI trivial (Nat.le_of_ble_eq_true rfl) ?_).trans rfl
  intro v hv ρ _
  have key : ∀ x : Int, v = .int x → ∃ ρ1, tName "cell" v ρ = some ρ1 ∧ True ∧ (∃ σ2, dTup [(d2 fAdd (dInt 1) (d2 (f2 (int2 gMod)) (dName "cell") (dInt 1000))), (d2 fAdd (dInt 1) (d2 (f2 (int2 gMod)) (d2 (f2 (int2 gDiv)) (dName "cell") (dInt 1000)) (dInt 1000)))] ρ1 (σ ++ [restV c]) = some ((match v with | .int x => V.tup [.int (1 + x % 1000), .int (1 + x / 1000 % 1000)] | _ => .none), σ2)) ∧ (match v with | .int x => V.tup [.int (1 + x % 1000), .int (1 + x / 1000 % 1000)] | _ => .none).solid = true := by
    rintro x rfl
    refine ⟨upd ρ "cell" (.int x), rfl, trivial, ⟨σ ++ [restV c], ?_⟩, rfl⟩
    rfl
  simp only [restV, List.mem_cons, List.not_mem_nil, or_false] at hv
  rcases hv with rfl | rfl | rfl | rfl <;> exact key _ rfl
end Mine
end

section
open PySem PySem.W PyProof.Rows PySem.Calls
set_option Elab.async false
set_option autoImplicit false
set_option maxRecDepth 100000
set_option maxHeartbeats 400000
namespace Mine
/-- the tables -/
theorem law5 (φ : Fm) {ρ : Loc} {σ : Store} {i j lo : Nat} (h : ρ "one" = some (fm φ.g i j)) (hn : i ≠ j) (h1 : σ[i]? = some φ.nl) (h2 : σ[j]? = some φ.sl) :
    D_law5 lo ρ σ = some (.next, upd ρ "f" (.lst σ.length), σ ++ [tb φ.f]) := by
  refine set_next ?_
  refine compN (n := 16) (by decide) (fun ρ => ρ "one" = some (fm φ.g i j)) (fun c => V.int (b2i (φ.f c))) (only_get (by decide) h) (fun ρ v h => by simp [upd, h]) ?_ (fun _ _ => rfl)
  intro c hc ρ e1 e2
  exact ⟨σ, app2_eq (dName_eq e1) (dName_eq e2) (K_truth_eq φ hn h1 h2) rfl⟩
theorem law6 (φ : Fm) {ρ : Loc} {σ : Store} {i j lo : Nat} (h : ρ "two" = some (fm φ.g i j)) (hn : i ≠ j) (h1 : σ[i]? = some φ.nl) (h2 : σ[j]? = some φ.sl) :
    D_law6 lo ρ σ = some (.next, upd ρ "g" (.lst σ.length), σ ++ [tb φ.f]) := by
  refine set_next ?_
  refine compN (n := 16) (by decide) (fun ρ => ρ "two" = some (fm φ.g i j)) (fun c => V.int (b2i (φ.f c))) (only_get (by decide) h) (fun ρ v h => by simp [upd, h]) ?_ (fun _ _ => rfl)
  intro c hc ρ e1 e2
  exact ⟨σ, app2_eq (dName_eq e1) (dName_eq e2) (K_truth_eq φ hn h1 h2) rfl⟩
theorem imul_eq {a b : Den} {ρ : Loc} {σ σ1 σ2 : Store} {x y : Int} (h : a ρ σ = some (.int x, σ1)) (h2 : b ρ σ1 = some (.int y, σ2)) (hy : y.natAbs < 2 ^ 62) : d2 fMul a b ρ σ = some (.int (x * y), σ2) := by
  rw [d2_eq h h2]
  unfold fMul
  dsimp only
  rw [if_pos hy]
theorem isub_eq {b : Den} {ρ : Loc} {σ σ1 : Store} {x y : Int} (h2 : b ρ σ = some (.int y, σ1)) : d2 (f2 (int2 gSub)) (dInt x) b ρ σ = some (.int (x - y), σ1) := by
  rw [d2_eq (x := .int x) (σ1 := σ) rfl h2]; rfl
theorem b2i_small (b : Bool) : (b2i b).natAbs < 2 ^ 62 := by cases b <;> decide
theorem args_nil {ρ : Loc} {σ : Store} : dArgs [] ρ σ = some ([], σ) := rfl
theorem args_cons {d : Den} {ds : List Den} {ρ : Loc} {σ σ1 σ2 : Store} {v : V} {vs : List V} (h : d ρ σ = some (v, σ1)) (h2 : dArgs ds ρ σ1 = some (vs, σ2)) : dArgs (d :: ds) ρ σ = some (v :: vs, σ2) := by
  simp only [dArgs, h, h2]
theorem list_eq {Ds : List Den} {ρ : Loc} {σ σ1 : Store} {vs : List V} (h : dArgs Ds ρ σ = some (vs, σ1)) (hc : vs.length ≤ cap) : dList Ds ρ σ = some (.lst σ1.length, σ1 ++ [vs]) := by
  unfold dList dApp
  simp only [h]
  unfold alloc
  rw [if_pos hc]
theorem tuple_eq {Ds : List Den} {ρ : Loc} {σ σ1 : Store} {vs : List V} (h : dArgs Ds ρ σ = some (vs, σ1)) (hc : vs.length ≤ cap) : dTup Ds ρ σ = some (.tup vs, σ1) := by
  unfold dTup dApp
  simp only [h]
  unfold fTup
  rw [if_pos hc]
theorem ones_is (p : Nat → Bool) (h : ∀ c, p c = true) : tb p = List.flatten (List.replicate 16 [V.int 1]) := by
  unfold tb
  rw [show (fun c => V.int (b2i (p c))) = fun _ => V.int 1 from funext fun c => by rw [h]; rfl]
  rfl
theorem law7 {p q : Nat → Bool} {ρ : Loc} {σ : Store} {i j lo : Nat} (h1 : ρ "f" = some (.lst i)) (h2 : ρ "g" = some (.lst j)) (hi : σ[i]? = some (tb p)) (hj : σ[j]? = some (tb q)) :
    D_law7 lo ρ σ = some (.next, upd ρ "dues" (.lst (σ.length + 5)), σ ++ [tb fun c => p c && q c] ++ [tb fun c => p c && !q c] ++ [tb fun c => !q c] ++ [[V.int 1]] ++ [tb fun c => p c || !p c] ++ [[.lst i, .lst j, .lst σ.length, .lst (σ.length + 1), .lst (σ.length + 2), .lst (σ.length + 4)]]) := by
  have two : ∀ (σ : Store), σ[i]? = some (tb p) → σ[j]? = some (tb q) → dComp (dRange (dInt 16)) ["f", "g"] (tName "c") tYes (d2 fMul (dFlat (d2 fItem (dName "f") (dName "c"))) (dFlat (d2 fItem (dName "g") (dName "c")))) ρ σ = some (.lst σ.length, σ ++ [tb fun c => p c && q c]) := by
    intro σ hi hj
    refine compN (n := 16) (by decide) (fun ρ => ρ "f" = some (.lst i) ∧ ρ "g" = some (.lst j)) (fun c => V.int (b2i (p c && q c))) ⟨only_get (by decide) h1, only_get (by decide) h2⟩ (fun ρ v h => ⟨by simp [upd, h.1], by simp [upd, h.2]⟩) ?_ (fun _ _ => rfl)
    rintro c hc ρ ⟨e1, e2⟩ e3
    have := imul_eq (item_lst e1 e3 hi (tb_get p hc) (by omega) rfl) (item_lst e2 e3 hj (tb_get q hc) (by omega) rfl) (b2i_small _)
    refine ⟨σ, this.trans ?_⟩
    cases p c <;> cases q c <;> rfl
  have three : ∀ (σ : Store), σ[i]? = some (tb p) → σ[j]? = some (tb q) → dComp (dRange (dInt 16)) ["f", "g"] (tName "c") tYes (d2 fMul (dFlat (d2 fItem (dName "f") (dName "c"))) (d2 (f2 (int2 gSub)) (dInt 1) (dFlat (d2 fItem (dName "g") (dName "c"))))) ρ σ = some (.lst σ.length, σ ++ [tb fun c => p c && !q c]) := by
    intro σ hi hj
    refine compN (n := 16) (by decide) (fun ρ => ρ "f" = some (.lst i) ∧ ρ "g" = some (.lst j)) (fun c => V.int (b2i (p c && !q c))) ⟨only_get (by decide) h1, only_get (by decide) h2⟩ (fun ρ v h => ⟨by simp [upd, h.1], by simp [upd, h.2]⟩) ?_ (fun _ _ => rfl)
    rintro c hc ρ ⟨e1, e2⟩ e3
    have := imul_eq (item_lst e1 e3 hi (tb_get p hc) (by omega) rfl) (isub_eq (x := 1) (item_lst e2 e3 hj (tb_get q hc) (by omega) rfl)) (by cases q c <;> decide)
    refine ⟨σ, this.trans ?_⟩
    cases p c <;> cases q c <;> rfl
  have four : ∀ (σ : Store), σ[j]? = some (tb q) → dComp (dRange (dInt 16)) ["g"] (tName "c") tYes (d2 (f2 (int2 gSub)) (dInt 1) (dFlat (d2 fItem (dName "g") (dName "c")))) ρ σ = some (.lst σ.length, σ ++ [tb fun c => !q c]) := by
    intro σ hj
    refine compN (n := 16) (by decide) (fun ρ => ρ "g" = some (.lst j)) (fun c => V.int (b2i (!q c))) (only_get (by decide) h2) (fun ρ v h => by simp [upd, h]) ?_ (fun _ _ => rfl)
    rintro c hc ρ e2 e3
    have := isub_eq (x := 1) (item_lst e2 e3 hj (tb_get q hc) (by omega) rfl)
    refine ⟨σ, this.trans ?_⟩
    cases q c <;> rfl
  have five : ∀ (σ : Store), d2 fMul (dList [(dInt 1)]) (dInt 16) ρ σ = some (.lst (σ.length + 1), σ ++ [[V.int 1]] ++ [tb fun c => p c || !p c]) := by
    intro σ
    have hL : (σ ++ [[V.int 1]]).length = σ.length + 1 := by rw [List.length_append]; rfl
    rw [d2_eq (x := .lst σ.length) (σ1 := σ ++ [[V.int 1]]) (y := .int 16) (σ2 := σ ++ [[V.int 1]]) rfl rfl]
    unfold fMul
    dsimp only
    rw [List.getElem?_append_right (Nat.le_refl _), Nat.sub_self]
    dsimp only [List.getElem?_cons_zero]
    rw [if_pos (by decide), ones_is _ (fun c => by cases p c <;> rfl)]
    unfold alloc
    rw [if_pos (Nat.le_of_ble_eq_true rfl), hL]
    rfl
  refine set_next ?_
  have L1 : (σ ++ [tb fun c => p c && q c]).length = σ.length + 1 := by rw [List.length_append]; rfl
  have L2 : (σ ++ [tb fun c => p c && q c] ++ [tb fun c => p c && !q c]).length = σ.length + 2 := by rw [List.length_append, L1]; rfl
  have L3 : (σ ++ [tb fun c => p c && q c] ++ [tb fun c => p c && !q c] ++ [tb fun c => !q c]).length = σ.length + 3 := by rw [List.length_append, L2]; rfl
  have L5 : (σ ++ [tb fun c => p c && q c] ++ [tb fun c => p c && !q c] ++ [tb fun c => !q c] ++ [[V.int 1]] ++ [tb fun c => p c || !p c]).length = σ.length + 5 := by rw [List.length_append, List.length_append, L3]; rfl
  have x1 := two σ hi hj
  have x2 := three (σ ++ [tb fun c => p c && q c]) (getE hi) (getE hj)
  have x3 := four (σ ++ [tb fun c => p c && q c] ++ [tb fun c => p c && !q c]) (getE (getE hj))
  have x4 := five (σ ++ [tb fun c => p c && q c] ++ [tb fun c => p c && !q c] ++ [tb fun c => !q c])
  rw [L1] at x2
  rw [L2] at x3
  rw [L3] at x4
  rw [list_eq (args_cons (dName_eq h1) (args_cons (dName_eq h2) (args_cons x1 (args_cons x2 (args_cons x3 (args_cons x4 args_nil)))))) (Nat.le_of_ble_eq_true rfl), L5]
theorem law8 (φ ψ : Fm) {ρ : Loc} {σ : Store} {i j i2 j2 lo : Nat} (h : ρ "one" = some (fm φ.g i j)) (hn : i ≠ j) (h1 : σ[i]? = some φ.nl) (h2 : σ[j]? = some φ.sl) (g : ρ "two" = some (fm ψ.g i2 j2)) (gn : i2 ≠ j2) (g1 : σ[i2]? = some ψ.nl) (g2 : σ[j2]? = some ψ.sl) :
    D_law8 lo ρ σ = some (.next, upd (upd ρ "tail" (.str (S (ψ.tks.map Tm.code)))) "head" (.str (S (φ.tks.map Tm.code))), σ) := by
  have x1 : dFlat (dApp K_text [(dName "one")]) ρ σ = some (.str (S (φ.tks.map Tm.code)), σ) := app1_eq (dName_eq h) (K_text_eq φ hn h1 h2) rfl
  have x2 : dFlat (dApp K_text [(dName "two")]) ρ σ = some (.str (S (ψ.tks.map Tm.code)), σ) := app1_eq (dName_eq g) (K_text_eq ψ gn g1 g2) rfl
  have x3 : dTup [(dFlat (dApp K_text [(dName "one")])), (dFlat (dApp K_text [(dName "two")]))] ρ σ = some (.tup [.str (S (φ.tks.map Tm.code)), .str (S (ψ.tks.map Tm.code))], σ) := by
    exact tuple_eq (args_cons x1 (args_cons x2 args_nil)) (Nat.le_of_ble_eq_true rfl)
  unfold D_law8 sSwap
  rw [x3]
theorem sadd_eq {a b : Den} {ρ : Loc} {σ : Store} {x y : List Nat} (h : a ρ σ = some (.str (S x), σ)) (h2 : b ρ σ = some (.str (S y), σ)) (hl : x.length + y.length ≤ 100000) : d2 fAdd a b ρ σ = some (.str (S (x ++ y)), σ) := by
  rw [d2_eq h h2]; exact add_str hl
noncomputable def textsV (φ ψ : Fm) : List V := [.str (S ((txt φ ψ 0).map Tm.code)), .str (S ((txt φ ψ 1).map Tm.code)), .str (S ((txt φ ψ 2).map Tm.code)), .str (S ((txt φ ψ 3).map Tm.code)), .str (S ((txt φ ψ 4).map Tm.code)), .str (S ((txt φ ψ 5).map Tm.code))]
theorem law9 (φ ψ : Fm) {ρ : Loc} {σ : Store} {lo : Nat} (h1 : ρ "head" = some (.str (S (φ.tks.map Tm.code)))) (h2 : ρ "tail" = some (.str (S (ψ.tks.map Tm.code)))) :
    D_law9 lo ρ σ = some (.next, upd ρ "texts" (.lst σ.length), σ ++ [textsV φ ψ]) := by
  have l1 : (φ.tks.map Tm.code).length ≤ 9 := by rw [List.length_map]; exact φ.len
  have l2 : (ψ.tks.map Tm.code).length ≤ 9 := by rw [List.length_map]; exact ψ.len
  have e0 : φ.tks.map Tm.code = (txt φ ψ 0).map Tm.code := rfl
  have e1 : ψ.tks.map Tm.code = (txt φ ψ 1).map Tm.code := rfl
  have e2 : [40] ++ φ.tks.map Tm.code ++ [41, 38, 40] ++ ψ.tks.map Tm.code ++ [41] = (txt φ ψ 2).map Tm.code := by
    simp [txt, Tm.code]
  have e3 : [40] ++ φ.tks.map Tm.code ++ [41, 38, 126, 40] ++ ψ.tks.map Tm.code ++ [41] = (txt φ ψ 3).map Tm.code := by
    simp [txt, Tm.code]
  have e4 : [126, 40] ++ ψ.tks.map Tm.code ++ [41] = (txt φ ψ 4).map Tm.code := by
    simp [txt, Tm.code]
  have e5 : φ.tks.map Tm.code ++ [124, 126, 40] ++ φ.tks.map Tm.code ++ [41] = (txt φ ψ 5).map Tm.code := by
    simp [txt, Tm.code]
  have n1 := dName_eq (σ := σ) h1
  have n2 := dName_eq (σ := σ) h2
  have y2 := sadd_eq (sadd_eq (sadd_eq (sadd_eq (a := dStr "(") (x := [40]) rfl n1 (by simp only [List.length_cons, List.length_nil]; omega)) (b := dStr ")&(") (y := [41, 38, 40]) rfl (by simp only [List.length_append, List.length_cons, List.length_nil]; omega)) n2 (by simp only [List.length_append, List.length_cons, List.length_nil]; omega)) (b := dStr ")") (y := [41]) rfl (by simp only [List.length_append, List.length_cons, List.length_nil]; omega)
  have y3 := sadd_eq (sadd_eq (sadd_eq (sadd_eq (a := dStr "(") (x := [40]) rfl n1 (by simp only [List.length_cons, List.length_nil]; omega)) (b := dStr ")&~(") (y := [41, 38, 126, 40]) rfl (by simp only [List.length_append, List.length_cons, List.length_nil]; omega)) n2 (by simp only [List.length_append, List.length_cons, List.length_nil]; omega)) (b := dStr ")") (y := [41]) rfl (by simp only [List.length_append, List.length_cons, List.length_nil]; omega)
  have y4 := sadd_eq (sadd_eq (a := dStr "~(") (x := [126, 40]) rfl n2 (by simp only [List.length_cons, List.length_nil]; omega)) (b := dStr ")") (y := [41]) rfl (by simp only [List.length_append, List.length_cons, List.length_nil]; omega)
  have y5 := sadd_eq (sadd_eq (sadd_eq n1 (b := dStr "|~(") (y := [124, 126, 40]) rfl (by simp only [List.length_cons, List.length_nil]; omega)) n1 (by simp only [List.length_append, List.length_cons, List.length_nil]; omega)) (b := dStr ")") (y := [41]) rfl (by simp only [List.length_append, List.length_cons, List.length_nil]; omega)
  rw [e2] at y2
  rw [e3] at y3
  rw [e4] at y4
  rw [e5] at y5
  rw [e0] at n1
  rw [e1] at n2
  refine set_next ?_
  exact list_eq (args_cons n1 (args_cons n2 (args_cons y2 (args_cons y3 (args_cons y4 (args_cons y5 args_nil)))))) (Nat.le_of_ble_eq_true rfl)
theorem law10 {ρ : Loc} {σ : Store} {lo : Nat} : D_law10 lo ρ σ = some (.next, upd ρ "heaps" (.lst σ.length), σ ++ [[]]) := rfl
end Mine
end

section
open PySem PySem.W PyProof.Rows PySem.Calls
set_option Elab.async false
set_option autoImplicit false
set_option maxRecDepth 100000
set_option maxHeartbeats 400000
namespace Mine
/-- the turn of the first loop, piece by piece -/
noncomputable def tRows : Tst := t2 fNe (dName "rows") (dList [(dFlat (dApp (onList gSum) [(dComp (dRange (dInt 16)) ["due"] (tName "c") tYes (d2 fMul (dFlat (d2 fItem (dName "due") (dName "c"))) (d2 (f2 (int2 gPow)) (dInt 2) (dName "c"))))]))])
noncomputable def tEof : Tst := tOr (t2 (f2 gIsNot) (dFlat (dApp K_ISEOF [(dFlat (d2 fItem (dName "rows") (dInt 0)))])) (d2 (f2 gEq) (dFlat (dApp (onList gSum) [(dName "due")])) (dInt 0))) (t2 (f2 gIsNot) (dFlat (dApp K_ISNONTERMINAL [(dFlat (d2 fItem (dName "rows") (dInt 0)))])) (d2 cGt (dFlat (dApp (onList gSum) [(dSliceL (dName "due") (some (dInt 8)) none)])) (dInt 0)))
noncomputable def dWord : Den := dFlat (dApp (f1 gDecode) [(dFlat (dApp K_Int2AP [(dIf (dTruth (d2 (f2 (int2 gMod)) (dFlat (d2 fItem (dName "rows") (dInt 0))) (dInt 2))) (dFlat (d2 fItem (dName "rows") (dInt 0))) (d1 (f1 gNeg) (dFlat (d2 fItem (dName "rows") (dInt 0)))))]))])
noncomputable def dWeigh : Den := dFlat (dApp K_weighed [(dSliceS (d2 fAdd (dStr "AAAA") (dName "word")) (some (d1 (f1 gNeg) (dInt 4))) none), (dName "weights")])
noncomputable def dHeavy : Den := dComp (dRange (dInt 16)) ["weights", "due"] (tName "c") tYes (d2 fMul (d2 fMul (d2 fMul (d2 fMul (dFlat (d2 fItem (dName "due") (dName "c"))) (dFlat (d2 fItem (dFlat (d2 fItem (dName "weights") (dInt 0))) (d2 (f2 (int2 gMod)) (dName "c") (dInt 2))))) (dFlat (d2 fItem (dFlat (d2 fItem (dName "weights") (dInt 1))) (d2 (f2 (int2 gMod)) (d2 (f2 (int2 gDiv)) (dName "c") (dInt 2)) (dInt 2))))) (dFlat (d2 fItem (dFlat (d2 fItem (dName "weights") (dInt 2))) (d2 (f2 (int2 gMod)) (d2 (f2 (int2 gDiv)) (dName "c") (dInt 4)) (dInt 2))))) (dFlat (d2 fItem (dFlat (d2 fItem (dName "weights") (dInt 3))) (d2 (f2 (int2 gDiv)) (dName "c") (dInt 8)))))
noncomputable def tHeavy : Tst := tOr (t2 (f2 gEq) (dSliceS (dName "word") none (some (dInt 1))) (dStr "A")) (t2 fNe (dFlat (d2 fItem (dName "heaps") (d1 (f1 gNeg) (dInt 1)))) (dFlat (dApp (onList gSum) [(dName "heavy")])))
noncomputable def sBad : SDen := sSeq (sRet (dBool false)) sDone
noncomputable def lTurn : SDen := sSeq (sSet "rows" (mOf (dFlat (dApp K_told [(dName "text")])))) (sSeq (sIf tRows sBad sDone) (sSeq (sIf tEof sBad sDone) (sSeq (sSet "word" (mOf dWord)) (sSeq (sDrop (mApp (dName "heaps") (mOf dWeigh))) (sSeq (sSet "heavy" (mOf dHeavy)) (sSeq (sIf tHeavy sBad sDone) sDone))))))
theorem law11_is : D_law11 = sFor (dZip (dName "texts") (dName "dues")) (tTup [(tName "text"), (tName "due")]) lTurn := rfl
theorem sum_lst {n : String} {ρ : Loc} {σ : Store} {i : Nat} {xs : List V} {ns : List Int} (h : ρ n = some (.lst i)) (hσ : σ[i]? = some xs) (hx : ints? xs = some ns) : dFlat (dApp (onList gSum) [(dName n)]) ρ σ = some (.int ns.sum, σ) := by
  refine app1_eq (dName_eq h) (σ2 := σ) ?_ rfl
  unfold onList
  dsimp only
  rw [hσ]
  show (gSum _).map _ = _
  unfold gSum
  rw [hx]; rfl
theorem sum_den {d : Den} {ρ : Loc} {σ σ1 : Store} {i : Nat} {xs : List V} {ns : List Int} (h : d ρ σ = some (.lst i, σ1)) (hσ : σ1[i]? = some xs) (hx : ints? xs = some ns) : dFlat (dApp (onList gSum) [d]) ρ σ = some (.int ns.sum, σ) := by
  refine app1_eq h (σ2 := σ1) ?_ rfl
  unfold onList
  dsimp only
  rw [hσ]
  show (gSum _).map _ = _
  unfold gSum
  rw [hx]; rfl
theorem last_get {σ : Store} {xs : List V} : (σ ++ [xs])[σ.length]? = some xs := by
  rw [List.getElem?_append_right (Nat.le_refl _), Nat.sub_self]; rfl
theorem pow_small {c : Nat} (h : c < 16) : ((2 : Int) ^ c).natAbs < 2 ^ 62 := by
  have : ∀ c : Fin 16, ((2 : Int) ^ c.1).natAbs < 2 ^ 62 := by decide
  exact this ⟨c, h⟩
theorem mk_range (q : Nat → Bool) : ((List.range 16).map fun (c : Nat) => b2i (q c) * 2 ^ c).sum = mk q := by
  rw [mk_sum q 16, mk_def]
theorem tRows_eq {q : Nat → Bool} {ρ : Loc} {σ : Store} {r d : Nat} (h1 : ρ "rows" = some (.lst r)) (h2 : σ[r]? = some [.int (mk q)]) (h3 : ρ "due" = some (.lst d)) (h4 : σ[d]? = some (tb q)) : tRows ρ σ = some false := by
  have hc : dComp (dRange (dInt 16)) ["due"] (tName "c") tYes (d2 fMul (dFlat (d2 fItem (dName "due") (dName "c"))) (d2 (f2 (int2 gPow)) (dInt 2) (dName "c"))) ρ σ = some (.lst σ.length, σ ++ [(List.range 16).map fun c => V.int (b2i (q c) * 2 ^ c)]) := by
    refine compN (n := 16) (by decide) (fun ρ => ρ "due" = some (.lst d)) (fun c => V.int (b2i (q c) * 2 ^ c)) (only_get (by decide) h3) (fun ρ v h => by simp [upd, h]) ?_ (fun _ _ => rfl)
    intro c hc ρ e1 e2
    exact ⟨σ, imul_eq (item_lst e1 e2 h4 (tb_get q hc) (by omega) rfl) (ipow_eq e2 (by omega) (by decide) (by decide)) (pow_small hc)⟩
  have hs : dFlat (dApp (onList gSum) [(dComp (dRange (dInt 16)) ["due"] (tName "c") tYes (d2 fMul (dFlat (d2 fItem (dName "due") (dName "c"))) (d2 (f2 (int2 gPow)) (dInt 2) (dName "c"))))]) ρ σ = some (.int (mk q), σ) := by
    refine (sum_den hc last_get (ns := (List.range 16).map fun (c : Nat) => b2i (q c) * 2 ^ c) ?_).trans ?_
    · have := ints_map ((List.range 16).map fun (c : Nat) => b2i (q c) * 2 ^ c)
      rwa [List.map_map] at this
    · rw [mk_range]
  have hl := list_eq (args_cons hs args_nil) (Nat.le_of_ble_eq_true rfl)
  refine t2_eq (dName_eq h1) hl (σ3 := σ ++ [[V.int (mk q)]]) ?_
  unfold fNe
  dsimp only
  rw [getE h2, last_get]
  dsimp only
  show some (V.bool (!decide ([mk q] = [mk q])), _) = _
  rw [decide_eq_true rfl]; rfl
noncomputable def sumB (q : Nat → Bool) : Int := ((List.range 16).map fun c => b2i (q c)).sum
noncomputable def sumB8 (q : Nat → Bool) : Int := b2i (q 8) + (b2i (q 9) + (b2i (q 10) + (b2i (q 11) + (b2i (q 12) + (b2i (q 13) + (b2i (q 14) + (b2i (q 15) + 0)))))))
theorem b2i_01 (b : Bool) : 0 ≤ b2i b ∧ b2i b ≤ 1 := by cases b <;> decide
theorem mk_exp (q : Nat → Bool) : mk q = b2i (q 0) * 1 + (b2i (q 1) * 2 + (b2i (q 2) * 4 + (b2i (q 3) * 8 + (b2i (q 4) * 16 + (b2i (q 5) * 32 + (b2i (q 6) * 64 + (b2i (q 7) * 128 + (b2i (q 8) * 256 + (b2i (q 9) * 512 + (b2i (q 10) * 1024 + (b2i (q 11) * 2048 + (b2i (q 12) * 4096 + (b2i (q 13) * 8192 + (b2i (q 14) * 16384 + (b2i (q 15) * 32768 + 0))))))))))))))) := by
  rw [← mk_range]; rfl
theorem sumB_exp (q : Nat → Bool) : sumB q = b2i (q 0) + (b2i (q 1) + (b2i (q 2) + (b2i (q 3) + (b2i (q 4) + (b2i (q 5) + (b2i (q 6) + (b2i (q 7) + sumB8 q))))))) := rfl
theorem eof_fact (q : Nat → Bool) : decide (mk q = 0) = (sumB q == 0) := by
  have h : mk q = 0 ↔ sumB q = 0 := by
    rw [mk_exp, sumB_exp]
    unfold sumB8
    have := b2i_01 (q 0)
    have := b2i_01 (q 1)
    have := b2i_01 (q 2)
    have := b2i_01 (q 3)
    have := b2i_01 (q 4)
    have := b2i_01 (q 5)
    have := b2i_01 (q 6)
    have := b2i_01 (q 7)
    have := b2i_01 (q 8)
    have := b2i_01 (q 9)
    have := b2i_01 (q 10)
    have := b2i_01 (q 11)
    have := b2i_01 (q 12)
    have := b2i_01 (q 13)
    have := b2i_01 (q 14)
    have := b2i_01 (q 15)
    omega
  by_cases e : mk q = 0
  · rw [decide_eq_true e, h.mp e]; rfl
  · rw [decide_eq_false e]
    exact (beq_eq_false_iff_ne.mpr fun x => e (h.mpr x)).symm
theorem non_fact (q : Nat → Bool) : decide (256 ≤ mk q) = decide (0 < sumB8 q) := by
  have h : 256 ≤ mk q ↔ 0 < sumB8 q := by
    rw [mk_exp]
    unfold sumB8
    have := b2i_01 (q 0)
    have := b2i_01 (q 1)
    have := b2i_01 (q 2)
    have := b2i_01 (q 3)
    have := b2i_01 (q 4)
    have := b2i_01 (q 5)
    have := b2i_01 (q 6)
    have := b2i_01 (q 7)
    have := b2i_01 (q 8)
    have := b2i_01 (q 9)
    have := b2i_01 (q 10)
    have := b2i_01 (q 11)
    have := b2i_01 (q 12)
    have := b2i_01 (q 13)
    have := b2i_01 (q 14)
    have := b2i_01 (q 15)
    omega
  exact decide_eq_decide.mpr h
theorem tOr_ff {a b : Tst} {ρ : Loc} {σ : Store} (h1 : a ρ σ = some false) (h2 : b ρ σ = some false) : tOr a b ρ σ = some false := by
  unfold tOr; rw [h1]; exact h2
theorem tb_slice8 (q : Nat → Bool) : vSlice (tb q) (some 8) none none = [V.int (b2i (q 8)), V.int (b2i (q 9)), V.int (b2i (q 10)), V.int (b2i (q 11)), V.int (b2i (q 12)), V.int (b2i (q 13)), V.int (b2i (q 14)), V.int (b2i (q 15))] := by kernel_rfl
theorem isnot_eq {a b : Bool} {d e : Den} {ρ : Loc} {σ σ1 σ2 : Store} (h1 : d ρ σ = some (.bool a, σ1)) (h2 : e ρ σ1 = some (.bool b, σ2)) (h : a = b) : t2 (f2 gIsNot) d e ρ σ = some false := by
  refine t2_eq h1 h2 (σ3 := σ2) ?_
  subst h
  show some (V.bool (!(a == a)), σ2) = _
  rw [beq_self_eq_true]; rfl
theorem tEof_eq {q : Nat → Bool} {ρ : Loc} {σ : Store} {r d : Nat} (h1 : ρ "rows" = some (.lst r)) (h2 : σ[r]? = some [.int (mk q)]) (h3 : ρ "due" = some (.lst d)) (h4 : σ[d]? = some (tb q)) : tEof ρ σ = some false := by
  have hr : dFlat (d2 fItem (dName "rows") (dInt 0)) ρ σ = some (.int (mk q), σ) := item_int (k := 0) h1 h2 (by decide) rfl rfl
  have s1 : dFlat (dApp (onList gSum) [(dName "due")]) ρ σ = some (.int (sumB q), σ) := sum_lst h3 h4 (by
    have := ints_map ((List.range 16).map fun c => b2i (q c))
    rwa [List.map_map] at this)
  have hS : dSliceL (dName "due") (some (dInt 8)) none ρ σ = some (.lst σ.length, σ ++ [[V.int (b2i (q 8)), V.int (b2i (q 9)), V.int (b2i (q 10)), V.int (b2i (q 11)), V.int (b2i (q 12)), V.int (b2i (q 13)), V.int (b2i (q 14)), V.int (b2i (q 15))]]) := by
    unfold dSliceL
    rw [dName_eq h3]
    dsimp only
    rw [show dPart (some (dInt 8)) ρ σ = some (some 8) from rfl, show dPart none ρ σ = some none from rfl, h4]
    dsimp only
    rw [tb_slice8]
    rfl
  have s2 : dFlat (dApp (onList gSum) [(dSliceL (dName "due") (some (dInt 8)) none)]) ρ σ = some (.int (sumB8 q), σ) := sum_den hS last_get rfl
  have k1 : dFlat (dApp K_ISEOF [(dFlat (d2 fItem (dName "rows") (dInt 0)))]) ρ σ = some (.bool (decide (mk q = 0)), σ) := app1_eq hr (σ2 := σ) rfl rfl
  have k2 : dFlat (dApp K_ISNONTERMINAL [(dFlat (d2 fItem (dName "rows") (dInt 0)))]) ρ σ = some (.bool (decide (256 ≤ mk q)), σ) := app1_eq hr (σ2 := σ) rfl rfl
  have v1 : d2 (f2 gEq) (dFlat (dApp (onList gSum) [(dName "due")])) (dInt 0) ρ σ = some (.bool (sumB q == 0), σ) := by
    rw [d2_eq s1 (y := .int 0) (σ2 := σ) rfl]; rfl
  have v2 : d2 cGt (dFlat (dApp (onList gSum) [(dSliceL (dName "due") (some (dInt 8)) none)])) (dInt 0) ρ σ = some (.bool (decide (0 < sumB8 q)), σ) := by
    rw [d2_eq s2 (y := .int 0) (σ2 := σ) rfl]; rfl
  exact tOr_ff (isnot_eq k1 v1 (eof_fact q)) (isnot_eq k2 v2 (non_fact q))
theorem word_of {n : Nat} {x : Int} {σ : Store} (hlt : n < 65536) (ha : x.natAbs = n) {d : Den} {ρ : Loc} (hx : d ρ σ = some (.int x, σ)) : dFlat (dApp (f1 gDecode) [(dFlat (dApp K_Int2AP [d]))]) ρ σ = some (.str (S (word n)), σ) := by
  have hb : x.natAbs < 65536 := by rw [ha]; exact hlt
  have h3 := app1_eq (σ2 := σ) hx (K_Int2AP_eq (i := x) σ hb) rfl
  have hl : (hexW n).length ≤ 1000 := by
    have := word_len n
    unfold word at this
    rw [List.length_map] at this
    omega
  refine app1_eq (σ2 := σ) h3 ?_ rfl
  rw [ha, hex_is hlt]
  show (gDecode (.bytes (bd (hexW n)))).map (·, σ) = _
  rw [decode_bd hl (hexW_lt hlt)]
  rfl
theorem mkN_16 (q : Nat → Bool) : mkN 16 q < 65536 := mkN_lt q 16
theorem mk_N (q : Nat → Bool) : mk q = (mkN 16 q : Nat) := mk_def q
theorem dWord_eq {q : Nat → Bool} {ρ : Loc} {σ : Store} {r : Nat} (h1 : ρ "rows" = some (.lst r)) (h2 : σ[r]? = some [.int (mk q)]) : dWord ρ σ = some (.str (S (word (mkN 16 q))), σ) := by
  have hr : dFlat (d2 fItem (dName "rows") (dInt 0)) ρ σ = some (.int (mk q), σ) := item_int (k := 0) h1 h2 (by decide) rfl rfl
  have hlt := mkN_16 q
  have hmk := mk_N q
  generalize mkN 16 q = n at *
  generalize mk q = m at *
  have ht : dTruth (d2 (f2 (int2 gMod)) (dFlat (d2 fItem (dName "rows") (dInt 0))) (dInt 2)) ρ σ = some (decide (m % 2 ≠ 0)) := by
    unfold dTruth
    rw [imod_eq hr (b := dInt 2) (m := 2) rfl (by decide)]
    rfl
  cases hb : decide (m % 2 ≠ 0) with
  | true =>
    refine word_of hlt (x := m) (by omega) ?_
    rw [dIf_eq ht, hb]
    exact hr
  | false =>
    refine word_of hlt (x := -m) (by omega) ?_
    rw [dIf_eq ht, hb]
    exact (d1_eq hr).trans rfl
theorem dWeigh_eq {W : Nat → Nat → Int} (hW : WOk W) {q : Nat → Bool} {ρ : Loc} {σ : Store} {w : Nat} (h1 : ρ "word" = some (.str (S (word (mkN 16 q))))) (h2 : ρ "weights" = some (.lst w)) (h3 : σ[w]? = some (wl W)) : dWeigh ρ σ = some (.int (mu W q), σ) := by
  have hlt : mkN 16 q < 65536 := mkN_lt q 16
  have hl := word_len (mkN 16 q)
  have a1 : d2 fAdd (dStr "AAAA") (dName "word") ρ σ = some (.str (S ([65, 65, 65, 65] ++ word (mkN 16 q))), σ) :=
    sadd_eq (x := [65, 65, 65, 65]) rfl (dName_eq h1) (by simp only [List.length_cons, List.length_nil]; omega)
  have a2 : dSliceS (d2 fAdd (dStr "AAAA") (dName "word")) (some (d1 (f1 gNeg) (dInt 4))) none ρ σ = some (.str (S [65 + mkN 16 q / 4096 % 16, 65 + mkN 16 q / 256 % 16, 65 + mkN 16 q / 16 % 16, 65 + mkN 16 q % 16]), σ) := by
    unfold dSliceS
    rw [a1]
    dsimp only
    rw [show dPart (some (d1 (f1 gNeg) (dInt 4))) ρ σ = some (some (-4)) from rfl, show dPart none ρ σ = some none from rfl]
    dsimp only
    rw [if_pos (by rw [S_len]; simp only [List.length_append, List.length_cons, List.length_nil]; omega), pad_is hlt]
  refine app2_eq a2 (dName_eq h2) (K_weighed_eq hW (Nat.mod_lt _ (by decide)) (Nat.mod_lt _ (by decide)) (Nat.mod_lt _ (by decide)) (Nat.mod_lt _ (by decide)) h3) rfl |>.trans ?_
  rw [weigh_is]
theorem dHeavy_eq {W : Nat → Nat → Int} (hW : WOk W) {q : Nat → Bool} {ρ : Loc} {σ : Store} {w d : Nat} (h2 : ρ "weights" = some (.lst w)) (h3 : σ[w]? = some (wl W)) (h4 : ρ "due" = some (.lst d)) (h5 : σ[d]? = some (tb q)) :
    dHeavy ρ σ = some (.lst σ.length, σ ++ [(List.range 16).map fun c => V.int (heavyAt W q c)]) := by
  refine compN (n := 16) (by decide) (fun ρ => ρ "weights" = some (.lst w) ∧ ρ "due" = some (.lst d)) (fun c => V.int (heavyAt W q c)) ⟨only_get (by decide) h2, only_get (by decide) h4⟩ (fun ρ v h => ⟨by simp [upd, h.1], by simp [upd, h.2]⟩) ?_ (fun _ _ => rfl)
  rintro c hc ρ ⟨e1, e2⟩ e3
  have i0 := item_lst e2 e3 h5 (tb_get q hc) (by omega) rfl
  have w0 := wItem (i := 0) e1 h3 (by decide) (Nat.mod_lt c (show 2 > 0 by decide)) (int_eq 0 ρ σ) (mod_eq (dName_eq e3) (m := 2) (by decide))
  have w1 := wItem (i := 1) e1 h3 (by decide) (Nat.mod_lt (c / 2) (show 2 > 0 by decide)) (int_eq 1 ρ σ) (mod_eq (div_eq (dName_eq e3) (m := 2) (by decide) (by decide)) (m := 2) (by decide))
  have w2 := wItem (i := 2) e1 h3 (by decide) (Nat.mod_lt (c / 4) (show 2 > 0 by decide)) (int_eq 2 ρ σ) (mod_eq (div_eq (dName_eq e3) (m := 4) (by decide) (by decide)) (m := 2) (by decide))
  have w3 := wItem (i := 3) e1 h3 (by decide) (show c / 8 < 2 by omega) (int_eq 3 ρ σ) (div_eq (dName_eq e3) (m := 8) (by decide) (by decide))
  exact ⟨σ, imul_eq (imul_eq (imul_eq (imul_eq i0 w0 (small_w hW _ _)) w1 (small_w hW _ _)) w2 (small_w hW _ _)) w3 (small_w hW _ _)⟩
theorem last_item {n : String} {ρ : Loc} {σ : Store} {i : Nat} {xs : List V} {v : V} (h1 : ρ n = some (.lst i)) (hσ : σ[i]? = some (xs ++ [v])) (hf : v.flat = true) : dFlat (d2 fItem (dName n) (d1 (f1 gNeg) (dInt 1))) ρ σ = some (v, σ) := by
  refine flat_eq (σ1 := σ) ?_ hf
  rw [d2_eq (dName_eq h1) (y := .int (-1)) (σ2 := σ) rfl]
  unfold fItem
  dsimp only
  rw [hσ]
  unfold pyIdx
  dsimp only
  rw [if_neg (by omega), if_pos (by rw [List.length_append, List.length_cons, List.length_nil]; omega)]
  rw [show ((-1 : Int) + ((xs ++ [v]).length : Int)).toNat = xs.length by rw [List.length_append, List.length_cons, List.length_nil]; omega]
  rw [List.getElem?_append_right (Nat.le_refl _), Nat.sub_self]
  rfl
theorem tHeavy_eq {W : Nat → Nat → Int} {q : Nat → Bool} {ρ : Loc} {σ : Store} {hp hv : Nat} {hs : List V} (h1 : ρ "word" = some (.str (S (word (mkN 16 q))))) (h2 : ρ "heaps" = some (.lst hp)) (h3 : σ[hp]? = some (hs ++ [.int (mu W q)])) (h4 : ρ "heavy" = some (.lst hv)) (h5 : σ[hv]? = some ((List.range 16).map fun c => V.int (heavyAt W q c))) :
    tHeavy ρ σ = some false := by
  have a1 : dSliceS (dName "word") none (some (dInt 1)) ρ σ = some (.str (Txt.slice (S (word (mkN 16 q))) none (some 1)), σ) := by
    unfold dSliceS
    rw [dName_eq h1]
    dsimp only
    rw [show dPart (some (dInt 1)) ρ σ = some (some 1) from rfl, show dPart none ρ σ = some none from rfl]
    dsimp only
    have := word_len (mkN 16 q)
    rw [if_pos (by rw [S_len]; omega)]
  have b1 : t2 (f2 gEq) (dSliceS (dName "word") none (some (dInt 1))) (dStr "A") ρ σ = some false := by
    refine t2_eq a1 (y := .str (S [65])) (σ2 := σ) (σ3 := σ) rfl ?_
    show some (V.bool (Txt.slice (S (word (mkN 16 q))) none (some 1) == S [65]), σ) = _
    rw [head_is]
  have a2 := last_item h2 h3 rfl
  have a3 : dFlat (dApp (onList gSum) [(dName "heavy")]) ρ σ = some (.int (mu W q), σ) := by
    refine (sum_lst h4 h5 (ns := (List.range 16).map (heavyAt W q)) ?_).trans rfl
    have := ints_map ((List.range 16).map (heavyAt W q))
    rwa [List.map_map] at this
  have b2 : t2 fNe (dFlat (d2 fItem (dName "heaps") (d1 (f1 gNeg) (dInt 1)))) (dFlat (dApp (onList gSum) [(dName "heavy")])) ρ σ = some false := by
    refine t2_eq a2 a3 (σ3 := σ) ?_
    show some (V.bool (mu W q != mu W q), σ) = _
    rw [bne_self_eq_false]
  exact tOr_ff b1 b2
end Mine
end

section
open PySem PySem.W PyProof.Rows PySem.Calls
set_option Elab.async false
set_option autoImplicit false
set_option maxRecDepth 100000
set_option maxHeartbeats 400000
namespace Mine
theorem if_ff {t : Tst} {a : SDen} {lo : Nat} {ρ : Loc} {σ : Store} (h : t ρ σ = some false) : sIf t a sDone lo ρ σ = some (.next, ρ, σ) := by
  unfold sIf; rw [h]; rfl
theorem app_next {n : String} {d : Den} {lo : Nat} {ρ : Loc} {σ : Store} {i : Nat} {v : V} {xs : List V} (h1 : ρ n = some (.lst i)) (h2 : d ρ σ = some (v, σ)) (hlo : lo ≤ i) (hσ : σ[i]? = some xs) (hc : xs.length < cap) :
    sDrop (mApp (dName n) (mOf d)) lo ρ σ = some (.next, ρ, σ.set i (xs ++ [v])) := by
  unfold sDrop mApp mOf
  simp only [dName_eq h1, h2, if_pos hlo, hσ, if_pos hc]
/-- what a turn leaves -/
structure Heaps (W : Nat → Nat → Int) (wi hi : Nat) (hs : List V) (ρ : Loc) (σ : Store) : Prop where
  weights : ρ "weights" = some (.lst wi)
  heaps : ρ "heaps" = some (.lst hi)
  ne : wi ≠ hi
  wl : σ[wi]? = some (wl W)
  at_ : σ[hi]? = some hs
  few : hs.length ≤ 100
theorem lTurn_eq {W : Nat → Nat → Int} (hW : WOk W) {φ ψ : Fm} {k wi hi d lo : Nat} {hs : List V} {ρ : Loc} {σ : Store} (H : Heaps W wi hi hs ρ σ) (hlo : lo ≤ hi)
    (ht : ρ "text" = some (.str (S ((txt φ ψ k).map Tm.code)))) (hd : ρ "due" = some (.lst d)) (hne : d ≠ hi) (hdue : σ[d]? = some (tb (due φ ψ k))) :
    ∃ ρ' σ', lTurn lo ρ σ = some (.next, ρ', σ') ∧ (∀ x, x ≠ "rows" → x ≠ "word" → x ≠ "heavy" → ρ' x = ρ x) ∧ (∀ j xs, j ≠ hi → σ[j]? = some xs → σ'[j]? = some xs) ∧ σ'[hi]? = some (hs ++ [.int (mu W (due φ ψ k))]) := by
  obtain ⟨w1, w2, w3, w4, w5, w6⟩ := H
  have r1 : dFlat (dApp K_told [(dName "text")]) ρ σ = some (.lst σ.length, σ ++ [[.int (mk (due φ ψ k))]]) := by
    refine tup_eq ?_ rfl
    unfold dApp
    rw [args_cons (dName_eq ht) args_nil]
    exact K_told_eq φ ψ k σ
  generalize due φ ψ k = q at *
  have s1 := set_next (n := "rows") (lo := lo) r1
  have hL : ∀ j xs, σ[j]? = some xs → (σ ++ [[V.int (mk q)]])[j]? = some xs := fun j xs e => getE e
  have hr : (σ ++ [[V.int (mk q)]])[σ.length]? = some [V.int (mk q)] := last_get
  have hir : σ.length ≠ hi := fun e => by
    have := (List.getElem?_eq_some_iff.mp w5).1; omega
  generalize hσ1 : σ ++ [[V.int (mk q)]] = σ1 at *
  generalize hr1 : σ.length = r at *
  have p1 : ∀ x, x ≠ "rows" → upd ρ "rows" (.lst r) x = ρ x := fun x hx => by simp [upd, hx]
  have p1r : upd ρ "rows" (.lst r) "rows" = some (.lst r) := by simp [upd]
  generalize hρ1 : upd ρ "rows" (V.lst r) = ρ1 at *
  have s2 : sIf tRows sBad sDone lo ρ1 σ1 = some (.next, ρ1, σ1) := if_ff (tRows_eq p1r hr ((p1 _ (by decide)).trans hd) (hL _ _ hdue))
  have s3 : sIf tEof sBad sDone lo ρ1 σ1 = some (.next, ρ1, σ1) := if_ff (tEof_eq p1r hr ((p1 _ (by decide)).trans hd) (hL _ _ hdue))
  have s4 := set_next (n := "word") (lo := lo) (dWord_eq p1r hr)
  have p2 : ∀ x, x ≠ "word" → upd ρ1 "word" (.str (S (word (mkN 16 q)))) x = ρ1 x := fun x hx => by simp [upd, hx]
  have p2w : upd ρ1 "word" (.str (S (word (mkN 16 q)))) "word" = some (.str (S (word (mkN 16 q)))) := by simp [upd]
  generalize hρ2 : upd ρ1 "word" (V.str (S (word (mkN 16 q)))) = ρ2 at *
  have e2 : ∀ x, x ≠ "rows" → x ≠ "word" → ρ2 x = ρ x := fun x a b => (p2 x b).trans (p1 x a)
  have e2h : ρ2 "heaps" = some (.lst hi) := (e2 _ (by decide) (by decide)).trans w2
  have e2w : ρ2 "weights" = some (.lst wi) := (e2 _ (by decide) (by decide)).trans w1
  have e2d : ρ2 "due" = some (.lst d) := (e2 _ (by decide) (by decide)).trans hd
  have s5 := app_next (lo := lo) e2h (dWeigh_eq hW p2w e2w (hL _ _ w4)) hlo (hL _ _ w5) (Nat.lt_of_le_of_lt w6 (show 100 < 4096 by decide))
  have hlen : hi < σ1.length := (List.getElem?_eq_some_iff.mp (hL _ _ w5)).1
  have k2 : ∀ j xs, j ≠ hi → σ1[j]? = some xs → (σ1.set hi (hs ++ [V.int (mu W q)]))[j]? = some xs := fun j xs hj e => by
    rw [List.getElem?_set_ne (Ne.symm hj)]; exact e
  have k2h : (σ1.set hi (hs ++ [V.int (mu W q)]))[hi]? = some (hs ++ [V.int (mu W q)]) := List.getElem?_set_self hlen
  generalize hσ2 : σ1.set hi (hs ++ [V.int (mu W q)]) = σ2 at *
  have s6 := set_next (n := "heavy") (lo := lo) (dHeavy_eq hW e2w (k2 _ _ w3 (hL _ _ w4)) e2d (k2 _ _ hne (hL _ _ hdue)))
  have hv : (σ2 ++ [(List.range 16).map fun c => V.int (heavyAt W q c)])[σ2.length]? = some ((List.range 16).map fun c => V.int (heavyAt W q c)) := last_get
  have k3 : ∀ j xs, σ2[j]? = some xs → (σ2 ++ [(List.range 16).map fun c => V.int (heavyAt W q c)])[j]? = some xs := fun j xs e => getE e
  generalize hσ3 : σ2 ++ [(List.range 16).map fun c => V.int (heavyAt W q c)] = σ3 at *
  generalize σ2.length = v at *
  have p3 : ∀ x, x ≠ "heavy" → upd ρ2 "heavy" (.lst v) x = ρ2 x := fun x hx => by simp [upd, hx]
  have p3v : upd ρ2 "heavy" (.lst v) "heavy" = some (.lst v) := by simp [upd]
  generalize hρ3 : upd ρ2 "heavy" (V.lst v) = ρ3 at *
  have s7 : sIf tHeavy sBad sDone lo ρ3 σ3 = some (.next, ρ3, σ3) := if_ff (tHeavy_eq ((p3 _ (by decide)).trans p2w) ((p3 _ (by decide)).trans e2h) (k3 _ _ k2h) p3v hv)
  refine ⟨ρ3, σ3, ?_, fun x a b c => (p3 x c).trans (e2 x a b), fun j xs hj e => k3 _ _ (k2 _ _ hj (hL _ _ e)), k3 _ _ k2h⟩
  unfold lTurn
  rw [seq_next s1, seq_next s2, seq_next s3, seq_next s4, seq_next s5, seq_next s6, seq_next s7]; rfl
/-- all six turns -/
noncomputable def heapV (W : Nat → Nat → Int) (φ ψ : Fm) (k : Nat) : V := .int (mu W (due φ ψ k))
theorem law11 {W : Nat → Nat → Int} (hW : WOk W) {φ ψ : Fm} {wi hi ti ui d0 d1 d2 d3 d4 d5 lo : Nat} {ρ : Loc} {σ : Store} (H : Heaps W wi hi [] ρ σ) (hlo : lo ≤ hi) (ht : ρ "texts" = some (.lst ti)) (hu : ρ "dues" = some (.lst ui)) (ti' : ti < hi) (ui' : ui < hi)
    (h1 : σ[ti]? = some (textsV φ ψ)) (h2 : σ[ui]? = some [.lst d0, .lst d1, .lst d2, .lst d3, .lst d4, .lst d5])
    (n0 : d0 < hi) (n1 : d1 < hi) (n2 : d2 < hi) (n3 : d3 < hi) (n4 : d4 < hi) (n5 : d5 < hi)
    (g0 : σ[d0]? = some (tb (due φ ψ 0))) (g1 : σ[d1]? = some (tb (due φ ψ 1))) (g2 : σ[d2]? = some (tb (due φ ψ 2))) (g3 : σ[d3]? = some (tb (due φ ψ 3))) (g4 : σ[d4]? = some (tb (due φ ψ 4))) (g5 : σ[d5]? = some (tb (due φ ψ 5))) :
    ∃ ρ' σ', D_law11 lo ρ σ = some (.next, ρ', σ') ∧ (∀ x, x ≠ "text" → x ≠ "due" → x ≠ "rows" → x ≠ "word" → x ≠ "heavy" → ρ' x = ρ x) ∧ (∀ j xs, j ≠ hi → σ[j]? = some xs → σ'[j]? = some xs) ∧ σ'[hi]? = some [heapV W φ ψ 0, heapV W φ ψ 1, heapV W φ ψ 2, heapV W φ ψ 3, heapV W φ ψ 4, heapV W φ ψ 5] := by
  have hz : dZip (dName "texts") (dName "dues") ρ σ = some ([.tup [.str (S ((txt φ ψ 0).map Tm.code)), .lst d0], .tup [.str (S ((txt φ ψ 1).map Tm.code)), .lst d1], .tup [.str (S ((txt φ ψ 2).map Tm.code)), .lst d2], .tup [.str (S ((txt φ ψ 3).map Tm.code)), .lst d3], .tup [.str (S ((txt φ ψ 4).map Tm.code)), .lst d4], .tup [.str (S ((txt φ ψ 5).map Tm.code)), .lst d5]], σ, max ti ui + 1) := by
    unfold dZip
    rw [args_cons (dName_eq ht) (args_cons (dName_eq hu) args_nil)]
    dsimp only
    rw [h1, h2]
    rfl
  have hlo' : max lo (max ti ui + 1) ≤ hi := by omega
  rw [law11_is, for_eq hz]
  have step : ∀ {k d : Nat} {hs : List V} {ρ : Loc} {σ : Store}, Heaps W wi hi hs ρ σ → hs.length ≤ 50 → d < hi → σ[d]? = some (tb (due φ ψ k)) →
      ∃ ρ1 ρ' σ', tTup [(tName "text"), (tName "due")] (.tup [.str (S ((txt φ ψ k).map Tm.code)), .lst d]) ρ = some ρ1 ∧ lTurn (max lo (max ti ui + 1)) ρ1 σ = some (.next, ρ', σ') ∧ (∀ x, x ≠ "text" → x ≠ "due" → x ≠ "rows" → x ≠ "word" → x ≠ "heavy" → ρ' x = ρ x) ∧ (∀ j xs, j ≠ hi → σ[j]? = some xs → σ'[j]? = some xs) ∧ Heaps W wi hi (hs ++ [heapV W φ ψ k]) ρ' σ' := by
    intro k d hs ρ σ H hl hd hdue
    obtain ⟨w1, w2, w3, w4, w5, w6⟩ := H
    have H1 : Heaps W wi hi hs (upd (upd ρ "text" (.str (S ((txt φ ψ k).map Tm.code)))) "due" (.lst d)) σ := ⟨by simp [upd, w1], by simp [upd, w2], w3, w4, w5, w6⟩
    obtain ⟨ρ', σ', e, a, b, c⟩ := lTurn_eq (φ := φ) (ψ := ψ) (k := k) (d := d) (lo := max lo (max ti ui + 1)) hW H1 (by omega) (by simp [upd]) (by simp [upd]) (by omega) hdue
    refine ⟨_, ρ', σ', rfl, e, fun x x1 x2 x3 x4 x5 => ?_, b, ?_⟩
    · rw [a x x3 x4 x5]; simp [upd, x1, x2]
    · refine ⟨?_, ?_, w3, b _ _ w3 w4, c, ?_⟩
      · rw [a _ (by decide) (by decide) (by decide)]; simp [upd, w1]
      · rw [a _ (by decide) (by decide) (by decide)]; simp [upd, w2]
      · rw [List.length_append, List.length_cons, List.length_nil]; omega
  obtain ⟨q0, r0, s0, t0, e0, f0, b0, H0⟩ := step (k := 0) H (by decide) n0 g0
  obtain ⟨q1, r1, s1, t1, e1, f1, b1, H1⟩ := step (k := 1) H0 (Nat.le_of_ble_eq_true rfl) n1 (b0 _ _ (by omega) g1)
  obtain ⟨q2, r2, s2, t2, e2, f2, b2, H2⟩ := step (k := 2) H1 (Nat.le_of_ble_eq_true rfl) n2 (b1 _ _ (by omega) (b0 _ _ (by omega) g2))
  obtain ⟨q3, r3, s3, t3, e3, f3, b3, H3⟩ := step (k := 3) H2 (Nat.le_of_ble_eq_true rfl) n3 (b2 _ _ (by omega) (b1 _ _ (by omega) (b0 _ _ (by omega) g3)))
  obtain ⟨q4, r4, s4, t4, e4, f4, b4, H4⟩ := step (k := 4) H3 (Nat.le_of_ble_eq_true rfl) n4 (b3 _ _ (by omega) (b2 _ _ (by omega) (b1 _ _ (by omega) (b0 _ _ (by omega) g4))))
  obtain ⟨q5, r5, s5, t5, e5, f5, b5, H5⟩ := step (k := 5) H4 (Nat.le_of_ble_eq_true rfl) n5 (b4 _ _ (by omega) (b3 _ _ (by omega) (b2 _ _ (by omega) (b1 _ _ (by omega) (b0 _ _ (by omega) g5)))))
  refine ⟨r5, s5, ?_, fun x a b c d e => ?_, fun j xs hj e => b5 _ _ hj (b4 _ _ hj (b3 _ _ hj (b2 _ _ hj (b1 _ _ hj (b0 _ _ hj e))))), H5.at_⟩
  · rw [forGo_cons t0 e0, forGo_cons t1 e1, forGo_cons t2 e2, forGo_cons t3 e3, forGo_cons t4 e4, forGo_cons t5 e5]; rfl
  · rw [f5 x a b c d e, f4 x a b c d e, f3 x a b c d e, f2 x a b c d e, f1 x a b c d e, f0 x a b c d e]
end Mine
end

section
open PySem PySem.W PyProof.Rows PySem.Calls
set_option Elab.async false
set_option autoImplicit false
set_option maxRecDepth 100000
set_option maxHeartbeats 400000
namespace Mine
noncomputable def natsV (l : List Nat) : List V := l.map fun (c : Nat) => V.int (c : Int)
theorem any_filter (n : Nat) (p : Nat → Bool) : (!decide ((((List.range n).filter p).map fun (c : Nat) => (c : Int)) = [])) = (List.range n).any p := by
  cases h : (List.range n).any p with
  | true =>
    obtain ⟨c, hc, hpc⟩ := List.any_eq_true.mp h
    have hm : c ∈ (List.range n).filter p := List.mem_filter.mpr ⟨hc, hpc⟩
    cases hf : (List.range n).filter p with
    | nil => rw [hf] at hm; cases hm
    | cons a l => simp
  | false =>
    have : (List.range n).filter p = [] := by
      rw [List.filter_eq_nil_iff]
      intro c hc hpc
      exact List.any_eq_false.mp h c hc hpc
    rw [this]; rfl
theorem some_any {n : Nat} {p : Nat → Bool} {d : Den} {ρ : Loc} {σ : Store} (h : d ρ σ = some (.lst σ.length, σ ++ [((List.range n).filter p).map fun (c : Nat) => V.int (c : Int)])) :
    d2 fNe d (dList []) ρ σ = some (.bool ((List.range n).any p), σ ++ [((List.range n).filter p).map fun (c : Nat) => V.int (c : Int)] ++ [[]]) := by
  have hl := list_eq (ρ := ρ) (σ := σ ++ [((List.range n).filter p).map fun (c : Nat) => V.int (c : Int)]) args_nil (Nat.zero_le _)
  rw [d2_eq h hl]
  unfold fNe
  dsimp only
  rw [getE last_get, last_get]
  dsimp only
  rw [ints_nat]
  show some (V.bool (!decide (_ = ([] : List Int))), _) = _
  rw [any_filter]
theorem tAnd_eq {a b : Tst} {ρ : Loc} {σ : Store} {x y : Bool} (h1 : a ρ σ = some x) (h2 : b ρ σ = some y) : tAnd a b ρ σ = some (x && y) := by
  unfold tAnd; rw [h1]
  cases x with
  | true => exact h2
  | false => rfl
theorem truth_bool {d : Den} {ρ : Loc} {σ σ1 : Store} {b : Bool} (h : d ρ σ = some (.bool b, σ1)) : dTruth d ρ σ = some b := by
  unfold dTruth; rw [h]; rfl
theorem law12 {φ ψ : Fm} {ρ : Loc} {σ : Store} {i j lo : Nat} (h1 : ρ "f" = some (.lst i)) (h2 : ρ "g" = some (.lst j)) (hi : σ[i]? = some (tb φ.f)) (hj : σ[j]? = some (tb ψ.f)) :
    ∃ τ, D_law12 lo ρ σ = some (.next, upd ρ "share" (.bool (shareP φ ψ)), σ ++ τ) := by
  have hc : dComp (dRange (dInt 4)) ["f", "g"] (tName "k") (tAnd (dTruth (dFlat (dApp K_matters [(dName "f"), (dName "k")]))) (dTruth (dFlat (dApp K_matters [(dName "g"), (dName "k")])))) (dName "k") ρ σ = some (.lst σ.length, σ ++ [((List.range 4).filter fun k => matP φ.f k && matP ψ.f k).map fun (c : Nat) => V.int (c : Int)]) := by
    refine compNf (n := 4) (by decide) (fun ρ => ρ "f" = some (.lst i) ∧ ρ "g" = some (.lst j)) (fun k => matP φ.f k && matP ψ.f k) ⟨only_get (by decide) h1, only_get (by decide) h2⟩ (fun ρ v h => ⟨by simp [upd, h.1], by simp [upd, h.2]⟩) ?_
    rintro k hk ρ ⟨e1, e2⟩ e3
    exact tAnd_eq (truth_bool (app2_eq (dName_eq e1) (dName_eq e3) (K_matters_eq φ.f hk hi) rfl)) (truth_bool (app2_eq (dName_eq e2) (dName_eq e3) (K_matters_eq ψ.f hk hj) rfl))
  have := set_next (n := "share") (lo := lo) (some_any hc)
  rw [List.append_assoc] at this
  exact ⟨_, this⟩
noncomputable def eightV (s : Bool) : List V := [.bool s, .bool s, .bool !s, .bool !s, .bool true, .bool true, .bool false, .bool false]
theorem law13 {s : Bool} {ρ : Loc} {σ : Store} {lo : Nat} (h : ρ "share" = some (.bool s)) : D_law13 lo ρ σ = some (.next, upd ρ "truth" (.lst σ.length), σ ++ [eightV s]) := by
  have n := fun σ => dName_eq (σ := σ) h
  have m : ∀ σ, d1 (f1 gNot) (dName "share") ρ σ = some (.bool !s, σ) := fun σ => (d1_eq (n σ)).trans rfl
  exact set_next (list_eq (args_cons (n _) (args_cons (n _) (args_cons (m _) (args_cons (m _) (args_cons (v := .bool true) rfl (args_cons (v := .bool true) rfl (args_cons (v := .bool false) rfl (args_cons (v := .bool false) rfl args_nil)))))))) (Nat.le_of_ble_eq_true rfl))
/-- the second loop -/
noncomputable def told1 : Den := dList [(dFlat (dApp K_lt [(dName "least"), (dName "most")])), (dFlat (dApp K_gt [(dName "most"), (dName "least")])), (dFlat (dApp K_ge [(dName "least"), (dName "most")])), (dFlat (dApp K_le [(dName "most"), (dName "least")]))]
noncomputable def told2 : Den := d2 fAdd (dName "told") (dList [(dFlat (dApp K_le [(dName "least"), (dName "most")])), (dFlat (dApp K_ge [(dName "most"), (dName "least")])), (dFlat (dApp K_lt [(dName "most"), (dName "least")])), (dFlat (dApp K_gt [(dName "least"), (dName "most")]))])
noncomputable def tTold : Tst := t2 fNe (dComp (dRange (dInt 8)) ["told", "truth"] (tName "k") (t2 (f2 gIsNot) (dFlat (d2 fItem (dName "told") (dName "k"))) (dFlat (d2 fItem (dName "truth") (dName "k")))) (dName "k")) (dList [])
noncomputable def pTurn : SDen := sSeq (sSet "told" (mOf told1)) (sSeq (sSet "told" (mOf told2)) (sSeq (sIf tTold sBad sDone) sDone))
noncomputable def dPairs : Den := dList [(dTup [(dFlat (dApp K_mul [(dFlat (d2 fItem (dName "heaps") (dInt 0))), (dFlat (d2 fItem (dName "heaps") (dInt 1)))])), (dFlat (dApp K_mul [(dFlat (d2 fItem (dName "heaps") (dInt 2))), (dFlat (d2 fItem (dName "heaps") (dInt 5)))]))]), (dTup [(dFlat (dApp K_mul [(dFlat (d2 fItem (dName "heaps") (dInt 3))), (dFlat (d2 fItem (dName "heaps") (dInt 5)))])), (dFlat (dApp K_mul [(dFlat (d2 fItem (dName "heaps") (dInt 0))), (dFlat (d2 fItem (dName "heaps") (dInt 4)))]))])]
theorem law14_is : D_law14 = sFor (dIterL dPairs) (tTup [(tName "least"), (tName "most")]) pTurn := rfl
theorem truth_get (s : Bool) {c : Nat} (hc : c < 8) : ∃ b, (eightV s)[c]? = some (.bool b) := by
  match c, hc with
  | 0, _ => exact ⟨_, rfl⟩
  | 1, _ => exact ⟨_, rfl⟩
  | 2, _ => exact ⟨_, rfl⟩
  | 3, _ => exact ⟨_, rfl⟩
  | 4, _ => exact ⟨_, rfl⟩
  | 5, _ => exact ⟨_, rfl⟩
  | 6, _ => exact ⟨_, rfl⟩
  | 7, _ => exact ⟨_, rfl⟩
noncomputable def fourA (s : Bool) : List V := [.bool s, .bool s, .bool !s, .bool !s]
noncomputable def fourB : List V := [.bool true, .bool true, .bool false, .bool false]
theorem t2_of {f : Fn} {a b : Den} {ρ : Loc} {σ σ1 : Store} {c : Bool} (h : d2 f a b ρ σ = some (.bool c, σ1)) : t2 f a b ρ σ = some c := by
  unfold t2; rw [h]
theorem pTurn_eq {s : Bool} {x y : Int} {ρ : Loc} {σ : Store} {t lo : Nat} (h1 : ρ "least" = some (.int x)) (h2 : ρ "most" = some (.int y)) (h3 : ρ "truth" = some (.lst t)) (h4 : σ[t]? = some (eightV s)) (hs : decide (x < y) = s) (hle : x ≤ y) :
    ∃ ρ' τ, pTurn lo ρ σ = some (.next, ρ', σ ++ τ) ∧ ρ' "truth" = some (.lst t) := by
  have hy : decide (y ≤ x) = !s := by
    subst hs
    by_cases e : x < y
    · rw [decide_eq_true e, decide_eq_false (by omega)]; rfl
    · rw [decide_eq_false e, decide_eq_true (by omega)]; rfl
  have call : ∀ {g : Int → Int → V} {a b : Int} {n m : String} {ρ : Loc} {σ : Store} {v : Bool}, ρ n = some (.int a) → ρ m = some (.int b) → g a b = .bool v → dFlat (dApp (o2 g) [(dName n), (dName m)]) ρ σ = some (.bool v, σ) := by
    intro g a b n m ρ σ v e1 e2 e
    refine app2_eq (dName_eq e1) (dName_eq e2) (σ3 := σ) ?_ rfl
    show some (g a b, σ) = _
    rw [e]
  have a1 : told1 ρ σ = some (.lst σ.length, σ ++ [fourA s]) := by
    refine list_eq (args_cons (call h1 h2 ?_) (args_cons (call h2 h1 ?_) (args_cons (call h1 h2 ?_) (args_cons (call h2 h1 ?_) args_nil)))) (Nat.le_of_ble_eq_true rfl)
    · rw [← hs]
    · rw [← hs]
    · rw [← hy]
    · rw [← hy]
  have q1 : ∀ x, x ≠ "told" → upd ρ "told" (.lst σ.length) x = ρ x := fun x hx => by simp [upd, hx]
  have q1t : upd ρ "told" (.lst σ.length) "told" = some (.lst σ.length) := by simp [upd]
  have s1 := set_next (n := "told") (lo := lo) a1
  generalize hρ1 : upd ρ "told" (V.lst σ.length) = ρ1 at *
  have h1' := (q1 _ (by decide)).trans h1
  have h2' := (q1 _ (by decide)).trans h2
  have a2 : told2 ρ1 (σ ++ [fourA s]) = some (.lst (σ.length + 2), σ ++ [fourA s] ++ [fourB] ++ [eightV s]) := by
    have b : dList [(dFlat (dApp K_le [(dName "least"), (dName "most")])), (dFlat (dApp K_ge [(dName "most"), (dName "least")])), (dFlat (dApp K_lt [(dName "most"), (dName "least")])), (dFlat (dApp K_gt [(dName "least"), (dName "most")]))] ρ1 (σ ++ [fourA s]) = some (.lst (σ ++ [fourA s]).length, σ ++ [fourA s] ++ [fourB]) := by
      refine list_eq (args_cons (call h1' h2' ?_) (args_cons (call h2' h1' ?_) (args_cons (call h2' h1' ?_) (args_cons (call h1' h2' ?_) args_nil)))) (Nat.le_of_ble_eq_true rfl)
      · rw [decide_eq_true hle]
      · rw [decide_eq_true hle]
      · rw [decide_eq_false (by omega)]
      · rw [decide_eq_false (by omega)]
    unfold told2
    rw [d2_eq (dName_eq q1t) b]
    unfold fAdd
    dsimp only
    rw [getE last_get, last_get]
    dsimp only
    unfold alloc
    rw [if_pos (Nat.le_of_ble_eq_true rfl)]
    rw [List.length_append, List.length_append]
    rfl
  have s2 := set_next (n := "told") (lo := lo) a2
  have q2 : ∀ x, x ≠ "told" → upd ρ1 "told" (.lst (σ.length + 2)) x = ρ1 x := fun x hx => by simp [upd, hx]
  have q2t : upd ρ1 "told" (.lst (σ.length + 2)) "told" = some (.lst (σ.length + 2)) := by simp [upd]
  generalize hρ2 : upd ρ1 "told" (V.lst (σ.length + 2)) = ρ2 at *
  have g1 : (σ ++ [fourA s] ++ [fourB] ++ [eightV s])[σ.length + 2]? = some (eightV s) := by
    have hL : σ.length + 2 = (σ ++ [fourA s] ++ [fourB]).length := by rw [List.length_append, List.length_append]; rfl
    rw [hL]; exact last_get
  have g2 : (σ ++ [fourA s] ++ [fourB] ++ [eightV s])[t]? = some (eightV s) := getE (getE (getE h4))
  have tt : ρ2 "truth" = some (.lst t) := (q2 _ (by decide)).trans ((q1 _ (by decide)).trans h3)
  generalize hτ : σ ++ [fourA s] ++ [fourB] ++ [eightV s] = σ3 at *
  have hσ3 : ∃ τ, σ3 = σ ++ τ := ⟨_, by rw [← hτ, List.append_assoc, List.append_assoc]⟩
  generalize σ.length + 2 = m at *
  have s3 : sIf tTold sBad sDone lo ρ2 σ3 = some (.next, ρ2, σ3) := by
    refine if_ff ?_
    have hc : dComp (dRange (dInt 8)) ["told", "truth"] (tName "k") (t2 (f2 gIsNot) (dFlat (d2 fItem (dName "told") (dName "k"))) (dFlat (d2 fItem (dName "truth") (dName "k")))) (dName "k") ρ2 σ3 = some (.lst σ3.length, σ3 ++ [((List.range 8).filter fun _ => false).map fun (c : Nat) => V.int (c : Int)]) := by
      refine compNf (n := 8) (by decide) (fun ρ => ρ "told" = some (.lst m) ∧ ρ "truth" = some (.lst t)) (fun _ => false) ⟨only_get (by decide) q2t, only_get (by decide) tt⟩ (fun ρ v h => ⟨by simp [upd, h.1], by simp [upd, h.2]⟩) ?_
      rintro k hk ρ ⟨e1, e2⟩ e3
      obtain ⟨b, hb⟩ := truth_get s hk
      exact isnot_eq (item_lst e1 e3 g1 hb (by omega) rfl) (item_lst e2 e3 g2 hb (by omega) rfl) rfl
    exact (t2_of (some_any hc)).trans rfl
  obtain ⟨τ, rfl⟩ := hσ3
  refine ⟨ρ2, τ, ?_, tt⟩
  unfold pTurn
  rw [seq_next s1, seq_next s2, seq_next s3]; rfl
theorem b2i_abs (b : Bool) : (b2i b).natAbs ≤ 1 := by cases b <;> decide
theorem heavy_small {W : Nat → Nat → Int} (hW : WOk W) (q : Nat → Bool) (c : Nat) : (heavyAt W q c).natAbs ≤ 1000000000000 := by
  have w : ∀ i b, (W i b).natAbs ≤ 1000 := fun i b => by have := hW i b; omega
  unfold heavyAt
  rw [Int.natAbs_mul, Int.natAbs_mul, Int.natAbs_mul, Int.natAbs_mul]
  exact Nat.mul_le_mul (Nat.mul_le_mul (Nat.mul_le_mul (Nat.mul_le_mul (b2i_abs _) (w _ _)) (w _ _)) (w _ _)) (w _ _)
theorem sum_small {B : Nat} : ∀ {l : List Int}, (∀ x ∈ l, x.natAbs ≤ B) → l.sum.natAbs ≤ l.length * B
  | [], _ => by simp
  | a :: l, h => by
    have h1 := h a List.mem_cons_self
    have h2 := sum_small (l := l) fun x hx => h x (List.mem_cons_of_mem _ hx)
    rw [List.sum_cons, List.length_cons, Nat.succ_mul]
    omega
theorem mu_small {W : Nat → Nat → Int} (hW : WOk W) (q : Nat → Bool) : (mu W q).natAbs < 2 ^ 62 := by
  have := sum_small (B := 1000000000000) (l := (List.range 16).map (heavyAt W q)) fun x hx => by
    obtain ⟨c, _, rfl⟩ := List.mem_map.mp hx
    exact heavy_small hW q c
  rw [List.length_map, List.length_range] at this
  exact Nat.lt_of_le_of_lt this (by decide)
theorem law14 {W : Nat → Nat → Int} (hW : WOk W) {φ ψ : Fm} {ρ : Loc} {σ : Store} {hi t lo : Nat} (h1 : ρ "heaps" = some (.lst hi)) (hh : σ[hi]? = some [heapV W φ ψ 0, heapV W φ ψ 1, heapV W φ ψ 2, heapV W φ ψ 3, heapV W φ ψ 4, heapV W φ ψ 5]) (h3 : ρ "truth" = some (.lst t)) (h4 : σ[t]? = some (eightV (shareP φ ψ))) :
    ∃ ρ' σ', D_law14 lo ρ σ = some (.next, ρ', σ') := by
  have it : ∀ k, k < 6 → dFlat (d2 fItem (dName "heaps") (dInt (k : Nat))) ρ σ = some (.int (mu W (due φ ψ k)), σ) := fun k hk => by
    refine item_int h1 hh (by omega) ?_ rfl
    match k, hk with
    | 0, _ => rfl
    | 1, _ => rfl
    | 2, _ => rfl
    | 3, _ => rfl
    | 4, _ => rfl
    | 5, _ => rfl
  have pr : ∀ a b, a < 6 → b < 6 → dFlat (dApp K_mul [(dFlat (d2 fItem (dName "heaps") (dInt (a : Nat)))), (dFlat (d2 fItem (dName "heaps") (dInt (b : Nat))))]) ρ σ = some (.int (mu W (due φ ψ a) * mu W (due φ ψ b)), σ) := fun a b ha hb =>
    mul_call (it a ha) (it b hb) (mu_small hW _)
  have x1 := tuple_eq (args_cons (pr 0 1 (by decide) (by decide)) (args_cons (pr 2 5 (by decide) (by decide)) args_nil)) (Nat.le_of_ble_eq_true rfl)
  have x2 := tuple_eq (args_cons (pr 3 5 (by decide) (by decide)) (args_cons (pr 0 4 (by decide) (by decide)) args_nil)) (Nat.le_of_ble_eq_true rfl)
  have x3 := list_eq (args_cons x1 (args_cons x2 args_nil)) (Nat.le_of_ble_eq_true rfl)
  obtain ⟨⟨p1, p2⟩, p3, p4⟩ := pairs hW φ ψ
  have p1 : decide (mu W (due φ ψ 0) * mu W (due φ ψ 1) < mu W (due φ ψ 2) * mu W (due φ ψ 5)) = shareP φ ψ := p1
  have p2 : mu W (due φ ψ 0) * mu W (due φ ψ 1) ≤ mu W (due φ ψ 2) * mu W (due φ ψ 5) := p2
  have p3 : decide (mu W (due φ ψ 3) * mu W (due φ ψ 5) < mu W (due φ ψ 0) * mu W (due φ ψ 4)) = shareP φ ψ := p3
  have p4 : mu W (due φ ψ 3) * mu W (due φ ψ 5) ≤ mu W (due φ ψ 0) * mu W (due φ ψ 4) := p4
  have hI : dIterL dPairs ρ σ = some ([.tup [.int (mu W (due φ ψ 0) * mu W (due φ ψ 1)), .int (mu W (due φ ψ 2) * mu W (due φ ψ 5))], .tup [.int (mu W (due φ ψ 3) * mu W (due φ ψ 5)), .int (mu W (due φ ψ 0) * mu W (due φ ψ 4))]], σ ++ [[.tup [.int (mu W (due φ ψ 0) * mu W (due φ ψ 1)), .int (mu W (due φ ψ 2) * mu W (due φ ψ 5))], .tup [.int (mu W (due φ ψ 3) * mu W (due φ ψ 5)), .int (mu W (due φ ψ 0) * mu W (due φ ψ 4))]]], σ.length + 1) := by
    unfold dIterL
    rw [show dPairs ρ σ = _ from x3]
    dsimp only
    rw [last_get]
  have t1 := getE (m := [[V.tup [.int (mu W (due φ ψ 0) * mu W (due φ ψ 1)), .int (mu W (due φ ψ 2) * mu W (due φ ψ 5))], .tup [.int (mu W (due φ ψ 3) * mu W (due φ ψ 5)), .int (mu W (due φ ψ 0) * mu W (due φ ψ 4))]]]) h4
  rw [law14_is, for_eq hI]
  generalize σ ++ [[V.tup [.int (mu W (due φ ψ 0) * mu W (due φ ψ 1)), .int (mu W (due φ ψ 2) * mu W (due φ ψ 5))], .tup [.int (mu W (due φ ψ 3) * mu W (due φ ψ 5)), .int (mu W (due φ ψ 0) * mu W (due φ ψ 4))]]] = σ1 at *
  generalize max lo (σ.length + 1) = lo'
  obtain ⟨ρ1, τ1, e1, u1⟩ := pTurn_eq (lo := lo') (σ := σ1) (ρ := upd (upd ρ "least" (.int (mu W (due φ ψ 0) * mu W (due φ ψ 1)))) "most" (.int (mu W (due φ ψ 2) * mu W (due φ ψ 5)))) (s := shareP φ ψ) (t := t) (by simp [upd]) (by simp [upd]) (by simp [upd, h3]) t1 p1 p2
  obtain ⟨ρ2, τ2, e2, u2⟩ := pTurn_eq (lo := lo') (σ := σ1 ++ τ1) (ρ := upd (upd ρ1 "least" (.int (mu W (due φ ψ 3) * mu W (due φ ψ 5)))) "most" (.int (mu W (due φ ψ 0) * mu W (due φ ψ 4)))) (s := shareP φ ψ) (t := t) (by simp [upd]) (by simp [upd]) (by simp [upd, u1]) (getE t1) p3 p4
  exact ⟨ρ2, σ1 ++ τ1 ++ τ2, by rw [forGo_cons rfl e1, forGo_cons rfl e2]; rfl⟩
end Mine
end

section
open PySem PySem.W PyProof.Rows PySem.Calls
set_option Elab.async false
set_option autoImplicit false
set_option maxRecDepth 100000
set_option maxHeartbeats 400000
namespace Mine
noncomputable def restOf (ns : List Int) : Nat → Int
  | 0 => cellOf ns 2 2001
  | 1 => cellOf ns 3 4
  | 2 => cellOf ns 4 3000
  | _ => cellOf ns 5 1006
theorem fCall_law {ns : List String} {B : SDen} {vs : List V} {σ σ' : Store} {ρ : Loc} {v : V} (hl : vs.length = ns.length) (h : B σ.length (locOf ns vs) σ = some (.ret v, ρ, σ')) : fCall ns B vs σ = some (v, σ') := by
  unfold fCall
  rw [if_pos hl, h]
theorem plainLaw (ns : List Int) (h : ns.length ≤ 63) : ∃ σ', fCall ["script"] D_law [.lst 0] [ns.map V.int] = some (.bool true, σ') := by
  have a0 := law0 h (ρ := locOf ["script"] [.lst 0]) (σ := [ns.map V.int]) (i := 0) (lo := 1) rfl rfl
  generalize hρ : upd (locOf ["script"] [V.lst 0]) "cells" (.lst ([ns.map V.int].length + 1)) = ρ0 at a0
  have r0 : ρ0 "script" = some (.lst 0) ∧ ρ0 "cells" = some (.lst 2) := by subst hρ; exact ⟨rfl, rfl⟩
  clear hρ
  obtain ⟨r00, r01⟩ := r0
  have hrest : cellsOf ns = .int (cellOf ns 0 740) :: .int (cellOf ns 1 5475) :: restV (restOf ns) := rfl
  obtain ⟨a, b, c, d, hab, hcd, a1⟩ := law1 (ρ := ρ0) (σ := [ns.map V.int, sixV, cellsOf ns]) (i := 0) (lo := 1) r00 rfl
  have r1 : ∃ ρ1, ρ1 = upd (upd (upd (upd ρ0 "low" (.int a)) "count" (.int b)) "other" (.int c)) "number" (.int d) ∧ ρ1 "cells" = some (.lst 2) ∧ ρ1 "low" = some (.int a) ∧ ρ1 "count" = some (.int b) ∧ ρ1 "other" = some (.int c) ∧ ρ1 "number" = some (.int d) :=
    ⟨_, rfl, by simp [upd, r01], by simp [upd], by simp [upd], by simp [upd], by simp [upd]⟩
  obtain ⟨ρ1, e1, r10, r11, r12, r13, r14⟩ := r1
  rw [← e1] at a1
  clear e1
  have a2 := law2 (lo := 1) (σ := [ns.map V.int, sixV, cellsOf ns]) (i := 2) (xs := cellsOf ns) hab r10 rfl rfl r11 r12
  generalize hφ : fmOf (cellOf ns 0 740) a b hab = φ at a2
  have r2 : ∃ ρ2, ρ2 = upd ρ1 "one" (fm φ.g [ns.map V.int, sixV, cellsOf ns].length ([ns.map V.int, sixV, cellsOf ns].length + 1)) ∧ ρ2 "cells" = some (.lst 2) ∧ ρ2 "other" = some (.int c) ∧ ρ2 "number" = some (.int d) ∧ ρ2 "one" = some (fm φ.g 3 4) :=
    ⟨_, rfl, by simp [upd, r10], by simp [upd, r13], by simp [upd, r14], by simp [upd]⟩
  obtain ⟨ρ2, e2, r20, r21, r22, r23⟩ := r2
  rw [← e2] at a2
  clear e2
  have a3 := law3 (lo := 1) (σ := [ns.map V.int, sixV, cellsOf ns, φ.nl, φ.sl]) (i := 2) (xs := cellsOf ns) hcd r20 rfl rfl r21 r22
  generalize hψ : fmOf (cellOf ns 1 5475) c d hcd = ψ at a3
  have r3 : ∃ ρ3, ρ3 = upd ρ2 "two" (fm ψ.g [ns.map V.int, sixV, cellsOf ns, φ.nl, φ.sl].length ([ns.map V.int, sixV, cellsOf ns, φ.nl, φ.sl].length + 1)) ∧ ρ3 "cells" = some (.lst 2) ∧ ρ3 "one" = some (fm φ.g 3 4) ∧ ρ3 "two" = some (fm ψ.g 5 6) :=
    ⟨_, rfl, by simp [upd, r20], by simp [upd, r23], by simp [upd]⟩
  obtain ⟨ρ3, e3, r30, r31, r32⟩ := r3
  rw [← e3] at a3
  clear e3
  have a4 := law4 (lo := 1) (σ := [ns.map V.int, sixV, cellsOf ns, φ.nl, φ.sl, ψ.nl, ψ.sl]) (i := 2) (a := .int (cellOf ns 0 740)) (b := .int (cellOf ns 1 5475)) (c := restOf ns) r30 rfl
  have hW := wOf_ok (restOf ns)
  generalize wOf (restOf ns) = W at a4 hW
  generalize restV (restOf ns) = rest at a4
  have r4 : ∃ ρ4, ρ4 = upd ρ3 "weights" (.lst ([ns.map V.int, sixV, cellsOf ns, φ.nl, φ.sl, ψ.nl, ψ.sl].length + 1)) ∧ ρ4 "one" = some (fm φ.g 3 4) ∧ ρ4 "two" = some (fm ψ.g 5 6) ∧ ρ4 "weights" = some (.lst 8) :=
    ⟨_, rfl, by simp [upd, r31], by simp [upd, r32], by simp [upd]⟩
  obtain ⟨ρ4, e4, r40, r41, r42⟩ := r4
  rw [← e4] at a4
  clear e4
  have a5 := law5 φ (lo := 1) (σ := [ns.map V.int, sixV, cellsOf ns, φ.nl, φ.sl, ψ.nl, ψ.sl, rest, wl W]) r40 (by decide) rfl rfl
  have r5 : ∃ ρ5, ρ5 = upd ρ4 "f" (.lst [ns.map V.int, sixV, cellsOf ns, φ.nl, φ.sl, ψ.nl, ψ.sl, rest, wl W].length) ∧ ρ5 "one" = some (fm φ.g 3 4) ∧ ρ5 "two" = some (fm ψ.g 5 6) ∧ ρ5 "weights" = some (.lst 8) ∧ ρ5 "f" = some (.lst 9) :=
    ⟨_, rfl, by simp [upd, r40], by simp [upd, r41], by simp [upd, r42], by simp [upd]⟩
  obtain ⟨ρ5, e5, r50, r51, r52, r53⟩ := r5
  rw [← e5] at a5
  clear e5
  have a6 := law6 ψ (lo := 1) (σ := [ns.map V.int, sixV, cellsOf ns, φ.nl, φ.sl, ψ.nl, ψ.sl, rest, wl W, tb φ.f]) r51 (by decide) rfl rfl
  have r6 : ∃ ρ6, ρ6 = upd ρ5 "g" (.lst [ns.map V.int, sixV, cellsOf ns, φ.nl, φ.sl, ψ.nl, ψ.sl, rest, wl W, tb φ.f].length) ∧ ρ6 "one" = some (fm φ.g 3 4) ∧ ρ6 "two" = some (fm ψ.g 5 6) ∧ ρ6 "weights" = some (.lst 8) ∧ ρ6 "f" = some (.lst 9) ∧ ρ6 "g" = some (.lst 10) :=
    ⟨_, rfl, by simp [upd, r50], by simp [upd, r51], by simp [upd, r52], by simp [upd, r53], by simp [upd]⟩
  obtain ⟨ρ6, e6, r60, r61, r62, r63, r64⟩ := r6
  rw [← e6] at a6
  clear e6
  have a7 := law7 (lo := 1) (p := φ.f) (q := ψ.f) (σ := [ns.map V.int, sixV, cellsOf ns, φ.nl, φ.sl, ψ.nl, ψ.sl, rest, wl W, tb φ.f, tb ψ.f]) r63 r64 rfl rfl
  have r7 : ∃ ρ7, ρ7 = upd ρ6 "dues" (.lst ([ns.map V.int, sixV, cellsOf ns, φ.nl, φ.sl, ψ.nl, ψ.sl, rest, wl W, tb φ.f, tb ψ.f].length + 5)) ∧ ρ7 "one" = some (fm φ.g 3 4) ∧ ρ7 "two" = some (fm ψ.g 5 6) ∧ ρ7 "weights" = some (.lst 8) ∧ ρ7 "f" = some (.lst 9) ∧ ρ7 "g" = some (.lst 10) ∧ ρ7 "dues" = some (.lst 16) :=
    ⟨_, rfl, by simp [upd, r60], by simp [upd, r61], by simp [upd, r62], by simp [upd, r63], by simp [upd, r64], by simp [upd]⟩
  obtain ⟨ρ7, e7, r70, r71, r72, r73, r74, r75⟩ := r7
  rw [← e7] at a7
  clear e7
  have a7 : D_law7 1 ρ6 [ns.map V.int, sixV, cellsOf ns, φ.nl, φ.sl, ψ.nl, ψ.sl, rest, wl W, tb φ.f, tb ψ.f] = some (.next, ρ7, [ns.map V.int, sixV, cellsOf ns, φ.nl, φ.sl, ψ.nl, ψ.sl, rest, wl W, tb φ.f, tb ψ.f, tb (due φ ψ 2), tb (due φ ψ 3), tb (due φ ψ 4), [V.int 1], tb (due φ ψ 5), [.lst 9, .lst 10, .lst 11, .lst 12, .lst 13, .lst 15]]) := a7
  have a8 := law8 φ ψ (lo := 1) (σ := [ns.map V.int, sixV, cellsOf ns, φ.nl, φ.sl, ψ.nl, ψ.sl, rest, wl W, tb φ.f, tb ψ.f, tb (due φ ψ 2), tb (due φ ψ 3), tb (due φ ψ 4), [V.int 1], tb (due φ ψ 5), [.lst 9, .lst 10, .lst 11, .lst 12, .lst 13, .lst 15]]) r70 (by decide) rfl rfl r71 (by decide) rfl rfl
  have r8 : ∃ ρ8, ρ8 = upd (upd ρ7 "tail" (.str (S (ψ.tks.map Tm.code)))) "head" (.str (S (φ.tks.map Tm.code))) ∧ ρ8 "weights" = some (.lst 8) ∧ ρ8 "f" = some (.lst 9) ∧ ρ8 "g" = some (.lst 10) ∧ ρ8 "dues" = some (.lst 16) ∧ ρ8 "head" = some (.str (S (φ.tks.map Tm.code))) ∧ ρ8 "tail" = some (.str (S (ψ.tks.map Tm.code))) :=
    ⟨_, rfl, by simp [upd, r72], by simp [upd, r73], by simp [upd, r74], by simp [upd, r75], by simp [upd], by simp [upd]⟩
  obtain ⟨ρ8, e8, r80, r81, r82, r83, r84, r85⟩ := r8
  rw [← e8] at a8
  clear e8
  have a9 := law9 φ ψ (lo := 1) (σ := [ns.map V.int, sixV, cellsOf ns, φ.nl, φ.sl, ψ.nl, ψ.sl, rest, wl W, tb φ.f, tb ψ.f, tb (due φ ψ 2), tb (due φ ψ 3), tb (due φ ψ 4), [V.int 1], tb (due φ ψ 5), [.lst 9, .lst 10, .lst 11, .lst 12, .lst 13, .lst 15]]) r84 r85
  have r9 : ∃ ρ9, ρ9 = upd ρ8 "texts" (.lst [ns.map V.int, sixV, cellsOf ns, φ.nl, φ.sl, ψ.nl, ψ.sl, rest, wl W, tb φ.f, tb ψ.f, tb (due φ ψ 2), tb (due φ ψ 3), tb (due φ ψ 4), [V.int 1], tb (due φ ψ 5), [.lst 9, .lst 10, .lst 11, .lst 12, .lst 13, .lst 15]].length) ∧ ρ9 "weights" = some (.lst 8) ∧ ρ9 "f" = some (.lst 9) ∧ ρ9 "g" = some (.lst 10) ∧ ρ9 "dues" = some (.lst 16) ∧ ρ9 "texts" = some (.lst 17) :=
    ⟨_, rfl, by simp [upd, r80], by simp [upd, r81], by simp [upd, r82], by simp [upd, r83], by simp [upd]⟩
  obtain ⟨ρ9, e9, r90, r91, r92, r93, r94⟩ := r9
  rw [← e9] at a9
  clear e9
  have a10 : D_law10 1 ρ9 [ns.map V.int, sixV, cellsOf ns, φ.nl, φ.sl, ψ.nl, ψ.sl, rest, wl W, tb φ.f, tb ψ.f, tb (due φ ψ 2), tb (due φ ψ 3), tb (due φ ψ 4), [V.int 1], tb (due φ ψ 5), [.lst 9, .lst 10, .lst 11, .lst 12, .lst 13, .lst 15], textsV φ ψ] = some (.next, upd ρ9 "heaps" (.lst 18), [ns.map V.int, sixV, cellsOf ns, φ.nl, φ.sl, ψ.nl, ψ.sl, rest, wl W, tb φ.f, tb ψ.f, tb (due φ ψ 2), tb (due φ ψ 3), tb (due φ ψ 4), [V.int 1], tb (due φ ψ 5), [.lst 9, .lst 10, .lst 11, .lst 12, .lst 13, .lst 15], textsV φ ψ, []]) := law10
  have r10' : ∃ ρ10, ρ10 = upd ρ9 "heaps" (.lst 18) ∧ ρ10 "weights" = some (.lst 8) ∧ ρ10 "f" = some (.lst 9) ∧ ρ10 "g" = some (.lst 10) ∧ ρ10 "dues" = some (.lst 16) ∧ ρ10 "texts" = some (.lst 17) ∧ ρ10 "heaps" = some (.lst 18) :=
    ⟨_, rfl, by simp [upd, r90], by simp [upd, r91], by simp [upd, r92], by simp [upd, r93], by simp [upd, r94], by simp [upd]⟩
  obtain ⟨ρ10, e10, s0, s1, s2, s3, s4, s5⟩ := r10'
  rw [← e10] at a10
  clear e10
  obtain ⟨ρ11, σ11, a11, k11, m11, h11⟩ := law11 (lo := 1) hW (φ := φ) (ψ := ψ) (σ := [ns.map V.int, sixV, cellsOf ns, φ.nl, φ.sl, ψ.nl, ψ.sl, rest, wl W, tb φ.f, tb ψ.f, tb (due φ ψ 2), tb (due φ ψ 3), tb (due φ ψ 4), [V.int 1], tb (due φ ψ 5), [.lst 9, .lst 10, .lst 11, .lst 12, .lst 13, .lst 15], textsV φ ψ, []])
    (⟨s0, s5, by decide, rfl, rfl, Nat.zero_le _⟩ : Heaps W 8 18 [] ρ10 _) (by decide) s4 s3 (by decide) (by decide) rfl rfl (by decide) (by decide) (by decide) (by decide) (by decide) (by decide) rfl rfl rfl rfl rfl rfl
  have f11 : ρ11 "f" = some (.lst 9) := (k11 _ (by decide) (by decide) (by decide) (by decide) (by decide)).trans s1
  have g11 : ρ11 "g" = some (.lst 10) := (k11 _ (by decide) (by decide) (by decide) (by decide) (by decide)).trans s2
  have p11 : ρ11 "heaps" = some (.lst 18) := (k11 _ (by decide) (by decide) (by decide) (by decide) (by decide)).trans s5
  have x9 : σ11[9]? = some (tb φ.f) := m11 9 _ (by decide) rfl
  have x10 : σ11[10]? = some (tb ψ.f) := m11 10 _ (by decide) rfl
  obtain ⟨τ, a12⟩ := law12 (lo := 1) f11 g11 x9 x10
  have sh : upd ρ11 "share" (.bool (shareP φ ψ)) "share" = some (.bool (shareP φ ψ)) := by simp [upd]
  have p12 : upd ρ11 "share" (.bool (shareP φ ψ)) "heaps" = some (.lst 18) := by simp [upd, p11]
  generalize upd ρ11 "share" (V.bool (shareP φ ψ)) = ρ12 at *
  have h12 : (σ11 ++ τ)[18]? = some [heapV W φ ψ 0, heapV W φ ψ 1, heapV W φ ψ 2, heapV W φ ψ 3, heapV W φ ψ 4, heapV W φ ψ 5] := getE h11
  generalize σ11 ++ τ = σ12 at *
  have a13 := law13 (lo := 1) (σ := σ12) sh
  have p13 : upd ρ12 "truth" (.lst σ12.length) "heaps" = some (.lst 18) := by simp [upd, p12]
  have t13 : upd ρ12 "truth" (.lst σ12.length) "truth" = some (.lst σ12.length) := by simp [upd]
  generalize upd ρ12 "truth" (V.lst σ12.length) = ρ13 at *
  obtain ⟨ρ14, σ14, a14⟩ := law14 (lo := 1) hW p13 (getE h12) t13 last_get
  have a15 : D_law15 1 ρ14 σ14 = some (.ret (.bool true), ρ14, σ14) := rfl
  refine ⟨σ14, fCall_law (ρ := ρ14) rfl ?_⟩
  exact (seq_next a0).trans ((seq_next a1).trans ((seq_next a2).trans ((seq_next a3).trans ((seq_next a4).trans ((seq_next a5).trans ((seq_next a6).trans ((seq_next a7).trans ((seq_next a8).trans ((seq_next a9).trans ((seq_next a10).trans ((seq_next a11).trans ((seq_next a12).trans ((seq_next a13).trans ((seq_next a14).trans (seq_ret a15)))))))))))))))
end Mine
end

section
open PySem PySem.W PyProof.Rows
set_option Elab.async false
set_option autoImplicit false
namespace Mine
theorem wellList {P : Params} {h : Heap} {a : Addr} {d : WData} {ys : List WData} (x : Well P h (.ref a) d) (e : d = .list ys) : ∃ vs : List Value, h.get? a = some { cls := .type "list", data := .seq vs.toArray } := by
  cases x <;> first | (cases e; done) | skip
  exact ⟨_, ‹h.get? a = _›⟩
theorem intsRps {h : Heap} {α : List Addr} : ∀ {vs : List Value} {ns : List Int}, IntsAre vs ns → Rps [] h α (ns.map V.int) vs
  | _, _, .nil => .nil
  | _, _, .cons _ _ r => .cons (.int _ _) (intsRps r)
theorem room : Room callerA 16 := ⟨rfl, by decide, by decide⟩
theorem joinLaw {w : World} {s : Shared} {mean : ExcName → Option Value} {mg mb : Str → Option Value} {fa a : Addr} {vs : List Value} {ns : List Int} {Q E : Value → Shared → Prop} {σ' : Store}
    (hp : fCall ["script"] D_law [.lst 0] [ns.map V.int] = some (.bool true, σ'))
    (KX : (K0 w.params).In s.heap) (T : Top v0 (looseW v0 loose0) mean mg mb s.heap) (hmg : mg (Str.ofString "law") = some (.ref fa))
    {d : WData} {ys : List WData} (w1 : Well w.params s.heap (.ref a) d) (hd : d = .list ys) (hL : s.heap.IsList a vs.toArray) (hI : IntsAre vs ns) (hlen : ns.length ≤ 63)
    (hQ : ∀ h' tk, Sub s.heap h' → Q (.bool true) { s with heap := h', toks := tk }) : wpAny (model Prg w) callerA (call (.ref fa) [.ref a]) Q E s := by
  have hfa : fa = 147 := by
    have := mg_of KX T.g (n := Str.ofString "law") (v := .ref 147) rfl
    rw [hmg] at this
    cases this; rfl
  subst hfa
  obtain ⟨vs', hv⟩ := wellList w1 hd
  have : vs' = vs := by
    obtain ⟨o, ho, _, n, hd⟩ := hL
    rw [hv] at ho; cases ho
    simp at hd
    exact hd.1
  subst this
  have S : StR [] s.heap [a] [ns.map V.int] := by
    refine ⟨rfl, by simp, fun i xs e => ?_, fun xs hx => ?_, fun _ h => nomatch h⟩
    · match i, e with
      | 0, e =>
        cases e
        exact ⟨a, vs', rfl, ⟨_, hv⟩, intsRps hI⟩
      | i + 1, e => simp at e
    · rw [List.mem_singleton.mp hx, List.length_map]
      show ns.length ≤ 4096; omega
  refine F_law (w := w) (lvl := 0) [] callerA s [a] [ns.map V.int] [.lst 0] [.ref a] (.bool true) σ' Q E room ⟨KX, mean, mg, mb, T⟩ S (.cons (.lst rfl) .nil) hp ?_
  intro u h' tk' β k fr S' r
  cases r
  exact hQ h' tk' k
end Mine
end

open PySem PySem.W PyProof.Rows
set_option maxRecDepth 100000 in
set_option maxHeartbeats 8000000 in
theorem PySem.Challenge.cw_yf0018_01_holds : PySem.Challenge.rw_yf0018_01.Holds :=
  Mine.hd (by
  intro w s₀ s₁ mg mb G Y fa o pm cd doc dV kV ho hd hcd hD hmg hg args vals as hpre hlay hrd hwl hlo
  have KX := kIn_of Y
  refine Ground.open G ?_
  intro T B D TE TW
  clear hd hD Y ho hcd
  wrow_args hpre hlay hrd hwl hlo
  rename_i ns hs hlay0 hL0 hr0 hl2 as1 as2 a vs as3 hL ra w1 r0 hI hr hc1 hc2
  have hlen : ns.length ≤ 63 := by omega
  obtain ⟨σ', hp⟩ := Mine.plainLaw ns hlen
  refine Mine.joinLaw hp KX T hmg w1 rfl hL hI hlen fun h' tk k => ?_
  refine ⟨.inl ⟨.bool true, .bool true, [], rfl, fun _ => rfl, .bool true, ?_, ?_⟩, .of_keep k, rfl, .of_eq hg⟩
  · first | (wrow_close; done) | kernel_rfl | decide +kernel | (simp [Wide.OpenLaw.row]; done)
  · exact fun _ => ⟨List.nodup_nil, fun _ h => nomatch h⟩
    )
