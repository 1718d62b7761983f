import PyProof.Rows.All
import Wide.All
import OpenK.AllK
import Wide.FinOn
import PyProof.Rows.EnumRows
import PyProof.CollectStr
import PyProof.Rows.SortStr
import PyProof.StrLawsLast
import PySem.Challenge.RW_ux0019_01
set_option Elab.async false
set_option rowWalk.seconds 0
local macro_rules | `(tactic| walk_at $s:str) => `(tactic| k_extra $s)
local macro_rules | `(tactic| k_room) => `(tactic| ktr_room)
local macro_rules | `(tactic| k_mem) => `(tactic| walk_at "kmem")
section
open PySem PySem.W PyProof.Rows
set_option maxRecDepth 100000
namespace Mine
noncomputable def fdParts : Stmt → Option (Str × Arguments × List Stmt × Scope)
  | .FunctionDef n a b _ _ _ sc _ _ _ => some (n, a, b, sc)
  | _ => none
noncomputable def fobj (i : Nat) (m : Str) (t : Tok) (cd : Addr) : Obj := match fdParts (Challenge.pw_ux0019_01.main.body.getD i (.Pass ⟨0, 0, 0, 0⟩)) with
  | some (n, a, b, sc) => { cls := .type "function", data := .func { name := n, qualname := n, params := a, body := .stmts b, scope := sc, globals := 3, closure := [], defaults := .none, kwdefaults := .none, pyModule := .str m t, code := .ref cd } }
  | none => default
noncomputable def kent (P : Params) (x : Str) (t : Tok) (v : Value) : DictEntry := { hash := PyData.keyHash P x, key := .str x t, val := v }
noncomputable def k3_a (P : Params) : List DictEntry := [kent P (Str.ofString "__name__") 165 (Value.str (Str.ofString "law_ux0019_01") 463), kent P (Str.ofString "__doc__") 166 (Value.none), kent P (Str.ofString "__package__") 167 (Value.none), kent P (Str.ofString "__loader__") 168 (Value.builtin "__main__.__loader__#opaque"), kent P (Str.ofString "__spec__") 169 (Value.none), kent P (Str.ofString "__annotations__") 170 (Value.ref 6), kent P (Str.ofString "__builtins__") 171 (Value.ref 4), kent P (Str.ofString "__file__") 173 (Value.str (Str.ofString "/claim/cut.py") 172), kent P (Str.ofString "__cached__") 174 (Value.none), kent P (Str.ofString "Error") 208 (Value.ref 24), kent P (Str.ofString "error_reply") 224 (Value.ref 37), kent P (Str.ofString "parse257") 235 (Value.ref 46)]
noncomputable def k3_b (P : Params) : List DictEntry := [kent P (Str.ofString "ELLIPSIS_MARKER") 239 (Value.str (Str.ofString "...") 238), kent P (Str.ofString "_ellipsis_match") 251 (Value.ref 53), kent P (Str.ofString "LPAR") 255 (Value.int 7 254), kent P (Str.ofString "RPAR") 257 (Value.int 8 256), kent P (Str.ofString "LSQB") 259 (Value.int 9 258), kent P (Str.ofString "RSQB") 261 (Value.int 10 260), kent P (Str.ofString "COLON") 263 (Value.int 11 262), kent P (Str.ofString "COMMA") 265 (Value.int 12 264), kent P (Str.ofString "SEMI") 267 (Value.int 13 266), kent P (Str.ofString "PLUS") 269 (Value.int 14 268), kent P (Str.ofString "MINUS") 271 (Value.int 15 270), kent P (Str.ofString "STAR") 273 (Value.int 16 272)]
noncomputable def k3_c (P : Params) : List DictEntry := [kent P (Str.ofString "SLASH") 275 (Value.int 17 274), kent P (Str.ofString "VBAR") 277 (Value.int 18 276), kent P (Str.ofString "AMPER") 279 (Value.int 19 278), kent P (Str.ofString "LESS") 281 (Value.int 20 280), kent P (Str.ofString "GREATER") 283 (Value.int 21 282), kent P (Str.ofString "EQUAL") 285 (Value.int 22 284), kent P (Str.ofString "DOT") 287 (Value.int 23 286), kent P (Str.ofString "PERCENT") 289 (Value.int 24 288), kent P (Str.ofString "LBRACE") 291 (Value.int 25 290), kent P (Str.ofString "RBRACE") 293 (Value.int 26 292), kent P (Str.ofString "EQEQUAL") 295 (Value.int 27 294), kent P (Str.ofString "NOTEQUAL") 297 (Value.int 28 296)]
noncomputable def k3_d (P : Params) : List DictEntry := [kent P (Str.ofString "LESSEQUAL") 299 (Value.int 29 298), kent P (Str.ofString "GREATEREQUAL") 301 (Value.int 30 300), kent P (Str.ofString "TILDE") 303 (Value.int 31 302), kent P (Str.ofString "CIRCUMFLEX") 305 (Value.int 32 304), kent P (Str.ofString "LEFTSHIFT") 307 (Value.int 33 306), kent P (Str.ofString "RIGHTSHIFT") 309 (Value.int 34 308), kent P (Str.ofString "DOUBLESTAR") 311 (Value.int 35 310), kent P (Str.ofString "PLUSEQUAL") 313 (Value.int 36 312), kent P (Str.ofString "MINEQUAL") 315 (Value.int 37 314), kent P (Str.ofString "STAREQUAL") 317 (Value.int 38 316), kent P (Str.ofString "SLASHEQUAL") 319 (Value.int 39 318), kent P (Str.ofString "PERCENTEQUAL") 321 (Value.int 40 320)]
noncomputable def k3_e (P : Params) : List DictEntry := [kent P (Str.ofString "AMPEREQUAL") 323 (Value.int 41 322), kent P (Str.ofString "VBAREQUAL") 325 (Value.int 42 324), kent P (Str.ofString "CIRCUMFLEXEQUAL") 327 (Value.int 43 326), kent P (Str.ofString "LEFTSHIFTEQUAL") 329 (Value.int 44 328), kent P (Str.ofString "RIGHTSHIFTEQUAL") 331 (Value.int 45 330), kent P (Str.ofString "DOUBLESTAREQUAL") 333 (Value.int 46 332), kent P (Str.ofString "DOUBLESLASH") 335 (Value.int 47 334), kent P (Str.ofString "DOUBLESLASHEQUAL") 337 (Value.int 48 336), kent P (Str.ofString "AT") 339 (Value.int 49 338), kent P (Str.ofString "ATEQUAL") 341 (Value.int 50 340), kent P (Str.ofString "RARROW") 343 (Value.int 51 342), kent P (Str.ofString "ELLIPSIS") 345 (Value.int 52 344)]
noncomputable def k3_f (P : Params) : List DictEntry := [kent P (Str.ofString "COLONEQUAL") 347 (Value.int 53 346), kent P (Str.ofString "EXCLAMATION") 349 (Value.int 54 348), kent P (Str.ofString "NT_OFFSET") 351 (Value.int 256 350), kent P (Str.ofString "EXACT_TOKEN_TYPES") 448 (Value.ref 54), kent P (Str.ofString "ISTERMINAL") 455 (Value.ref 63), kent P (Str.ofString "ISNONTERMINAL") 462 (Value.ref 70), kent P (Str.ofString "_law_told") 472 (Value.ref 77), kent P (Str.ofString "_law_gap") 480 (Value.ref 84), kent P (Str.ofString "_law_lower") 488 (Value.ref 91), kent P (Str.ofString "_law_pile") 501 (Value.ref 98), kent P (Str.ofString "_law_line") 513 (Value.ref 105), kent P (Str.ofString "_law_hand") 523 (Value.ref 112)]
noncomputable def k3_g (P : Params) : List DictEntry := [kent P (Str.ofString "_law_takes") 532 (Value.ref 119), kent P (Str.ofString "law") 538 (Value.ref 124)]
noncomputable def k3 (P : Params) : Obj := { cls := Value.type "dict", data := Data.dict (Array.mk (k3_a P ++ (k3_b P ++ (k3_c P ++ (k3_d P ++ (k3_e P ++ (k3_f P ++ (k3_g P)))))))) 74 }
noncomputable def k15 : Obj := { cls := Value.type "tuple", data := Data.seq #[Value.type "Exception"] }
noncomputable def k23_a (P : Params) : List DictEntry := [kent P (Str.ofString "__module__") 196 (Value.str (Str.ofString "cpy313.ftplib") 187), kent P (Str.ofString "__firstlineno__") 200 (Value.int 2 199), kent P (Str.ofString "__static_attributes__") 201 (Value.ref 22), kent P (Str.ofString "__weakref__") 203 (Value.ref 25), kent P (Str.ofString "__doc__") 204 (Value.none)]
noncomputable def k23 (P : Params) : Obj := { cls := Value.type "dict", data := Data.dict (Array.mk (k23_a P)) 3 }
noncomputable def k24 : Obj := { cls := Value.type "type", data := Data.cls { name := Str.ofString "Error", bases := [Value.type "Exception"], mro := [Value.ref 24, Value.type "Exception", Value.type "BaseException", Value.type "object"], ns := 23, qualname := Str.ofString "Error", subclasses := [Value.ref 37] }, slots := #[some (Value.ref 15), none, some (Value.str (Str.ofString "Error") 189), some (Value.str (Str.ofString "Error") 197), some (Value.builtin "Exception.__new__"), some (Value.bool true)] }
noncomputable def k28 : Obj := { cls := Value.type "tuple", data := Data.seq #[Value.ref 24] }
noncomputable def k36_a (P : Params) : List DictEntry := [kent P (Str.ofString "__module__") 216 (Value.str (Str.ofString "cpy313.ftplib") 187), kent P (Str.ofString "__firstlineno__") 220 (Value.int 4 219), kent P (Str.ofString "__static_attributes__") 221 (Value.ref 35), kent P (Str.ofString "__doc__") 222 (Value.none)]
noncomputable def k36 (P : Params) : Obj := { cls := Value.type "dict", data := Data.dict (Array.mk (k36_a P)) 2 }
noncomputable def k37 : Obj := { cls := Value.type "type", data := Data.cls { name := Str.ofString "error_reply", bases := [Value.ref 24], mro := [Value.ref 37, Value.ref 24, Value.type "Exception", Value.type "BaseException", Value.type "object"], ns := 36, qualname := Str.ofString "error_reply" }, slots := #[some (Value.ref 28), none, some (Value.str (Str.ofString "error_reply") 209), some (Value.str (Str.ofString "error_reply") 217), some (Value.builtin "Exception.__new__"), some (Value.bool true)] }
noncomputable def k45 : Obj := { cls := Value.type "code", data := Data.fields #[Value.str (Str.ofString "parse257") 225, Value.str (Str.ofString "parse257") 226, Value.str (Str.ofString "/claim/cut.py") 227, Value.int 6 0, Value.int 1 0, Value.int 0 0, Value.int 0 0, Value.int 3 0, Value.ref 40, Value.bool true, Value.int 181 0, Value.ref 41, Value.none, Value.ref 42, Value.ref 43, Value.ref 44, Value.int 233 0, Value.int 6 0, Value.str (Str.ofString "/claim/cut.py") 234] }
noncomputable def k46 : Obj := fobj 3 (Str.ofString "cpy313.ftplib") 187 45
noncomputable def k52 : Obj := { cls := Value.type "code", data := Data.fields #[Value.str (Str.ofString "_ellipsis_match") 240, Value.str (Str.ofString "_ellipsis_match") 241, Value.str (Str.ofString "/claim/cut.py") 242, Value.int 25 0, Value.int 2 0, Value.int 0 0, Value.int 0 0, Value.int 3 0, Value.ref 47, Value.bool true, Value.int 181 0, Value.ref 48, Value.none, Value.ref 49, Value.ref 50, Value.ref 51, Value.int 249 0, Value.int 25 0, Value.str (Str.ofString "/claim/cut.py") 250] }
noncomputable def k53 : Obj := fobj 6 (Str.ofString "cpy313.doctest") 236 52
noncomputable def k54_a (P : Params) : List DictEntry := [kent P (Str.ofString "!") 352 (Value.int 54 348), kent P (Str.ofString "!=") 354 (Value.int 28 296), kent P (Str.ofString "%") 356 (Value.int 24 288), kent P (Str.ofString "%=") 358 (Value.int 40 320), kent P (Str.ofString "&") 360 (Value.int 19 278), kent P (Str.ofString "&=") 362 (Value.int 41 322), kent P (Str.ofString "(") 364 (Value.int 7 254), kent P (Str.ofString ")") 366 (Value.int 8 256), kent P (Str.ofString "*") 368 (Value.int 16 272), kent P (Str.ofString "**") 370 (Value.int 35 310), kent P (Str.ofString "**=") 372 (Value.int 46 332), kent P (Str.ofString "*=") 374 (Value.int 38 316)]
noncomputable def k54_b (P : Params) : List DictEntry := [kent P (Str.ofString "+") 376 (Value.int 14 268), kent P (Str.ofString "+=") 378 (Value.int 36 312), kent P (Str.ofString ",") 380 (Value.int 12 264), kent P (Str.ofString "-") 382 (Value.int 15 270), kent P (Str.ofString "-=") 384 (Value.int 37 314), kent P (Str.ofString "->") 386 (Value.int 51 342), kent P (Str.ofString ".") 388 (Value.int 23 286), kent P (Str.ofString "...") 390 (Value.int 52 344), kent P (Str.ofString "/") 392 (Value.int 17 274), kent P (Str.ofString "//") 394 (Value.int 47 334), kent P (Str.ofString "//=") 396 (Value.int 48 336), kent P (Str.ofString "/=") 398 (Value.int 39 318)]
noncomputable def k54_c (P : Params) : List DictEntry := [kent P (Str.ofString ":") 400 (Value.int 11 262), kent P (Str.ofString ":=") 402 (Value.int 53 346), kent P (Str.ofString ";") 404 (Value.int 13 266), kent P (Str.ofString "<") 406 (Value.int 20 280), kent P (Str.ofString "<<") 408 (Value.int 33 306), kent P (Str.ofString "<<=") 410 (Value.int 44 328), kent P (Str.ofString "<=") 412 (Value.int 29 298), kent P (Str.ofString "=") 414 (Value.int 22 284), kent P (Str.ofString "==") 416 (Value.int 27 294), kent P (Str.ofString ">") 418 (Value.int 21 282), kent P (Str.ofString ">=") 420 (Value.int 30 300), kent P (Str.ofString ">>") 421 (Value.int 34 308)]
noncomputable def k54_d (P : Params) : List DictEntry := [kent P (Str.ofString ">>=") 422 (Value.int 45 330), kent P (Str.ofString "@") 423 (Value.int 49 338), kent P (Str.ofString "@=") 424 (Value.int 50 340), kent P (Str.ofString "[") 425 (Value.int 9 258), kent P (Str.ofString "]") 426 (Value.int 10 260), kent P (Str.ofString "^") 427 (Value.int 32 304), kent P (Str.ofString "^=") 428 (Value.int 43 326), kent P (Str.ofString "{") 429 (Value.int 25 290), kent P (Str.ofString "|") 430 (Value.int 18 276), kent P (Str.ofString "|=") 431 (Value.int 42 324), kent P (Str.ofString "}") 432 (Value.int 26 292), kent P (Str.ofString "~") 433 (Value.int 31 302)]
noncomputable def k54 (P : Params) : Obj := { cls := Value.type "dict", data := Data.dict (Array.mk (k54_a P ++ (k54_b P ++ (k54_c P ++ (k54_d P))))) 48 }
noncomputable def k62 : Obj := { cls := Value.type "code", data := Data.fields #[Value.str (Str.ofString "ISTERMINAL") 449, Value.str (Str.ofString "ISTERMINAL") 450, Value.str (Str.ofString "/claim/cut.py") 451, Value.int 104 0, Value.int 1 0, Value.int 0 0, Value.int 0 0, Value.int 3 0, Value.ref 57, Value.bool true, Value.int 181 0, Value.ref 58, Value.none, Value.ref 59, Value.ref 60, Value.ref 61, Value.int 453 0, Value.int 104 0, Value.str (Str.ofString "/claim/cut.py") 454] }
noncomputable def k63 : Obj := fobj 58 (Str.ofString "cpy313.token") 252 62
noncomputable def k69 : Obj := { cls := Value.type "code", data := Data.fields #[Value.str (Str.ofString "ISNONTERMINAL") 456, Value.str (Str.ofString "ISNONTERMINAL") 457, Value.str (Str.ofString "/claim/cut.py") 458, Value.int 106 0, Value.int 1 0, Value.int 0 0, Value.int 0 0, Value.int 3 0, Value.ref 64, Value.bool true, Value.int 181 0, Value.ref 65, Value.none, Value.ref 66, Value.ref 67, Value.ref 68, Value.int 460 0, Value.int 106 0, Value.str (Str.ofString "/claim/cut.py") 461] }
noncomputable def k70 : Obj := fobj 59 (Str.ofString "cpy313.token") 252 69
noncomputable def k76 : Obj := { cls := Value.type "code", data := Data.fields #[Value.str (Str.ofString "_law_told") 465, Value.str (Str.ofString "_law_told") 466, Value.str (Str.ofString "/claim/cut.py") 467, Value.int 109 0, Value.int 1 0, Value.int 0 0, Value.int 0 0, Value.int 3 0, Value.ref 71, Value.bool true, Value.int 181 0, Value.ref 72, Value.none, Value.ref 73, Value.ref 74, Value.ref 75, Value.int 470 0, Value.int 109 0, Value.str (Str.ofString "/claim/cut.py") 471] }
noncomputable def k77 : Obj := fobj 61 (Str.ofString "law_ux0019_01") 463 76
noncomputable def k83 : Obj := { cls := Value.type "code", data := Data.fields #[Value.str (Str.ofString "_law_gap") 473, Value.str (Str.ofString "_law_gap") 474, Value.str (Str.ofString "/claim/cut.py") 475, Value.int 114 0, Value.int 2 0, Value.int 0 0, Value.int 0 0, Value.int 3 0, Value.ref 78, Value.bool true, Value.int 181 0, Value.ref 79, Value.none, Value.ref 80, Value.ref 81, Value.ref 82, Value.int 478 0, Value.int 114 0, Value.str (Str.ofString "/claim/cut.py") 479] }
noncomputable def k84 : Obj := fobj 62 (Str.ofString "law_ux0019_01") 463 83
noncomputable def k90 : Obj := { cls := Value.type "code", data := Data.fields #[Value.str (Str.ofString "_law_lower") 481, Value.str (Str.ofString "_law_lower") 482, Value.str (Str.ofString "/claim/cut.py") 483, Value.int 116 0, Value.int 2 0, Value.int 0 0, Value.int 0 0, Value.int 3 0, Value.ref 85, Value.bool true, Value.int 181 0, Value.ref 86, Value.none, Value.ref 87, Value.ref 88, Value.ref 89, Value.int 486 0, Value.int 116 0, Value.str (Str.ofString "/claim/cut.py") 487] }
noncomputable def k91 : Obj := fobj 63 (Str.ofString "law_ux0019_01") 463 90
noncomputable def k97 : Obj := { cls := Value.type "code", data := Data.fields #[Value.str (Str.ofString "_law_pile") 489, Value.str (Str.ofString "_law_pile") 490, Value.str (Str.ofString "/claim/cut.py") 491, Value.int 118 0, Value.int 2 0, Value.int 0 0, Value.int 0 0, Value.int 3 0, Value.ref 92, Value.bool true, Value.int 181 0, Value.ref 93, Value.none, Value.ref 94, Value.ref 95, Value.ref 96, Value.int 499 0, Value.int 118 0, Value.str (Str.ofString "/claim/cut.py") 500] }
noncomputable def k98 : Obj := fobj 64 (Str.ofString "law_ux0019_01") 463 97
noncomputable def k104 : Obj := { cls := Value.type "code", data := Data.fields #[Value.str (Str.ofString "_law_line") 502, Value.str (Str.ofString "_law_line") 503, Value.str (Str.ofString "/claim/cut.py") 504, Value.int 133 0, Value.int 1 0, Value.int 0 0, Value.int 0 0, Value.int 3 0, Value.ref 99, Value.bool true, Value.int 181 0, Value.ref 100, Value.none, Value.ref 101, Value.ref 102, Value.ref 103, Value.int 511 0, Value.int 133 0, Value.str (Str.ofString "/claim/cut.py") 512] }
noncomputable def k105 : Obj := fobj 65 (Str.ofString "law_ux0019_01") 463 104
noncomputable def k111 : Obj := { cls := Value.type "code", data := Data.fields #[Value.str (Str.ofString "_law_hand") 514, Value.str (Str.ofString "_law_hand") 515, Value.str (Str.ofString "/claim/cut.py") 516, Value.int 154 0, Value.int 1 0, Value.int 0 0, Value.int 0 0, Value.int 3 0, Value.ref 106, Value.bool true, Value.int 181 0, Value.ref 107, Value.none, Value.ref 108, Value.ref 109, Value.ref 110, Value.int 521 0, Value.int 154 0, Value.str (Str.ofString "/claim/cut.py") 522] }
noncomputable def k112 : Obj := fobj 66 (Str.ofString "law_ux0019_01") 463 111
noncomputable def k118 : Obj := { cls := Value.type "code", data := Data.fields #[Value.str (Str.ofString "_law_takes") 524, Value.str (Str.ofString "_law_takes") 525, Value.str (Str.ofString "/claim/cut.py") 526, Value.int 164 0, Value.int 2 0, Value.int 0 0, Value.int 0 0, Value.int 3 0, Value.ref 113, Value.bool true, Value.int 181 0, Value.ref 114, Value.none, Value.ref 115, Value.ref 116, Value.ref 117, Value.int 530 0, Value.int 164 0, Value.str (Str.ofString "/claim/cut.py") 531] }
noncomputable def k119 : Obj := fobj 67 (Str.ofString "law_ux0019_01") 463 118
noncomputable def k123 : Obj := { cls := Value.type "code", data := Data.fields #[Value.str (Str.ofString "law") 533, Value.str (Str.ofString "law") 534, Value.str (Str.ofString "/claim/cut.py") 535, Value.int 171 0, Value.int 1 0, Value.int 0 0, Value.int 0 0, Value.int 3 0, Value.ref 120, Value.bool true, Value.int 181 0, Value.ref 121, Value.none, Value.none, Value.none, Value.ref 122, Value.int 536 0, Value.int 171 0, Value.str (Str.ofString "/claim/cut.py") 537] }
noncomputable def k124 : Obj := fobj 68 (Str.ofString "law_ux0019_01") 463 123
noncomputable def K9 (P : Params) : Frag :=
  (nat_lit 3, k3 P) ::
  (nat_lit 15, k15) ::
  (nat_lit 23, k23 P) ::
  (nat_lit 24, k24) ::
  (nat_lit 28, k28) ::
  (nat_lit 36, k36 P) ::
  (nat_lit 37, k37) ::
  (nat_lit 45, k45) ::
  (nat_lit 46, k46) ::
  (nat_lit 52, k52) ::
  (nat_lit 53, k53) ::
  (nat_lit 54, k54 P) ::
  (nat_lit 62, k62) ::
  (nat_lit 63, k63) ::
  (nat_lit 69, k69) ::
  (nat_lit 70, k70) ::
  (nat_lit 76, k76) ::
  (nat_lit 77, k77) ::
  (nat_lit 83, k83) ::
  (nat_lit 84, k84) ::
  (nat_lit 90, k90) ::
  (nat_lit 91, k91) ::
  (nat_lit 97, k97) ::
  (nat_lit 98, k98) ::
  (nat_lit 104, k104) ::
  (nat_lit 105, k105) ::
  (nat_lit 111, k111) ::
  (nat_lit 112, k112) ::
  (nat_lit 118, k118) ::
  (nat_lit 119, k119) ::
  (nat_lit 123, k123) ::
  (nat_lit 124, k124) :: []
noncomputable def as9 : List Addr := [3, 15, 23, 24, 28, 36, 37, 45, 46, 52, 53, 54, 62, 63, 69, 70, 76, 77, 83, 84, 90, 91, 97, 98, 104, 105, 111, 112, 118, 119, 123, 124]
end Mine
end

theorem Mine.top_off : True := by
  w_top off
  k_with "kmem" => (first | exact List.mem_cons_self | (refine List.mem_cons_of_mem _ ?_; k_mem) | assumption)
  trivial
theorem Mine.filled_all : PySem.Challenge.rw_ux0019_01.Holds = PySem.Challenge.rw_ux0019_01.Holds ∧ Mine.K9 = Mine.K9 := by
  k_fill
  exact ⟨rfl, rfl⟩

section
namespace Mine
theorem at3 {α : Type} {a b c v : α} {i : Nat} {P : Nat → α → Prop} (h : (#[a, b, c] : Array α)[i]? = some v) (p0 : P 0 a) (p1 : P 1 b) (p2 : P 2 c) : P i v := by
  rcases i with _ | _ | _ | n
  · cases h; exact p0
  · cases h; exact p1
  · cases h; exact p2
  · cases h
theorem at5 {α : Type} {a b c d e v : α} {i : Nat} {P : Nat → α → Prop} (h : (#[a, b, c, d, e] : Array α)[i]? = some v) (p0 : P 0 a) (p1 : P 1 b) (p2 : P 2 c) (p3 : P 3 d) (p4 : P 4 e) : P i v := by
  rcases i with _ | _ | _ | _ | _ | n
  · cases h; exact p0
  · cases h; exact p1
  · cases h; exact p2
  · cases h; exact p3
  · cases h; exact p4
  · cases h
theorem five_of {α : Type} {rs : List α} (h : rs.length = 5) : ∃ r0 r1 r2 r3 r4, rs = [r0, r1, r2, r3, r4] := by
  rcases rs with _ | ⟨a, _ | ⟨b, _ | ⟨c, _ | ⟨d, _ | ⟨e, _ | ⟨f, l⟩⟩⟩⟩⟩⟩
  all_goals first
    | exact ⟨_, _, _, _, _, rfl⟩
    | cases h
theorem three_of {α : Type} {rs : List α} (h : rs.length = 3) : ∃ r0 r1 r2, rs = [r0, r1, r2] := by
  rcases rs with _ | ⟨a, _ | ⟨b, _ | ⟨c, _ | ⟨d, l⟩⟩⟩⟩
  all_goals first
    | exact ⟨_, _, _, rfl⟩
    | cases h
end Mine
end

section
open PySem PySem.W PyProof.Rows
set_option maxRecDepth 100000
namespace Mine
def pq : List Nat → List Nat
  | [] => []
  | c :: r => if c = 34 then (match r with
      | d :: r' => if d = 34 then 34 :: pq r' else []
      | [] => []) else c :: pq r
theorem pq_cons {c : Nat} (h : ¬ c = 34) (r : List Nat) : pq (c :: r) = c :: pq r := by
  cases r <;> simp [pq, h]
abbrev tx (l : List Nat) : Str := ⟨l.toArray⟩
theorem str_ext {a b : Str} (h : a.cps.toList = b.cps.toList) : a = b := Str.ext' (Array.toList_inj.mp h)
theorem tx_cps (l : List Nat) : (tx l).cps.toList = l := rfl
theorem tx_of (x : Str) : x = tx x.cps.toList := rfl
theorem app_cps (a b : Str) : (a ++ b).cps.toList = a.cps.toList ++ b.cps.toList := by rw [Str.cps_append, Array.toList_append]
theorem len_cps (x : Str) : x.length = x.cps.toList.length := by show x.cps.size = _; simp
theorem lit_q : Str.ofString "\"" = ⟨#[34]⟩ := by decide +kernel
theorem beq_one (c d : Nat) : ((⟨#[c]⟩ : Str) == (⟨#[d]⟩ : Str)) = decide (c = d) := by
  rw [Bool.eq_iff_iff]; simp
theorem item_nat {x : Str} {i : Int} {k c : Nat} (hi : i = (k : Int)) (h : x.cps.toList[k]? = some c) : Txt.item x i = ⟨#[c]⟩ := by
  have hk : k < x.cps.toList.length := by
    obtain ⟨h', _⟩ := List.getElem?_eq_some_iff.mp h; exact h'
  have h2 : x.cps[i.toNat]? = some c := by
    subst hi; simpa using h
  have := StrLaws.at_nonneg (x := x) (i := i) (n := c) (by omega) h2
  show (⟨#[((seqIndex? i x.length).bind (x.cps[·]?)).getD 0]⟩ : Str) = _
  rw [this]; rfl
theorem sl_from {x : Str} {i : Int} {k : Nat} (hi : i = (k : Int)) (h : k ≤ x.length) : Txt.slice x (some i) none = tx (x.cps.toList.drop k) := by
  subst hi
  have h' : (k : Int) ≤ x.cps.toList.length := by rw [← len_cps]; omega
  refine (StrLaws.sliceText_from (x := x) ⟨by omega, h'⟩).trans ?_
  show tx _ = tx _
  congr 1
  rw [Int.toNat_natCast]
  exact List.take_of_length_le (by rw [List.length_drop]; omega)
theorem sl_to {x : Str} {j : Int} {k : Nat} (hj : j = (k : Int)) (h : k ≤ x.length) : Txt.slice x none (some j) = tx (x.cps.toList.take k) := by
  subst hj
  have h' : (k : Int) ≤ x.cps.toList.length := by rw [← len_cps]; omega
  refine (StrLaws.sliceText_to (x := x) ⟨by omega, h'⟩).trans ?_
  show tx _ = tx _
  congr 1
  try (rw [Int.toNat_natCast, show (((k + n : Nat) : Int) - (k : Int)).toNat = n by omega])
theorem sl_mid {x : Str} {i j : Int} {k n : Nat} (hi : i = (k : Int)) (hj : j = ((k + n : Nat) : Int)) (h : k + n ≤ x.length) : Txt.slice x (some i) (some j) = tx ((x.cps.toList.drop k).take n) := by
  subst hi hj
  have h' : ((k + n : Nat) : Int) ≤ x.cps.toList.length := by rw [← len_cps]; omega
  refine (StrLaws.sliceText_plain (x := x) ⟨by omega, by omega, h'⟩).trans ?_
  show tx _ = tx _
  congr 1
  rw [Int.toNat_natCast, show (((k + n : Nat) : Int) - (k : Int)).toNat = n by omega]
theorem at_lt {x : Str} {k : Nat} (h : k < x.length) : ∃ c, x.cps.toList[k]? = some c ∧ x.cps.toList.drop k = c :: x.cps.toList.drop (k + 1) := by
  have h' : k < x.cps.toList.length := by rw [← len_cps]; exact h
  exact ⟨_, List.getElem?_eq_getElem h', List.drop_eq_getElem_cons h'⟩
section
variable {x d : Str} {k : Nat} {T : List Nat}
theorem pqA (hpq : d.cps.toList ++ pq (x.cps.toList.drop k) = T) (h0 : (k : Int) < x.length) (h1 : (Txt.item x (k : Int) == Str.ofString "\"") = true) (h2 : (x.length : Int) ≤ (k : Int) + 1) : d = tx T := by
  obtain ⟨c, hc, hd⟩ := at_lt (x := x) (k := k) (by omega)
  rw [item_nat rfl hc, lit_q, beq_one] at h1
  have h1 := of_decide_eq_true h1
  have : x.cps.toList.drop (k + 1) = [] := List.drop_eq_nil_of_le (by rw [← len_cps]; omega)
  rw [hd, this, h1] at hpq
  refine str_ext (Eq.trans ?_ (hpq.trans rfl))
  simp [pq]
theorem pqB (hpq : d.cps.toList ++ pq (x.cps.toList.drop k) = T) (h0 : (k : Int) < x.length) (h1 : (Txt.item x (k : Int) == Str.ofString "\"") = true) (h2 : ¬ (x.length : Int) ≤ (k : Int) + 1)
    (h3 : (Txt.item x ((k : Int) + 1) != Str.ofString "\"") = true) : d = tx T := by
  obtain ⟨c, hc, hd⟩ := at_lt (x := x) (k := k) (by omega)
  obtain ⟨e, he, hd2⟩ := at_lt (x := x) (k := k + 1) (by omega)
  rw [item_nat rfl hc, lit_q, beq_one] at h1
  rw [item_nat (k := k + 1) (by omega) he, lit_q, bne, beq_one] at h3
  have h1 := of_decide_eq_true h1
  have h3 : ¬ e = 34 := by simpa using h3
  rw [hd, hd2, h1] at hpq
  refine str_ext (Eq.trans ?_ (hpq.trans rfl))
  simp [pq, h3]
theorem pqC (hpq : d.cps.toList ++ pq (x.cps.toList.drop k) = T) (h0 : (k : Int) < x.length) (h1 : (Txt.item x (k : Int) == Str.ofString "\"") = true) (h2 : ¬ (x.length : Int) ≤ (k : Int) + 1)
    (h3 : (Txt.item x ((k : Int) + 1) != Str.ofString "\"") = false) : (d ++ Txt.item x (k : Int)).cps.toList ++ pq (x.cps.toList.drop (k + 2)) = T := by
  obtain ⟨c, hc, hd⟩ := at_lt (x := x) (k := k) (by omega)
  obtain ⟨e, he, hd2⟩ := at_lt (x := x) (k := k + 1) (by omega)
  have hi := item_nat (i := (k : Int)) rfl hc
  rw [hi, lit_q, beq_one] at h1
  rw [item_nat (k := k + 1) (by omega) he, lit_q, bne, beq_one] at h3
  have h1 := of_decide_eq_true h1
  have h3 : e = 34 := by simpa using h3
  rw [← hpq, hd, hd2, hi, app_cps, h1, h3]
  simp [pq]
theorem pqD (hpq : d.cps.toList ++ pq (x.cps.toList.drop k) = T) (h0 : (k : Int) < x.length) (h1 : (Txt.item x (k : Int) == Str.ofString "\"") = false) :
    (d ++ Txt.item x (k : Int)).cps.toList ++ pq (x.cps.toList.drop (k + 1)) = T := by
  obtain ⟨c, hc, hd⟩ := at_lt (x := x) (k := k) (by omega)
  have hi := item_nat (i := (k : Int)) rfl hc
  rw [hi, lit_q, beq_one] at h1
  have h1 : ¬ c = 34 := by simpa using h1
  rw [← hpq, hd, hi, app_cps, pq_cons h1]
  simp
theorem pqE (hpq : d.cps.toList ++ pq (x.cps.toList.drop k) = T) (h0 : ¬ (k : Int) < x.length) : d = tx T := by
  have : x.cps.toList.drop k = [] := List.drop_eq_nil_of_le (by rw [← len_cps]; omega)
  rw [this] at hpq
  exact str_ext (Eq.trans (by simp [pq]) (hpq.trans rfl))
end
end Mine
end

section
open PySem PySem.W PyProof.Rows
set_option maxRecDepth 100000
namespace Mine
def sgn : List Nat := [40, 41, 91, 93, 58, 44, 59, 43, 45, 42, 47, 124, 38, 60, 62, 61, 37, 123, 125, 126, 94, 64, 33]
def tokv (c : Nat) : Int := ((sgn.zip [7, 8, 9, 10, 11, 12, 13, 14, 15, 16, 17, 18, 19, 20, 21, 22, 24, 25, 26, 31, 32, 49, 54]).lookup c).getD 0
def handG (h : Nat) : List Nat → List Nat
  | [] => [h]
  | c :: r => if tokv c < tokv h then c :: handG h r else h :: handG c r
end Mine
end

section
open PySem PySem.W PyProof.Rows
set_option maxRecDepth 100000
namespace Mine
def encq : List Nat → List Nat
  | [] => []
  | c :: q => 34 :: c :: 34 :: 32 :: encq q
def lastOf (q : List Nat) : List Nat := q.getLast?.toList
def lineG (q o : List Nat) : List Nat → List Nat
  | [] => o ++ q
  | s :: r => if (q.getLast?.all fun l => decide (¬ tokv s < tokv l)) = true then lineG (q ++ [s]) o r
      else lineG (q.dropWhile fun d => decide (tokv d < tokv s)) (o ++ (q.takeWhile fun d => decide (tokv d < tokv s)) ++ [s]) r
theorem sgn_ne {c : Nat} (h : c ∈ sgn) : ¬ c = 34 ∧ ¬ c = 32 ∧ ¬ c = 46 :=
  (by decide +kernel : ∀ c ∈ sgn, ¬ c = 34 ∧ ¬ c = 32 ∧ ¬ c = 46) c h
theorem encq_len : ∀ q : List Nat, (encq q).length = 4 * q.length
  | [] => rfl
  | c :: q => by simp only [encq, List.length_cons, encq_len q]; omega
theorem encq_app : ∀ (q : List Nat) (s : Nat), encq (q ++ [s]) = encq q ++ [34, s, 34, 32]
  | [], _ => rfl
  | c :: q, s => by simp only [List.cons_append, encq, encq_app q s]
theorem tx_len (l : List Nat) : (tx l).length = l.length := by rw [len_cps]
theorem lit_257 : Str.ofString "257 " = tx [50, 53, 55, 32] := by decide +kernel
theorem lit_257' : Str.ofString "257" = tx [50, 53, 55] := by decide +kernel
theorem lit_sq : Str.ofString " \"" = tx [32, 34] := by decide +kernel
theorem lit_qs : Str.ofString "\" " = tx [34, 32] := by decide +kernel
theorem lit_nil : Str.ofString "" = tx [] := by decide +kernel
theorem tx_app (a b : List Nat) : tx a ++ tx b = tx (a ++ b) := str_ext (by rw [app_cps])
theorem reply_cps (l : List Nat) : (Str.ofString "257 " ++ tx l).cps.toList = 50 :: 53 :: 55 :: 32 :: l := by rw [lit_257, app_cps]; rfl
theorem reply_len (l : List Nat) : (Str.ofString "257 " ++ tx l).length = l.length + 4 := by rw [len_cps, reply_cps]; rfl
theorem reply_257 (l : List Nat) : Txt.slice (Str.ofString "257 " ++ tx l) none (some 3) = Str.ofString "257" := by
  rw [sl_to (j := 3) (k := 3) rfl (by rw [reply_len]; omega), reply_cps, lit_257']; rfl
theorem reply_sq (c : Nat) (q : List Nat) : Txt.slice (Str.ofString "257 " ++ tx (encq (c :: q))) (some 3) (some 5) = Str.ofString " \"" := by
  rw [sl_mid (i := 3) (j := 5) (k := 3) (n := 2) rfl rfl (by rw [reply_len, encq_len]; simp only [List.length_cons]; omega), reply_cps, lit_sq]; rfl
theorem reply_pq {c : Nat} (hc : c ∈ sgn) (q : List Nat) : pq ((Str.ofString "257 " ++ tx (encq (c :: q))).cps.toList.drop 5) = [c] := by
  rw [reply_cps]
  show pq (c :: 34 :: 32 :: encq q) = [c]
  rw [pq_cons (sgn_ne hc).1]
  simp [pq]
theorem reply_nil : Txt.slice (Str.ofString "257 " ++ tx (encq [])) (some 3) (some 5) ≠ Str.ofString " \"" := by decide +kernel
theorem sl_enc (c : Nat) (q : List Nat) : Txt.slice (tx (encq (c :: q))) (some 4) none = tx (encq q) :=
  sl_from (k := 4) rfl (by rw [tx_len, encq_len]; simp only [List.length_cons]; omega)
theorem push_enc (q : List Nat) (s : Nat) : tx (encq q) ++ (Str.ofString "\"" ++ (⟨#[s]⟩ : Str) ++ Str.ofString "\" ") = tx (encq (q ++ [s])) := by
  rw [lit_q, lit_qs, encq_app]
  exact str_ext (by simp [app_cps])
theorem getLast_app (q : List Nat) (l : Nat) : (q ++ [l]).getLast? = some l := by simp
theorem lineA (q o : List Nat) (l s : Nat) (r : List Nat) (h : ¬ tokv s < tokv l) : lineG (q ++ [l]) o (s :: r) = lineG (q ++ [l] ++ [s]) o r := by
  rw [lineG, if_pos (by rw [getLast_app]; simpa using h)]
theorem lineA0 (o : List Nat) (s : Nat) (r : List Nat) : lineG [] o (s :: r) = lineG [s] o r := by
  rw [lineG, if_pos (by rfl)]; rfl
theorem lineB {q q1 q3 o : List Nat} {c l s : Nat} {r : List Nat} (hq : q ++ [l] = q1 ++ c :: q3) (h1 : ∀ d ∈ q1, tokv d < tokv s) (h2 : ¬ tokv c < tokv s) (h : tokv s < tokv l) :
    lineG (q ++ [l]) o (s :: r) = lineG (c :: q3) (o ++ q1 ++ [s]) r := by
  rw [lineG, if_neg (by rw [getLast_app]; simpa using h), hq]
  have e1 : (q1 ++ c :: q3).dropWhile (fun d => decide (tokv d < tokv s)) = c :: q3 := by
    rw [List.dropWhile_append_of_pos (by simpa using h1), List.dropWhile_cons_of_neg (by simpa using h2)]
  have e2 : (q1 ++ c :: q3).takeWhile (fun d => decide (tokv d < tokv s)) = q1 := by
    rw [List.takeWhile_append_of_pos (by simpa using h1), List.takeWhile_cons_of_neg (by simpa using h2), List.append_nil]
  rw [e1, e2]
theorem last_eq {q q1 : List Nat} {l c : Nat} (h : q ++ [l] = q1 ++ [c]) : l = c := by
  have := congrArg List.getLast? h
  simpa using this
theorem last_of {q q1 q3 : List Nat} {l c : Nat} (h : q ++ [l] = q1 ++ c :: q3) : lastOf (c :: q3) = [l] := by
  have h2 : (q1 ++ c :: q3).getLast? = (c :: q3).getLast? := by rw [List.getLast?_append, List.getLast?_cons]; rfl
  unfold lastOf
  rw [← h2, ← h, getLast_app]; rfl
theorem lastOf_app (q : List Nat) (l : Nat) : lastOf (q ++ [l]) = [l] := by unfold lastOf; rw [getLast_app]; rfl
theorem head_of (q : List Nat) (l : Nat) : ∃ c q3, q ++ [l] = c :: q3 := by
  cases q with
  | nil => exact ⟨l, [], rfl⟩
  | cons c q => exact ⟨c, q ++ [l], rfl⟩
theorem drop_app {pre : List Int} {k : Int} {rs : List Nat} : rs.drop (pre ++ [k]).length = rs.drop (pre.length + 1) := by simp
theorem not_empty_one (l : Nat) : (tx [l] == Str.ofString "") = false := by
  rw [lit_nil, beq_eq_false_iff_ne]; intro h; have := congrArg Str.length h; simp [Str.length] at this
end Mine
end

section
open PySem PySem.W PyProof.Rows PySem.Builtin PySem.Builtin.Str PySem.StrLaws
set_option maxRecDepth 100000
namespace Mine
def fnd (x y : List Nat) (sp ep : Nat) : Option Nat := (List.range' sp (ep + 1 - sp)).find? fun i => decide (i + y.length ≤ ep) && ((x.drop i).take y.length == y)
def fndI (x y : List Nat) (sp ep : Nat) : Int := match fnd x y sp ep with | some k => (k : Int) | none => -1
def fl (x : List Nat) (ep : Nat) : List (List Nat) → Nat → Bool
  | [], _ => true
  | y :: r, sp => match fnd x y sp ep with
      | some p => fl x ep r (p + y.length)
      | none => false
theorem at_iff (x y : List Nat) (ep i : Nat) : At (tx x) (tx y) ep i ↔ (decide (i + y.length ≤ ep) && ((x.drop i).take y.length == y)) = true := by
  unfold At
  rw [StrLaws.subAt_eq]
  simp [Str.length]
theorem occ_fnd (x y : List Nat) (sp ep : Nat) : (occurrences (tx x) (tx y) sp ep 1).head? = fnd x y sp ep := by
  rw [occ_eq]
  unfold fnd
  rcases occ_first (tx x) (tx y) ep 1 (Nat.le_refl 1) (List.range' sp (ep + 1 - sp)) sp (fun i hi => by have := List.mem_range'_1.mp hi; omega) with ⟨h0, hn⟩ | ⟨pre, a, post, e, h0, ha, hn⟩
  · rw [h0]
    refine Eq.symm (List.find?_eq_none.mpr fun i hi h => ?_)
    exact hn i hi ((at_iff x y ep i).mpr h)
  · have h1 : ((forIn (List.range' sp (ep + 1 - sp)) ((#[] : Array Nat), sp) (occBody (tx x) (tx y) ep 1)).run.fst.toList).head? = some a := by
      rw [List.head?_eq_getElem?]; simpa using h0
    rw [h1]
    refine Eq.symm (List.find?_eq_some_iff_append.mpr ⟨(at_iff x y ep a).mp ha, pre, post, e, fun i hi => ?_⟩)
    have := hn i hi
    rw [at_iff] at this
    exact Bool.eq_false_iff.mpr this ▸ rfl
def find4 (x y : Str) (i j : Int) : Int := match occurrences x y (fromIndex x.length i) (min (fromIndex x.length j) x.length) 1 with | k :: _ => (k : Int) | [] => -1
theorem find4_fnd {x y : List Nat} {i j : Int} {sp ep : Nat} (hi : i = (sp : Int)) (hj : j = (ep : Int)) (he : ep ≤ x.length) : find4 (tx x) (tx y) i j = fndI x y sp ep := by
  have e1 : fromIndex (tx x).length i = sp := by unfold fromIndex; rw [if_neg (by omega)]; omega
  have e2 : fromIndex (tx x).length j = ep := by unfold fromIndex; rw [if_neg (by omega)]; omega
  have e3 : min ep (tx x).length = ep := by rw [tx_len]; omega
  unfold find4 fndI
  rw [e1, e2, e3, ← occ_fnd]
  cases occurrences (tx x) (tx y) sp ep 1 <;> rfl
theorem fndI_some {x y : List Nat} {sp ep : Nat} (h : ¬ fndI x y sp ep < 0) : ∃ p, fnd x y sp ep = some p ∧ fndI x y sp ep = (p : Int) ∧ p + y.length ≤ ep := by
  unfold fndI at h ⊢
  cases e : fnd x y sp ep with
  | none => rw [e] at h; exact absurd (by decide) h
  | some p =>
    refine ⟨p, rfl, rfl, ?_⟩
    have := List.find?_some e
    simp only [Bool.and_eq_true, decide_eq_true_eq] at this
    exact this.1
theorem fndI_none {x y : List Nat} {sp ep : Nat} (h : fndI x y sp ep < 0) : fnd x y sp ep = none := by
  unfold fndI at h
  cases e : fnd x y sp ep with
  | none => rfl
  | some p => rw [e] at h; dsimp only at h; omega
theorem strs_at : ∀ {vs : List Value} {ws : List (List Nat)} {i : Nat} {v : Value}, StrsAre vs (ws.map tx) → vs[i]? = some v → ∃ y t, v = .str (tx y) t ∧ ws.drop i = y :: ws.drop (i + 1) ∧ y ∈ ws
  | _, [], i, v, h, hv => by cases h; simp at hv
  | _, y :: ws, 0, v, h, hv => by
    cases h with
    | cons _ t h => exact ⟨y, t, (Option.some.inj (by simpa using hv)).symm, rfl, .head _⟩
  | _, y :: ws, i + 1, v, h, hv => by
    cases h with
    | cons _ t h =>
      obtain ⟨z, t', e, hd, hm⟩ := strs_at h (by simpa using hv)
      exact ⟨z, t', e, by simpa using hd, .tail _ hm⟩
theorem drop_all {vs : List Value} {ws : List (List Nat)} (h : StrsAre vs (ws.map tx)) : ws.drop vs.length = [] := List.drop_eq_nil_of_le (by rw [StrsAre.length h, List.length_map]; exact Nat.le_refl _)
theorem fl_none {x y : List Nat} {ep sp : Nat} {r : List (List Nat)} (h : fnd x y sp ep = none) : fl x ep (y :: r) sp = false := by simp [fl, h]
theorem fl_some {x y : List Nat} {ep sp p : Nat} {r : List (List Nat)} (h : fnd x y sp ep = some p) : fl x ep (y :: r) sp = fl x ep r (p + y.length) := by simp [fl, h]
end Mine
end

section
open PySem PySem.W PyProof.Rows PySem.Builtin PySem.Builtin.Str PySem.StrLaws
set_option maxRecDepth 100000
namespace Mine
abbrev dots : List Nat := [46, 46, 46]
def dj : List Nat → List Nat
  | [] => []
  | [a] => [a]
  | a :: b :: r => a :: 46 :: 46 :: 46 :: dj (b :: r)
def flat (c : Nat) : Nat := if c = 46 then 46 else 40
theorem flat_dot (c : Nat) : flat c = 46 ↔ c = 46 := by unfold flat; split <;> omega
theorem flat_sign {c : Nat} (h : ¬ c = 46) : flat c = 40 := by unfold flat; rw [if_neg h]
theorem subAt_flat (l : List Nat) (i : Nat) : subAt (tx l) (tx dots) i = subAt (tx (l.map flat)) (tx dots) i := by
  rw [subAt_eq, subAt_eq]
  show ((l.drop i).take 3 == dots) = (((l.map flat).drop i).take 3 == dots)
  rw [← List.map_drop, ← List.map_take]
  generalize (l.drop i).take 3 = t
  rw [Bool.eq_iff_iff, beq_iff_eq, beq_iff_eq]
  constructor
  · rintro rfl; rfl
  · intro h
    match t, h with
    | [a, b, c], h =>
      simp only [List.map_cons, List.map_nil, List.cons.injEq, and_true, flat_dot] at h
      obtain ⟨rfl, rfl, rfl⟩ := h
      rfl
    | [], h => simp at h
    | [_], h => simp at h
    | [_, _], h => simp at h
    | _ :: _ :: _ :: _ :: _, h => simp at h
theorem occ_flat (l : List Nat) (lo hi lim : Nat) : occurrences (tx l) (tx dots) lo hi lim = occurrences (tx (l.map flat)) (tx dots) lo hi lim := by
  rw [occ_eq, occ_eq]
  have : occBody (tx l) (tx dots) hi lim = occBody (tx (l.map flat)) (tx dots) hi lim := by
    funext i st
    unfold occBody
    rw [subAt_flat]
  rw [this]
theorem kind_dots (x : Str) : decide (Builtin.Str.strKind x < Builtin.Str.strKind (tx dots)) = false := by
  have e : Builtin.Str.strKind (tx dots) = 1 := by decide +kernel
  rw [e]
  unfold Builtin.Str.strKind
  split
  · rfl
  · split <;> rfl
theorem lit_dots : Str.ofString "..." = tx dots := by decide +kernel
theorem split_of {l : List Nat} {cuts : List Nat} (hl : 3 ≤ l.length) (hc : occurrences (tx (l.map flat)) (tx dots) 0 l.length (l.length + 1) = cuts) (hn : cuts.isEmpty = false) :
    Txt.split (tx l) (Str.ofString "...") = partsBetween (tx l) cuts 3 := by
  have e : occurrences (tx l) (tx dots) 0 (tx l).length ((tx l).length + 1) = cuts := by rw [tx_len, occ_flat, hc]
  rw [lit_dots]
  unfold Txt.split
  rw [e, kind_dots, if_neg, if_neg]
  · rfl
  · rw [hn]; exact Bool.false_ne_true
  · simp only [Bool.or_false, decide_eq_true_eq, tx_len]; show ¬ _ < 3; omega
theorem in_of {l : List Nat} {cuts : List Nat} (hc : occurrences (tx (l.map flat)) (tx dots) 0 l.length 1 = cuts) (hn : cuts.isEmpty = false) :
    (occurrences (tx l) (Str.ofString "...") 0 (tx l).length 1).isEmpty = false := by
  rw [lit_dots, tx_len, occ_flat, hc, hn]
theorem join_dj : ∀ ss : List Nat, Txt.join (Str.ofString "...") (signs (tx ss)) = tx (dj ss) := by
  intro ss
  rw [lit_dots]
  have key : ∀ (r : List Nat) (acc : Array Nat), ((r.map fun n => (⟨#[n]⟩ : Str)).foldl (fun acc p => acc ++ (tx dots).cps ++ p.cps) acc).toList = acc.toList ++ r.flatMap (fun c => dots ++ [c]) := by
    intro r
    induction r with
    | nil => intro acc; simp
    | cons c r ih => intro acc; rw [List.map_cons, List.foldl_cons, ih]; simp
  cases ss with
  | nil => rfl
  | cons a r =>
    refine str_ext ?_
    show ((r.map fun n => (⟨#[n]⟩ : Str)).foldl (fun acc p => acc ++ (tx dots).cps ++ p.cps) #[a]).toList = dj (a :: r)
    rw [key]
    clear key
    induction r generalizing a with
    | nil => rfl
    | cons b r ih => simp only [List.flatMap_cons, dj]; rw [← ih b]; simp
theorem sp3_00 {a : Nat} {b : Nat} {c : Nat} (ha : ¬ a = 46) (hb : ¬ b = 46) (hc : ¬ c = 46) : Txt.split (tx (dj [a, b, c])) (Str.ofString "...") = tx [a] :: (([[b]] : List (List Nat)).map tx ++ [tx [c]]) := by
  rw [split_of (cuts := [1, 5]) (by simp [dj]) (by simp only [dj, dots, List.cons_append, List.nil_append, List.map_cons, List.map_nil, List.length_cons, List.length_nil, flat_sign ha, flat_sign hb, flat_sign hc, show flat 46 = 46 from rfl]; decide +kernel) rfl]
  rfl
theorem sp3_00i {a : Nat} {b : Nat} {c : Nat} (ha : ¬ a = 46) (hb : ¬ b = 46) (hc : ¬ c = 46) : (occurrences (tx (dj [a, b, c])) (Str.ofString "...") 0 (tx (dj [a, b, c])).length 1).isEmpty = false :=
  in_of (cuts := [1]) (by simp only [dj, dots, List.cons_append, List.nil_append, List.map_cons, List.map_nil, List.length_cons, List.length_nil, flat_sign ha, flat_sign hb, flat_sign hc, show flat 46 = 46 from rfl]; decide +kernel) rfl
theorem sp3_01 {a : Nat} {b : Nat} {c : Nat} (ha : ¬ a = 46) (hb : ¬ b = 46) (hc : ¬ c = 46) : Txt.split (tx (dj [a, b, c] ++ dots)) (Str.ofString "...") = tx [a] :: (([[b], [c]] : List (List Nat)).map tx ++ [tx []]) := by
  rw [split_of (cuts := [1, 5, 9]) (by simp [dj]) (by simp only [dj, dots, List.cons_append, List.nil_append, List.map_cons, List.map_nil, List.length_cons, List.length_nil, flat_sign ha, flat_sign hb, flat_sign hc, show flat 46 = 46 from rfl]; decide +kernel) rfl]
  rfl
theorem sp3_01i {a : Nat} {b : Nat} {c : Nat} (ha : ¬ a = 46) (hb : ¬ b = 46) (hc : ¬ c = 46) : (occurrences (tx (dj [a, b, c] ++ dots)) (Str.ofString "...") 0 (tx (dj [a, b, c] ++ dots)).length 1).isEmpty = false :=
  in_of (cuts := [1]) (by simp only [dj, dots, List.cons_append, List.nil_append, List.map_cons, List.map_nil, List.length_cons, List.length_nil, flat_sign ha, flat_sign hb, flat_sign hc, show flat 46 = 46 from rfl]; decide +kernel) rfl
theorem sp3_10 {a : Nat} {b : Nat} {c : Nat} (ha : ¬ a = 46) (hb : ¬ b = 46) (hc : ¬ c = 46) : Txt.split (tx (dots ++ dj [a, b, c])) (Str.ofString "...") = tx [] :: (([[a], [b]] : List (List Nat)).map tx ++ [tx [c]]) := by
  rw [split_of (cuts := [0, 4, 8]) (by simp [dj]) (by simp only [dj, dots, List.cons_append, List.nil_append, List.map_cons, List.map_nil, List.length_cons, List.length_nil, flat_sign ha, flat_sign hb, flat_sign hc, show flat 46 = 46 from rfl]; decide +kernel) rfl]
  rfl
theorem sp3_10i {a : Nat} {b : Nat} {c : Nat} (ha : ¬ a = 46) (hb : ¬ b = 46) (hc : ¬ c = 46) : (occurrences (tx (dots ++ dj [a, b, c])) (Str.ofString "...") 0 (tx (dots ++ dj [a, b, c])).length 1).isEmpty = false :=
  in_of (cuts := [0]) (by simp only [dj, dots, List.cons_append, List.nil_append, List.map_cons, List.map_nil, List.length_cons, List.length_nil, flat_sign ha, flat_sign hb, flat_sign hc, show flat 46 = 46 from rfl]; decide +kernel) rfl
theorem sp3_11 {a : Nat} {b : Nat} {c : Nat} (ha : ¬ a = 46) (hb : ¬ b = 46) (hc : ¬ c = 46) : Txt.split (tx (dots ++ dj [a, b, c] ++ dots)) (Str.ofString "...") = tx [] :: (([[a], [b], [c]] : List (List Nat)).map tx ++ [tx []]) := by
  rw [split_of (cuts := [0, 4, 8, 12]) (by simp [dj]) (by simp only [dj, dots, List.cons_append, List.nil_append, List.map_cons, List.map_nil, List.length_cons, List.length_nil, flat_sign ha, flat_sign hb, flat_sign hc, show flat 46 = 46 from rfl]; decide +kernel) rfl]
  rfl
theorem sp3_11i {a : Nat} {b : Nat} {c : Nat} (ha : ¬ a = 46) (hb : ¬ b = 46) (hc : ¬ c = 46) : (occurrences (tx (dots ++ dj [a, b, c] ++ dots)) (Str.ofString "...") 0 (tx (dots ++ dj [a, b, c] ++ dots)).length 1).isEmpty = false :=
  in_of (cuts := [0]) (by simp only [dj, dots, List.cons_append, List.nil_append, List.map_cons, List.map_nil, List.length_cons, List.length_nil, flat_sign ha, flat_sign hb, flat_sign hc, show flat 46 = 46 from rfl]; decide +kernel) rfl
theorem sp4_00 {a : Nat} {b : Nat} {c : Nat} {d : Nat} (ha : ¬ a = 46) (hb : ¬ b = 46) (hc : ¬ c = 46) (hd : ¬ d = 46) : Txt.split (tx (dj [a, b, c, d])) (Str.ofString "...") = tx [a] :: (([[b], [c]] : List (List Nat)).map tx ++ [tx [d]]) := by
  rw [split_of (cuts := [1, 5, 9]) (by simp [dj]) (by simp only [dj, dots, List.cons_append, List.nil_append, List.map_cons, List.map_nil, List.length_cons, List.length_nil, flat_sign ha, flat_sign hb, flat_sign hc, flat_sign hd, show flat 46 = 46 from rfl]; decide +kernel) rfl]
  rfl
theorem sp4_00i {a : Nat} {b : Nat} {c : Nat} {d : Nat} (ha : ¬ a = 46) (hb : ¬ b = 46) (hc : ¬ c = 46) (hd : ¬ d = 46) : (occurrences (tx (dj [a, b, c, d])) (Str.ofString "...") 0 (tx (dj [a, b, c, d])).length 1).isEmpty = false :=
  in_of (cuts := [1]) (by simp only [dj, dots, List.cons_append, List.nil_append, List.map_cons, List.map_nil, List.length_cons, List.length_nil, flat_sign ha, flat_sign hb, flat_sign hc, flat_sign hd, show flat 46 = 46 from rfl]; decide +kernel) rfl
theorem sp4_01 {a : Nat} {b : Nat} {c : Nat} {d : Nat} (ha : ¬ a = 46) (hb : ¬ b = 46) (hc : ¬ c = 46) (hd : ¬ d = 46) : Txt.split (tx (dj [a, b, c, d] ++ dots)) (Str.ofString "...") = tx [a] :: (([[b], [c], [d]] : List (List Nat)).map tx ++ [tx []]) := by
  rw [split_of (cuts := [1, 5, 9, 13]) (by simp [dj]) (by simp only [dj, dots, List.cons_append, List.nil_append, List.map_cons, List.map_nil, List.length_cons, List.length_nil, flat_sign ha, flat_sign hb, flat_sign hc, flat_sign hd, show flat 46 = 46 from rfl]; decide +kernel) rfl]
  rfl
theorem sp4_01i {a : Nat} {b : Nat} {c : Nat} {d : Nat} (ha : ¬ a = 46) (hb : ¬ b = 46) (hc : ¬ c = 46) (hd : ¬ d = 46) : (occurrences (tx (dj [a, b, c, d] ++ dots)) (Str.ofString "...") 0 (tx (dj [a, b, c, d] ++ dots)).length 1).isEmpty = false :=
  in_of (cuts := [1]) (by simp only [dj, dots, List.cons_append, List.nil_append, List.map_cons, List.map_nil, List.length_cons, List.length_nil, flat_sign ha, flat_sign hb, flat_sign hc, flat_sign hd, show flat 46 = 46 from rfl]; decide +kernel) rfl
theorem sp4_10 {a : Nat} {b : Nat} {c : Nat} {d : Nat} (ha : ¬ a = 46) (hb : ¬ b = 46) (hc : ¬ c = 46) (hd : ¬ d = 46) : Txt.split (tx (dots ++ dj [a, b, c, d])) (Str.ofString "...") = tx [] :: (([[a], [b], [c]] : List (List Nat)).map tx ++ [tx [d]]) := by
  rw [split_of (cuts := [0, 4, 8, 12]) (by simp [dj]) (by simp only [dj, dots, List.cons_append, List.nil_append, List.map_cons, List.map_nil, List.length_cons, List.length_nil, flat_sign ha, flat_sign hb, flat_sign hc, flat_sign hd, show flat 46 = 46 from rfl]; decide +kernel) rfl]
  rfl
theorem sp4_10i {a : Nat} {b : Nat} {c : Nat} {d : Nat} (ha : ¬ a = 46) (hb : ¬ b = 46) (hc : ¬ c = 46) (hd : ¬ d = 46) : (occurrences (tx (dots ++ dj [a, b, c, d])) (Str.ofString "...") 0 (tx (dots ++ dj [a, b, c, d])).length 1).isEmpty = false :=
  in_of (cuts := [0]) (by simp only [dj, dots, List.cons_append, List.nil_append, List.map_cons, List.map_nil, List.length_cons, List.length_nil, flat_sign ha, flat_sign hb, flat_sign hc, flat_sign hd, show flat 46 = 46 from rfl]; decide +kernel) rfl
theorem sp4_11 {a : Nat} {b : Nat} {c : Nat} {d : Nat} (ha : ¬ a = 46) (hb : ¬ b = 46) (hc : ¬ c = 46) (hd : ¬ d = 46) : Txt.split (tx (dots ++ dj [a, b, c, d] ++ dots)) (Str.ofString "...") = tx [] :: (([[a], [b], [c], [d]] : List (List Nat)).map tx ++ [tx []]) := by
  rw [split_of (cuts := [0, 4, 8, 12, 16]) (by simp [dj]) (by simp only [dj, dots, List.cons_append, List.nil_append, List.map_cons, List.map_nil, List.length_cons, List.length_nil, flat_sign ha, flat_sign hb, flat_sign hc, flat_sign hd, show flat 46 = 46 from rfl]; decide +kernel) rfl]
  rfl
theorem sp4_11i {a : Nat} {b : Nat} {c : Nat} {d : Nat} (ha : ¬ a = 46) (hb : ¬ b = 46) (hc : ¬ c = 46) (hd : ¬ d = 46) : (occurrences (tx (dots ++ dj [a, b, c, d] ++ dots)) (Str.ofString "...") 0 (tx (dots ++ dj [a, b, c, d] ++ dots)).length 1).isEmpty = false :=
  in_of (cuts := [0]) (by simp only [dj, dots, List.cons_append, List.nil_append, List.map_cons, List.map_nil, List.length_cons, List.length_nil, flat_sign ha, flat_sign hb, flat_sign hc, flat_sign hd, show flat 46 = 46 from rfl]; decide +kernel) rfl
end Mine
end

section
open PySem PySem.W PyProof.Rows PySem.StrLaws
set_option maxRecDepth 100000
namespace Mine
def floorL : List Nat := [50, 53, 48, 32, 117, 112, 32]
def encp : List (Nat × List Nat) → List Nat
  | [] => floorL
  | (c, e) :: st => [50, 53, 55, 32, 34] ++ c :: (dbl 34 (encp st) ++ e)
def endOk (e : List Nat) : Prop := e = [] ∨ e = [34] ∨ e = [34, 32, 117, 112]
theorem lit_floor : Str.ofString "250 up " = tx floorL := by decide +kernel
theorem lit_257q : Str.ofString "257 \"" = tx [50, 53, 55, 32, 34] := by decide +kernel
theorem pq_end {e : List Nat} (h : endOk e) : pq e = [] := by
  rcases h with rfl | rfl | rfl <;> simp [pq]
theorem pq_dbl {e : List Nat} (h : endOk e) : ∀ l : List Nat, pq (dbl 34 l ++ e) = l
  | [] => pq_end h
  | c :: l => by
    by_cases hc : c = 34
    · subst hc
      show pq (34 :: 34 :: (dbl 34 l ++ e)) = _
      simp [pq, pq_dbl h l]
    · have : dbl 34 (c :: l) = c :: dbl 34 l := by simp [dbl, hc]
      rw [this, List.cons_append, pq_cons hc, pq_dbl h l]
theorem dbl_len (l : List Nat) : (dbl 34 l).length ≤ 2 * l.length := by
  induction l with
  | nil => simp [dbl]
  | cons c l ih => by_cases hc : c = 34 <;> simp [dbl, hc] at ih ⊢ <;> omega
theorem endOk_len {e : List Nat} (h : endOk e) : e.length ≤ 4 := by
  rcases h with rfl | rfl | rfl <;> simp
theorem encp_len : ∀ {st : List (Nat × List Nat)}, (∀ p ∈ st, endOk p.2) → (encp st).length + 10 ≤ 17 * 2 ^ st.length
  | [], _ => by simp [encp, floorL]
  | (c, e) :: st, h => by
    have ih := encp_len (st := st) fun p hp => h p (.tail _ hp)
    have h1 := dbl_len (encp st)
    have h2 := endOk_len (h (c, e) (.head _))
    simp only [encp, List.length_append, List.length_cons, List.length_nil, Nat.pow_succ] at *
    omega
theorem encp_le {st : List (Nat × List Nat)} (h : ∀ p ∈ st, endOk p.2) (hl : st.length ≤ 5) : (encp st).length ≤ 600 := by
  have h1 := encp_len h
  have h2 : 2 ^ st.length ≤ 2 ^ 5 := Nat.pow_le_pow_right (by decide) hl
  omega
section
variable {c : Nat} {e : List Nat} {st : List (Nat × List Nat)}
theorem encp_257 : Txt.slice (tx (encp ((c, e) :: st))) none (some 3) = Str.ofString "257" := by
  rw [sl_to (j := 3) (k := 3) rfl (by rw [tx_len]; simp [encp]), lit_257']; rfl
theorem encp_sq : Txt.slice (tx (encp ((c, e) :: st))) (some 3) (some 5) = Str.ofString " \"" := by
  rw [sl_mid (i := 3) (j := 5) (k := 3) (n := 2) rfl rfl (by rw [tx_len]; simp [encp]), lit_sq]; rfl
theorem encp_pq (hc : c ∈ sgn) (he : endOk e) : pq ((tx (encp ((c, e) :: st))).cps.toList.drop 5) = c :: encp st := by
  show pq (c :: (dbl 34 (encp st) ++ e)) = _
  rw [pq_cons (sgn_ne hc).1, pq_dbl he]
end
theorem push_encp (c : Nat) (e : List Nat) (st : List (Nat × List Nat)) :
    Str.ofString "257 \"" ++ (⟨#[c]⟩ : Str) ++ Txt.replace (tx (encp st)) (Str.ofString "\"") (Str.ofString "\"\"") ++ tx e = tx (encp ((c, e) :: st)) := by
  have hr : Txt.replace (tx (encp st)) (Str.ofString "\"") (Str.ofString "\"\"") = tx (dbl 34 (encp st)) := by
    refine str_ext ?_
    have := replace_double (tx (encp st)) 34
    rw [show Str.ofString "\"" = ⟨#[34]⟩ from by decide +kernel, show Str.ofString "\"\"" = ⟨#[34, 34]⟩ from by decide +kernel]
    exact this
  rw [hr, lit_257q]
  refine str_ext ?_
  rw [app_cps, app_cps, app_cps]
  simp [encp]
theorem encp_floor {st : List (Nat × List Nat)} : (tx (encp st) = Str.ofString "250 up ") ↔ st = [] := by
  rw [lit_floor]
  constructor
  · intro h
    have h := congrArg (fun z : Str => z.cps.toList) h
    cases st with
    | nil => rfl
    | cons p st =>
      obtain ⟨c, e⟩ := p
      have h : encp ((c, e) :: st) = floorL := h
      simp [encp, floorL] at h
  · rintro rfl; rfl
def ToldV (st : List (Nat × List Nat)) (v : Value) : Prop := match st with
  | [] => v = .none
  | (c, _) :: st' => ∃ t, v = .str (tx (c :: encp st')) t
end Mine
end

section
open PySem PySem.W PyProof.Rows PySem.StrLaws
set_option maxRecDepth 100000
namespace Mine
def pileF (st o : List Nat) : List Nat → List Nat
  | [] => o ++ st
  | s :: r => pileF (s :: st.dropWhile fun d => decide (tokv d < tokv s)) (o ++ st.takeWhile fun d => decide (tokv d < tokv s)) r
theorem pile_end (o : List Nat) : pileF [] o [] = o := by simp [pileF]
theorem pile_popE (c : Nat) (st o : List Nat) : pileF (c :: st) o [] = pileF st (o ++ [c]) [] := by simp [pileF]
theorem pile_pop {c s : Nat} (h : tokv c < tokv s) (st o r : List Nat) : pileF (c :: st) o (s :: r) = pileF st (o ++ [c]) (s :: r) := by
  simp only [pileF, List.dropWhile_cons_of_pos (p := fun d => decide (tokv d < tokv s)) (show decide (tokv c < tokv s) = true by simpa using h), List.takeWhile_cons_of_pos (p := fun d => decide (tokv d < tokv s)) (show decide (tokv c < tokv s) = true by simpa using h)]
  simp
theorem pile_push0 (s : Nat) (o r : List Nat) : pileF [] o (s :: r) = pileF [s] o r := by simp [pileF]
theorem pile_push {c s : Nat} (h : ¬ tokv c < tokv s) (st o r : List Nat) : pileF (c :: st) o (s :: r) = pileF (s :: c :: st) o r := by
  simp only [pileF, List.dropWhile_cons_of_neg (p := fun d => decide (tokv d < tokv s)) (show ¬ decide (tokv c < tokv s) = true by simpa using h), List.takeWhile_cons_of_neg (p := fun d => decide (tokv d < tokv s)) (show ¬ decide (tokv c < tokv s) = true by simpa using h)]
  simp
end Mine
end

section
open PySem PySem.W PyProof.Rows
namespace Mine
theorem take_drop_perm (p : Nat → Bool) : ∀ l : List Nat, (l.takeWhile p ++ l.dropWhile p).Perm l := fun l => by rw [List.takeWhile_append_dropWhile]
theorem pile_perm : ∀ (rs st o : List Nat), (pileF st o rs).Perm (o ++ st ++ rs)
  | [], st, o => by simp [pileF]
  | s :: r, st, o => by
    rw [pileF]
    refine (pile_perm r _ _).trans ?_
    have h := take_drop_perm (fun d => decide (tokv d < tokv s)) st
    refine List.perm_iff_count.mpr fun a => ?_
    have h2 := List.perm_iff_count.mp h a
    simp only [List.count_append, List.count_cons] at h2 ⊢
    omega
theorem line_perm : ∀ (rs q o : List Nat), (lineG q o rs).Perm (o ++ q ++ rs)
  | [], q, o => by simp [lineG]
  | s :: r, q, o => by
    rw [lineG]
    split
    · refine (line_perm r _ _).trans ?_
      simp
    · refine (line_perm r _ _).trans ?_
      have h := take_drop_perm (fun d => decide (tokv d < tokv s)) q
      refine List.perm_iff_count.mpr fun a => ?_
      have h2 := List.perm_iff_count.mp h a
      simp only [List.count_append, List.count_cons, List.count_nil] at h2 ⊢
      omega
theorem hand_perm : ∀ (r : List Nat) (h : Nat), (handG h r).Perm (h :: r)
  | [], h => by simp [handG]
  | c :: r, h => by
    rw [handG]
    split
    · exact ((hand_perm r h).cons c).trans (List.Perm.swap _ _ _)
    · exact (hand_perm r c).cons h
end Mine
end

section
open PySem PySem.W PyProof.Rows
set_option maxRecDepth 100000
namespace Mine
def pileN (st o : List Nat) : List Nat → List Nat
  | [] => o ++ st
  | s :: r => pileN (s :: st.dropWhile fun d => decide (d < s)) (o ++ st.takeWhile fun d => decide (d < s)) r
def lineN (q o : List Nat) : List Nat → List Nat
  | [] => o ++ q
  | s :: r => if (q.getLast?.all fun l => decide (¬ s < l)) = true then lineN (q ++ [s]) o r
      else lineN (q.dropWhile fun d => decide (d < s)) (o ++ (q.takeWhile fun d => decide (d < s)) ++ [s]) r
def handN (h : Nat) : List Nat → List Nat
  | [] => [h]
  | c :: r => if c < h then c :: handN h r else h :: handN c r
def befo (o : List Nat) (b a : Nat) : Bool := (o.dropWhile fun d => decide (¬ d = b)).contains a
section
variable {f : Nat → Nat} {P : Nat → Prop}
theorem tw_congr {p q : Nat → Bool} : ∀ {l : List Nat}, (∀ x ∈ l, p x = q x) → l.takeWhile p = l.takeWhile q
  | [], _ => rfl
  | x :: l, h => by rw [List.takeWhile_cons, List.takeWhile_cons, h x (.head _), tw_congr fun y hy => h y (.tail _ hy)]
theorem dw_congr {p q : Nat → Bool} : ∀ {l : List Nat}, (∀ x ∈ l, p x = q x) → l.dropWhile p = l.dropWhile q
  | [], _ => rfl
  | x :: l, h => by rw [List.dropWhile_cons, List.dropWhile_cons, h x (.head _), dw_congr fun y hy => h y (.tail _ hy)]
theorem tw_map {p q : Nat → Bool} {l : List Nat} (h : ∀ x ∈ l, p x = q (f x)) : (l.map f).takeWhile q = (l.takeWhile p).map f := by
  rw [List.takeWhile_map, tw_congr (p := p) (q := q ∘ f) h]
theorem dw_map {p q : Nat → Bool} {l : List Nat} (h : ∀ x ∈ l, p x = q (f x)) : (l.map f).dropWhile q = (l.dropWhile p).map f := by
  rw [List.dropWhile_map, dw_congr (p := p) (q := q ∘ f) h]
variable (hf : ∀ c d, P c → P d → (tokv c < tokv d ↔ f c < f d))
include hf
theorem pile_nat : ∀ (rs st o : List Nat), (∀ x ∈ rs, P x) → (∀ x ∈ st, P x) → (pileF st o rs).map f = pileN (st.map f) (o.map f) (rs.map f)
  | [], st, o, _, _ => by simp [pileF, pileN]
  | s :: r, st, o, hr, hs => by
    have e : ∀ x ∈ st, decide (tokv x < tokv s) = decide (f x < f s) := fun x hx => decide_eq_decide.mpr (hf x s (hs x hx) (hr s (.head _)))
    rw [pileF, List.map_cons, pileN, pile_nat r _ _ (fun x hx => hr x (.tail _ hx)) fun x hx => by
      rcases List.mem_cons.mp hx with rfl | hx
      · exact hr _ (.head _)
      · exact hs x ((List.dropWhile_sublist _).mem hx), List.map_cons, List.map_append, tw_map e, dw_map e]
theorem line_nat : ∀ (rs q o : List Nat), (∀ x ∈ rs, P x) → (∀ x ∈ q, P x) → (lineG q o rs).map f = lineN (q.map f) (o.map f) (rs.map f)
  | [], q, o, _, _ => by simp [lineG, lineN]
  | s :: r, q, o, hr, hs => by
    have e : ∀ x ∈ q, decide (tokv x < tokv s) = decide (f x < f s) := fun x hx => decide_eq_decide.mpr (hf x s (hs x hx) (hr s (.head _)))
    have e2 : ((q.map f).getLast?.all fun l => decide (¬ f s < l)) = (q.getLast?.all fun l => decide (¬ tokv s < tokv l)) := by
      rw [List.getLast?_map]
      cases h : q.getLast? with
      | none => rfl
      | some l => exact decide_eq_decide.mpr (not_congr (hf s l (hr s (.head _)) (hs l (List.mem_of_getLast? h))).symm)
    rw [lineG, List.map_cons, lineN, e2]
    split
    · rw [line_nat r _ _ (fun x hx => hr x (.tail _ hx)) fun x hx => by
        rcases List.mem_append.mp hx with hx | hx
        · exact hs x hx
        · exact List.mem_singleton.mp hx ▸ hr s (.head _), List.map_append]; rfl
    · rw [line_nat r _ _ (fun x hx => hr x (.tail _ hx)) fun x hx => hs x ((List.dropWhile_sublist _).mem hx), List.map_append, List.map_append, tw_map e, dw_map e]; rfl
theorem hand_nat : ∀ (rs : List Nat) (h : Nat), (∀ x ∈ rs, P x) → P h → (handG h rs).map f = handN (f h) (rs.map f)
  | [], h, _, _ => rfl
  | c :: r, h, hr, hh => by
    have hc := hr c (.head _)
    rw [handG, List.map_cons, handN]
    by_cases q : tokv c < tokv h
    · rw [if_pos q, if_pos ((hf c h hc hh).mp q), List.map_cons, hand_nat r h (fun x hx => hr x (.tail _ hx)) hh]
    · rw [if_neg q, if_neg (fun z => q ((hf c h hc hh).mpr z)), List.map_cons, hand_nat r c (fun x hx => hr x (.tail _ hx)) hc]
end
theorem befo_nat {f : Nat → Nat} {o : List Nat} {b a : Nat} (hb : ∀ x ∈ o, f x = f b → x = b) (ha : ∀ x ∈ o, f x = f a → x = a) : befo o b a = befo (o.map f) (f b) (f a) := by
  unfold befo
  rw [dw_map (p := fun d => decide (¬ d = b)) (fun x hx => decide_eq_decide.mpr (not_congr ⟨fun h => h ▸ rfl, hb x hx⟩)), Bool.eq_iff_iff, List.contains_iff_mem, List.contains_iff_mem, List.mem_map]
  constructor
  · exact fun h => ⟨a, h, rfl⟩
  · rintro ⟨x, hx, e⟩
    exact ha x ((List.dropWhile_sublist _).mem hx) e ▸ hx
end Mine
end

section
open PySem PySem.W PyProof.Rows PySem.Calls
set_option maxRecDepth 100000
namespace Mine
variable {q9 : Program} {l9 : List Str}
abbrev anyTop (dp un : Nat) (gd : Option (List Code)) (fr : Option (List Env)) : Around := { handled := none, depth := dp, frames := fr, guards := gd, units := un }
def Con (n : Nat) (w : World) (f : Addr) (vs : List Value) (need : List (Addr × Obj) → Prop) (post : Value → Prop) : Prop :=
  ∀ (q9 : Program) (l9 : List Str) (mean : ExcName → Option Value) (mg mb : Str → Option Value) (dp un : Nat) (gd : Option (List Code)) (fr : Option (List Env)) (h₀ : Heap) (L : Addr) (m : Str → Option Value) (news : List (Addr × Obj)) (s : Shared) (Q E : Value → Shared → Prop),
    Fr h₀ L s.heap m → (K9 w.params).In h₀ → News h₀ L s.heap news → Top q9 l9 mean mg mb h₀ →
    need news → dp + n < recursionLimit → un + 12 * n < cLine →
    (∀ v h' tk', post v → Fr h₀ L h' m → News h₀ L h' news → Q v { s with heap := h', toks := tk' }) →
    wpAny (model Challenge.rw_ux0019_01.row.prog w) (anyTop dp un gd fr) (call (.ref f) vs) Q E s
theorem con_use {n : Nat} {w : World} {f : Addr} {vs : List Value} {need : List (Addr × Obj) → Prop} {post : Value → Prop} (C : Con n w f vs need post)
    {mean : ExcName → Option Value} {mg mb : Str → Option Value} {dp un : Nat} {gd : Option (List Code)} {fr : Option (List Env)} {h₀ : Heap} {L : Addr} {m : Str → Option Value} {news : List (Addr × Obj)} {s : Shared} {Q E : Value → Shared → Prop}
    (F : Fr h₀ L s.heap m) (X : (K9 w.params).In h₀) (N : News h₀ L s.heap news) (T : Top q9 l9 mean mg mb h₀)
    (hn : need news) (hd : dp + n < recursionLimit) (hu : un + 12 * n < cLine)
    (h : ∀ v h' tk', post v → Fr h₀ L h' m → News h₀ L h' news → Q v { s with heap := h', toks := tk' }) :
    wpAny (model Challenge.rw_ux0019_01.row.prog w) (anyTop dp un gd fr) (call (.ref f) vs) Q E s :=
  C q9 l9 mean mg mb dp un gd fr h₀ L m news s Q E F X N T hn hd hu h

section
variable {prog : Program} {w : World} {A : Around} {s : Shared} {h₀ : Heap} {L : Addr} {m : Str → Option Value} {news : List (Addr × Obj)} {K : Frag}
  {R : Result → Shared → Prop} {name qual : Str} {params : Arguments} {body : List Stmt} {scope : Scope} {dV kV doc pm cdv ct oc : Value} {an od : Option Addr} {osl : Array (Option Value)} {f : Addr} {args : Args} {binds : List (Str × Value)}
  {p : Program} {loose : List Str} {mean : ExcName → Option Value} {mg mb : Str → Option Value}
theorem groundF (F : Fr h₀ L s.heap m) (N : News h₀ L s.heap news) :
    Fr h₀ L (hideAll s.heap (news.map (·.1))) m ∧ h₀.StaysIn (hideAll s.heap (news.map (·.1))) ∧
      ∀ v s', LeaveK h₀ L m (hideAll s.heap (news.map (·.1))) R v s' → R (.ok (.ret v)) s' := by
  have nm : ∀ b o, h₀.get? b = some o → b ∉ news.map (·.1) := fun b o e q => by
    obtain ⟨p, hp, rfl⟩ := List.mem_map.mp q
    rw [(N p hp).2.2] at e; cases e
  have st : h₀.StaysIn (hideAll s.heap (news.map (·.1))) := fun b o e => hideAll_get _ (F.keep b o e) (nm b o e)
  obtain ⟨oL, es, ep, hL, hLd, hLk, hLf⟩ := F.ns
  have nL : L ∉ news.map (·.1) := fun q => by
    obtain ⟨p, hp, e⟩ := List.mem_map.mp q
    exact (N p hp).2.1 e
  have hLg := hideAll_get (news.map (·.1)) hL nL
  refine ⟨⟨⟨oL, es, ep, hLg, hLd, hLk, hLf⟩, st, F.above⟩, st, fun v s' hl => ?_⟩
  obtain ⟨L', m', news', F', N', k⟩ := hl
  refine k ⟨⟨oL, es, ep, F'.keep L oL hLg, hLd, hLk, hLf⟩, fun b o e => F'.keep b o (st b o e), F.above⟩ fun p hp => ⟨(N' p hp).1, fun q => ?_, ?_⟩
  · have := (N' p hp).2.2; rw [q, hLg] at this; cases this
  · cases q : h₀.get? p.1 with
    | none => rfl
    | some o => have := (N' p hp).2.2; rw [st _ _ q] at this; cases this
theorem code_defF (F : Fr h₀ L s.heap m) (X₀ : K.In h₀) (N : News h₀ L s.heap news) (T : Top p loose mean mg mb h₀)
    (ho : K.lookup f = some ⟨oc, od, .func (fnOf name qual params body scope dV kV doc pm an cdv ct), osl⟩) (hcd : codeIn K cdv qual = true) (hroom : A.depth < recursionLimit)
    (hbind : BindsTo s (fnOf name qual params body scope dV kV doc pm an cdv ct) args binds) (hloc : ∀ y ∈ binds, scope.names.lookup y.1 = some .local)
    (h : ∀ g L' h₁, Fr g L' h₁ (fun y => binds.reverse.lookup y) → News g L' h₁ news → K.In g → Top p loose mean mg mb g →
      wpAny (model prog w) (A.deeper (envOf qual scope L' f cdv)) (execs body (envOf qual scope L' f cdv))
        (fun fl s' => LeaveK h₀ L m g R (match fl with | .ret v => v | _ => .none) s')
        (fun e s' => wpAny (model prog w) (A.deeper (envOf qual scope L' f cdv)) (leaving (envOf qual scope L' f cdv) e) (fun _ s'' => R (.error e) s'') (fun e' s'' => R (.error e') s'') s')
        { s with heap := h₁, toks := s.toks + binds.length })
    (hco : scope.isCoroutine = false) (hgen : scope.isGenerator = false) (hk : scope.kind = .function)
    (hcell : ∀ x ∈ scope.names, x.2 ≠ .cell) : codeAny (model prog w) A (.call (.ref f) args) R s := by
  obtain ⟨_, st, lv⟩ := groundF (R := R) F N
  have X := X₀.keeps F.keep
  refine codeAny_call_def (fd := fnOf name qual params body scope dV kV doc pm an cdv ct) (body := body) (binds := binds) hroom (X _ _ ho) rfl (T.nolimit.keeps F.keep) (codeRec_of X hcd) rfl hbind hcell hloc (fun h₁ hns hk₁ => ?_) hco hgen hk
  exact wpAny_mono (h _ s.heap.objs.size h₁ ⟨hns, fun b o e => hk₁ b o (of_hideAll _ e), Nat.le_of_eq (hideAll_size _ _)⟩
    (fun p hp => ⟨hk₁ _ _ (N p hp).1, Nat.ne_of_lt (Heap.lt_size (N p hp).1), hideAll_none _ (List.mem_map_of_mem hp)⟩) (X₀.keeps st) (T.keeps st)) (fun fl s' hl => lv _ _ hl) fun _ _ y => y
end
end Mine
end

section
open PySem PySem.W PyProof.Rows PySem.Calls
set_option maxRecDepth 100000
namespace Mine
variable {q9 : Program} {l9 : List Str}
section
variable {M : Model} {A : Around} {E : Value → Shared → Prop} {s : Shared} {env : Env}
structure Hid {α : Type} (Q Q' : α → Shared → Prop) : Prop where
  use' : ∀ v s, Q v s → Q' v s
theorem Hid.use {α : Type} {Q Q' : α → Shared → Prop} {v : α} {s : Shared} (H : Hid Q Q') (h : Q v s) : Q' v s := H.use' v s h
theorem hideQ {α : Type} {t : Sem α} {Q : α → Shared → Prop} (h : ∀ Q', Hid Q Q' → wpAny M A t Q' E s) : wpAny M A t Q E s := h Q ⟨fun _ _ x => x⟩
theorem hideF {α : Type} {t : Sem α} {Q : α → Shared → Prop} (h : ∀ Q', Hid Q Q' → wpAny M A t Q' (fun _ _ => False) s) : wpAny M A t Q E s := wpAny_noRaise (hideQ h)
structure Nx (M : Model) (A : Around) (rest : List Stmt) (env : Env) (Q : Flow → Shared → Prop) (E : Value → Shared → Prop) (Q1 : Flow → Shared → Prop) : Prop where
  nx : ∀ s', wpAny M A (execs rest env) Q E s' → Q1 .next s'
  rt : ∀ v s', Q (.ret v) s' → Q1 (.ret v) s'
  br : ∀ s', Q .brk s' → Q1 .brk s'
  ct : ∀ s', Q .cont s' → Q1 .cont s'
variable {rest : List Stmt} {Q Q1 : Flow → Shared → Prop}
theorem execs_hid {st : Stmt} (h : ∀ Q1, Nx M A rest env Q E Q1 → wpAny M A (exec st env) Q1 E s) : wpAny M A (execs (st :: rest) env) Q E s :=
  wpAny_execs_cons (h _ ⟨fun _ x => x, fun _ _ x => x, fun _ x => x, fun _ x => x⟩)
theorem Nx.next (H : Nx M A rest env Q E Q1) (h : wpAny M A (execs rest env) Q E s) : Q1 .next s := H.nx s h
theorem Nx.nil (H : Nx M A [] env Q E Q1) (h : Q .next s) : Q1 .next s := H.nx s (wpAny_execs_nil h)
theorem Nx.ret {v : Value} (H : Nx M A rest env Q E Q1) (h : Q (.ret v) s) : Q1 (.ret v) s := H.rt v s h
theorem Nx.brk (H : Nx M A rest env Q E Q1) (h : Q .brk s) : Q1 .brk s := H.br s h
theorem Nx.cont (H : Nx M A rest env Q E Q1) (h : Q .cont s) : Q1 .cont s := H.ct s h
end
section
variable {n : Nat} {w : World} {f : Addr} {vs : List Value} {need : List (Addr × Obj) → Prop}
    {mean : ExcName → Option Value} {mg mb : Str → Option Value} {dp un : Nat} {gd : Option (List Code)} {fr : Option (List Env)} {h₀ : Heap} {L : Addr} {m : Str → Option Value} {news : List (Addr × Obj)} {s : Shared} {Q E : Value → Shared → Prop}
theorem con_useE {v : Value} (C : Con n w f vs need (fun x => x = v))
    (F : Fr h₀ L s.heap m) (X : (K9 w.params).In h₀) (N : News h₀ L s.heap news) (T : Top q9 l9 mean mg mb h₀)
    (hn : need news) (hd : dp + n < recursionLimit) (hu : un + 12 * n < cLine)
    (h : ∀ h' tk', Fr h₀ L h' m → News h₀ L h' news → Q v { s with heap := h', toks := tk' }) :
    wpAny (model Challenge.rw_ux0019_01.row.prog w) (anyTop dp un gd fr) (call (.ref f) vs) Q E s :=
  C q9 l9 mean mg mb dp un gd fr h₀ L m news s Q E F X N T hn hd hu fun _ h' tk' e F' N' => e ▸ h h' tk' F' N'
theorem con_useT {g : Tok → Value} (C : Con n w f vs need (fun x => ∃ t, x = g t))
    (F : Fr h₀ L s.heap m) (X : (K9 w.params).In h₀) (N : News h₀ L s.heap news) (T : Top q9 l9 mean mg mb h₀)
    (hn : need news) (hd : dp + n < recursionLimit) (hu : un + 12 * n < cLine)
    (h : ∀ t h' tk', Fr h₀ L h' m → News h₀ L h' news → Q (g t) { s with heap := h', toks := tk' }) :
    wpAny (model Challenge.rw_ux0019_01.row.prog w) (anyTop dp un gd fr) (call (.ref f) vs) Q E s :=
  C q9 l9 mean mg mb dp un gd fr h₀ L m news s Q E F X N T hn hd hu fun _ h' tk' e F' N' => by
    obtain ⟨t, e⟩ := e
    exact e ▸ h t h' tk' F' N'
end
end Mine
end

section
open PySem PySem.W PyProof.Rows PySem.Calls PySem.Builtin PySem.Builtin.Str
set_option maxRecDepth 100000
namespace Mine
theorem gives_find_both (x y : Str) (i j : Int) (t u v w : Tok) : Gives («str.find» ⟨[.str x t, .str y u, .int i v, .int j w], []⟩) (.int (find4 x y i j)) := by
  show Gives (match occurrences x y (fromIndex x.length i) (min (fromIndex x.length j) x.length) 1 with | k :: _ => retInt k | [] => (do rule "str.find.not-found"; retInt (-1))) _
  unfold find4
  cases occurrences x y (fromIndex x.length i) (min (fromIndex x.length j) x.length) 1 with
  | nil => exact .rule (.of_eq rfl)
  | cons k _ => exact .of_eq rfl
section
variable {prog : Program} {w : World} {A : Around} {E : Value → Shared → Prop} {s : Shared} {h₀ : Heap} {L : Addr} {m : Str → Option Value} {news : List (Addr × Obj)}
theorem call_find4 {x y : List Nat} {i j : Int} {sp ep : Nat} {t u v z : Tok} {Q : Value → Shared → Prop} (hi : i = (sp : Int)) (hj : j = (ep : Int)) (he : ep ≤ x.length)
    (hq : Q (.int (fndI x y sp ep) s.toks) { s with toks := s.toks + 1 }) : wpAny (model prog w) A (call (.builtin "str.find") [.str (tx x) t, .str (tx y) u, .int i v, .int j z]) Q E s := by
  rw [← find4_fnd hi hj he] at hq
  exact call_gives F.slot_str_find (typeIs_str _ _ _) F.entry_str_find (F.args_str_find_4 _ _ _ _) (gives_find_both (tx x) (tx y) i j t u v z) hq
theorem ell_split {x y : Str} {t u : Tok} {a b : List Nat} {mid : List (List Nat)} {Q : Value → Shared → Prop} (F : Fr h₀ L s.heap m) (N : News h₀ L s.heap news) (hy : (y.length == 0) = false)
    (e : Txt.split x y = tx a :: (mid.map tx ++ [tx b])) (hsz : x.length + 2 ≤ sizeLine)
    (h : ∀ D ta tb vm h' k, StrsAre vm (mid.map tx) → StrsAre (Value.str (tx a) ta :: (vm ++ [Value.str (tx b) tb])) ((a :: (mid ++ [b])).map tx) → StrsAre (Value.str (tx a) ta :: vm) ((a :: mid).map tx) → StrsAre (vm ++ [Value.str (tx b) tb]) ((mid ++ [b]).map tx) → (∀ p ∈ news, p.1 ≠ D) → Fr h₀ L h' m → News h₀ L h' ((D, listOf (Value.str (tx a) ta :: (vm ++ [Value.str (tx b) tb])).toArray 0) :: news) → Q (.ref D) { s with heap := h', toks := k }) :
    wpAny (model prog w) A (call (.builtin "str.split") [.str x t, .str y u]) Q E s := by
  refine splitN1A F N hy (fun l h' k el hl _ _ F' N' => ?_) hsz
  rw [el, e] at hl
  have key : ∀ (us : List Value) (ps : List Str) (q : Str), StrsAre us (ps ++ [q]) → ∃ vm tb, us = vm ++ [Value.str q tb] ∧ StrsAre vm ps := by
    intro us ps q
    induction ps generalizing us with
    | nil =>
      intro h
      cases h with
      | cons _ t h => cases h; exact ⟨[], t, rfl, .nil⟩
    | cons p ps ih =>
      intro h
      cases h with
      | cons _ t h =>
        obtain ⟨vm, tb, rfl, hs⟩ := ih _ h
        exact ⟨.str p t :: vm, tb, rfl, .cons _ _ hs⟩
  generalize strValues l = us at hl N'
  cases hl with
  | cons _ ta hl =>
    obtain ⟨vm, tb, rfl, hs⟩ := key _ _ _ hl
    have hs2 : StrsAre (vm ++ [Value.str (tx b) tb]) ((mid ++ [b]).map tx) := by rw [List.map_append]; exact hs.append' (.cons _ _ .nil)
    exact h _ ta tb vm h' k hs (.cons _ _ hs2) (.cons _ _ hs) hs2 (fun p hp => Nat.ne_of_lt (Heap.lt_size (N p hp).1)) F' N'
theorem ell_first {value slice : Expr} {D : Addr} {v : Value} {vs : List Value} {n : Nat} {u : Tok} {led : List (Addr × Obj)} {Q : Value → Shared → Prop} (N : News h₀ L s.heap led) (hm : (D, listOf (v :: vs).toArray n) ∈ led) (h : Q v s)
    (hs : subscripted slice false (.ref D) (.int 0 u) = operate [.ref D, .int 0 u] (getItem (.ref D) (.int 0 u)) := by with_unfolding_all rfl) :
    wpAny (model prog w) A (subscriptTail value slice (.ref D) (.int 0 u)) Q E s :=
  have hl : s.heap.IsList D (v :: vs).toArray := News.isList N hm
  tail_any hl.typeIs slot_list_getitem.lookup (wpAny_getItem_list hl (by decide) (by decide) rfl h) hs
theorem ell_len {D : Addr} {va vb : Value} {vm : List Value} {n : Nat} {led : List (Addr × Obj)} {Q : Value → Shared → Prop} (N : News h₀ L s.heap led) (hm : (D, listOf (va :: (vm ++ [vb])).toArray n) ∈ led) (hsz : vm.length ≤ 1000)
    (h : Q (.int ((vm.length + 2 : Nat) : Int) (s.toks + 1)) { s with toks := s.toks + 1 + 1 }) : wpAny (model prog w) A (call (.builtin "len") [.ref D]) Q E s := by
  have hl : s.heap.IsList D (va :: (vm ++ [vb])).toArray := News.isList N hm
  have e : (va :: (vm ++ [vb])).toArray.size = vm.length + 2 := by simp
  refine len_list hl (by rw [e]; omega) ?_
  rw [e]; exact h
theorem ell_last {value slice : Expr} {D : Addr} {v : Value} {vs : List Value} {n : Nat} {u : Tok} {led : List (Addr × Obj)} {Q : Value → Shared → Prop} (N : News h₀ L s.heap led) (hm : (D, listOf (vs ++ [v]).toArray n) ∈ led) (h : Q v s)
    (hs : subscripted slice false (.ref D) (.int (-1) u) = operate [.ref D, .int (-1) u] (getItem (.ref D) (.int (-1) u)) := by with_unfolding_all rfl) :
    wpAny (model prog w) A (subscriptTail value slice (.ref D) (.int (-1) u)) Q E s :=
  have hl : s.heap.IsList D (vs ++ [v]).toArray := News.isList N hm
  have e : (-1 + ((vs.length : Int) + 1)).toNat = vs.length := by omega
  have hx : (vs ++ [v]).toArray[((-1 : Int) + ((vs ++ [v]).toArray.size : Int)).toNat]? = some v := by simp [e]
  have hb : -((vs ++ [v]).toArray.size : Int) ≤ -1 := by simp; omega
  tail_any hl.typeIs slot_list_getitem.lookup (wpAny_getItem_list_neg hl (by decide) hb (by decide) hx h) hs
theorem ell_delFirst {D : Addr} {v : Value} {vs : List Value} {n : Nat} {u : Tok} {p₁ : Addr × Obj} {rest : List (Addr × Obj)} {Q : Unit → Shared → Prop} (F : Fr h₀ L s.heap m) (N : News h₀ L s.heap (p₁ :: (D, listOf (v :: vs).toArray n) :: rest)) (h1 : p₁.1 ≠ D) (hap : ∀ p ∈ rest, p.1 ≠ D) (hsz : vs.length ≤ 1000)
    (h : ∀ h', Fr h₀ L h' m → News h₀ L h' (p₁ :: (D, listOf vs.toArray (n + 1)) :: rest) → Q () { s with heap := h' }) : wpAny (model prog w) A (delItem (.ref D) (.int 0 u)) Q E s :=
  delItem_second (k := 0) F N h1 hap (by decide) (by simp [seqIndex?]) h (by rw [sizeLine_eq]; simp; omega)
theorem ell_delLast {D : Addr} {v : Value} {vs : List Value} {n : Nat} {u : Tok} {p₁ : Addr × Obj} {rest : List (Addr × Obj)} {Q : Unit → Shared → Prop} (F : Fr h₀ L s.heap m) (N : News h₀ L s.heap (p₁ :: (D, listOf (vs ++ [v]).toArray n) :: rest)) (h1 : p₁.1 ≠ D) (hap : ∀ p ∈ rest, p.1 ≠ D) (hsz : vs.length ≤ 1000)
    (h : ∀ h', Fr h₀ L h' m → News h₀ L h' (p₁ :: (D, listOf vs.toArray (n + 1)) :: rest) → Q () { s with heap := h' }) : wpAny (model prog w) A (delItem (.ref D) (.int (-1) u)) Q E s := by
  refine delItem_second (k := vs.length) F N h1 hap (by decide) ?_ (fun h' F' N' => h h' F' ?_) (by rw [sizeLine_eq]; simp; omega)
  · rw [seqIndex_neg (by decide) (by simp; omega)]; simp; omega
  · have : ((vs ++ [v]).toArray.toList.eraseIdx vs.length).toArray = vs.toArray := by
      simp [List.eraseIdx_append_of_length_le]
    rw [this] at N'; exact N'
end
end Mine
end

section
open PySem PySem.W PyProof.Rows PySem.Calls PySem.Builtin PySem.Builtin.Str PySem.Builtin.BaseException PySem.Builtin.Exceptions
set_option maxRecDepth 100000
namespace Mine
section
variable {prog : Program} {w : World} {A : Around} {E : Value → Shared → Prop} {s : Shared} {e t0 C : Addr} {K : Frag} {oe : Obj} {vs : List Value} {ws : Array Value}
theorem bexcArgs_own {M : Model} {items : List Value} {Q : Value × List Value → Shared → Prop} (he : s.heap.get? e = some oe) (hd : oe.data = .fields ws) (h0 : ws[0]? = some (.ref t0)) (ht : s.heap.TupAt t0 items) (hq : Q (.ref t0, items) s) :
    wpAny M A (bexcArgs (.ref e)) Q E s := by
  obtain ⟨ot, k, hto, _, htd⟩ := ht
  unfold bexcArgs
  refine wpAny_bind (wpAny_field he hd h0 (wpAny_bind (wpAny_seqItems hto htd ?_)))
  have : items.toArray.toList = items := by simp
  show wpAny M A (pure (Value.ref t0, items.toArray.toList)) Q E s
  rw [this]; exact wpAny_pure hq
theorem typeOf_own {M : Model} {Q : Value → Shared → Prop} (he : s.heap.get? e = some oe) (hc : oe.cls = .ref C) (hq : Q (.ref C) s) : wpAny M A (typeOf (.ref e)) Q E s := by
  unfold typeOf
  refine wpAny_bind (wpAny_load he ?_)
  rw [hc]
  exact wpAny_pure hq
theorem bexcCheck_own {M : Model} {Q : Unit → Shared → Prop} (X : K.In s.heap) (he : s.heap.get? e = some oe) (hc : oe.cls = .ref C) (hs : subIn K (.ref C) (.type "BaseException") = some true) (hq : Q () s) :
    wpAny M A (checkBuiltinCall "BaseException.__str__" ⟨[.ref e], []⟩) Q E s := by
  have hk : builtinKind "BaseException.__str__" = some .slot := by decide +kernel
  have hsp : splitId "BaseException.__str__" = some ("BaseException", "__str__") := by decide +kernel
  simp only [checkBuiltinCall, hk, hsp]
  refine wpAny_bind ?_
  unfold isInstance
  refine wpAny_bind (typeOf_own he hc ((looks_subIn X hs).here ?_))
  simp only [Bool.not_true, Bool.false_eq_true, if_false]
  have ha := F.args_bexc_str (.ref e)
  cases hsig : Manifest.signature? "BaseException.__str__" with
  | none => exact wpAny_pure hq
  | some sig =>
    simp only [argsOk, hsig] at ha
    have h2 : Bind.checkArgs "BaseException.__str__" sig ⟨[.ref e], []⟩ = pure () := ha
    show wpAny M A (Bind.checkArgs "BaseException.__str__" sig ⟨[.ref e], []⟩) Q E s
    rw [h2]; exact wpAny_pure hq
theorem bexcStr_own {m : Str} {tk : Tok} {Q : Value → Shared → Prop} (X : K.In s.heap) (he : s.heap.get? e = some oe) (hc : oe.cls = .ref C) (hd : oe.data = .fields ws) (h0 : ws[0]? = some (.ref t0)) (ht : s.heap.TupAt t0 [.str m tk]) (hs : subIn K (.ref C) (.type "BaseException") = some true)
    (hq : Q (.str m tk) s) : wpAny (model prog w) A (call (.builtin "BaseException.__str__") [.ref e]) Q E s := by
  refine wpAny_call (codeAny_call_builtin F.excStr_Exception.str.plain F.entry_bexc_str (bexcCheck_own X he hc hs ?_))
  have key : wpAny (model prog w) A.in1 (Builtin.«BaseException.__str__» ⟨[.ref e], []⟩) (fun fin s' => ∃ v, fin = .done (.ret v) ∧ Q v s') E s := by
    unfold Builtin.«BaseException.__str__»
    repeat (first | with_reducible refine bexcArgs_own he hd h0 ht ?_ | wp_step)
    exact ⟨_, rfl, hq⟩
  refine wpAny_mono key (fun fin s' h' => ?_) fun _ _ h' => h'
  obtain ⟨v, rfl, hv⟩ := h'; exact hv
theorem strOf_own {m : Str} {tk : Tok} {Q : Value → Shared → Prop} (hu : A.units < cLine) (X : K.In s.heap) (he : s.heap.get? e = some oe) (hc : oe.cls = .ref C) (hd : oe.data = .fields ws) (h0 : ws[0]? = some (.ref t0)) (ht : s.heap.TupAt t0 [.str m tk])
    (hs : subIn K (.ref C) (.type "BaseException") = some true) (hf : findIn K (.ref C) "__str__" = some (some (.builtin "BaseException.__str__"))) (hq : Q (.str m tk) s) :
    wpAny (model prog w) A (PySem.Builtin.Str.strOf (.ref e)) Q E s := by
  unfold PySem.Builtin.Str.strOf
  rw [show isExactStr (.ref e) = false from rfl]
  refine wpAny_bind (m := cRoomFor _ _) (wpAny_cRoomFor hu ?_)
  refine wpAny_bind (m := callSpecial? (.ref e) (Str.ofString "__str__")) ?_
  refine wpAny_bind ?_
  unfold specialOf
  refine wpAny_bind (typeOf_own he hc ((looks_findIn X hf).here ?_))
  dsimp only
  refine wpAny_holding (wpAny_bind ?_)
  rw [F.excStr_Exception.str.bind]
  refine wpAny_pure ?_
  dsimp only
  refine wpAny_bind (bexcStr_own X he hc hd h0 ht hs ?_)
  exact wpAny_pure (wpAny_pure hq)
theorem str_own {m : Str} {tk : Tok} {Q : Value → Shared → Prop} (hu : A.in1.in1.units < cLine) (X : K.In s.heap) (he : s.heap.get? e = some oe) (hc : oe.cls = .ref C) (hd : oe.data = .fields ws) (h0 : ws[0]? = some (.ref t0)) (ht : s.heap.TupAt t0 [.str m tk])
    (hs : subIn K (.ref C) (.type "BaseException") = some true) (hf : findIn K (.ref C) "__str__" = some (some (.builtin "BaseException.__str__"))) (hq : Q (.str m tk) s) :
    wpAny (model prog w) A (call (.type "str") [.ref e]) Q E s := by
  refine callType_codes (T := "str") (Bi := Builtin.«object.__init__») (Q₁ := fun r s₁ => ∃ y u, r = .str y u ∧ Q r s₁) PySem.F.called_str (PySem.F.typeCall_str_1 _) PySem.F.entry_object_init ?_ ?_
  · refine codeAny_of_tree ?_
    show wpAny _ A.in1.in1 (do checkBuiltinCall "str.__new__" ⟨[.type "str", .ref e], []⟩; again (.builtin "str.__new__" ⟨[.type "str", .ref e], []⟩)) _ _ s
    refine wpAny_bind (wpAny_of_eq (PySem.F.newCall_str_1 _) (wpAny_pure ⟨plainId_quiet (by decide +kernel) _, codeAny_builtin PySem.F.entry_str_new ?_⟩))
    rw [Around.under_plainId (by decide +kernel) _]
    rw [str_new_tree]
    refine wpAny_bind (wpAny_pure ?_)
    refine wpAny_bind (wpAny_of_eq isSubtype_str_str ?_)
    refine wpAny_bind (wpAny_mono (strOf_own hu X he hc hd h0 ht hs hf (Q := fun r s₁ => ∃ y u, r = .str y u ∧ Q r s₁) ⟨_, _, rfl, hq⟩) (fun r s₁ hr => wpAny_pure hr) fun _ _ y => y)
  · rintro obj s₁ ⟨y, u, rfl, hq⟩
    exact ⟨typeIs_str _ _ _, PySem.F.args_object_init_2 _ _, object_init_meets PySem.F.called_str.init.lookup PySem.F.called_str.made (by decide) prog w A.in1 _ s₁ ⟨typeIs_str _ _ _, rfl, hq⟩⟩
end
end Mine
end

section
open PySem PySem.W PyProof.Rows PySem.Calls
set_option maxRecDepth 100000
namespace Mine
section
variable {prog : Program} {w : World} {A : Around} {E : Value → Shared → Prop} {s : Shared} {env : Env} {Q : Flow → Shared → Prop}
theorem wpAny_assign_of {M : Model} {x : Str} {p : Pos} {v : Value} {Q : Unit → Shared → Prop} (h : wpAny M A (bindName env x v) Q E s) : wpAny M A (assign (.Name x p) env v) Q E s := by
  have e : assign (.Name x p) env v = (do standAt p; bindName env x v) := rfl
  rw [e]
  exact wpAny_bind (wpAny_standAt h)
def WgEnd (s : Shared) (J : Nat → Heap → Prop) (n : Nat) (s₃ : Shared) : Prop := ∃ n' h' tk', s₃ = { s with heap := h', toks := tk' } ∧ n' < n ∧ J n' h'
def WgPost (s : Shared) (J : Nat → Heap → Prop) (Q : Flow → Shared → Prop) (n : Nat) (f : Flow) (s₃ : Shared) : Prop := match f with
  | .ret v => Q (.ret v) s₃
  | .brk => Q .next s₃
  | _ => WgEnd s J n s₃
theorem While_G {test : Expr} {body : List Stmt} {pos : Pos} (J : Nat → Heap → Prop) {n₀ : Nat} (h0 : J n₀ s.heap)
    (turn : ∀ n h tk, J n h → wpAny (model prog w) A (isTrue test env (eval test env)) (fun b s₂ =>
      if b = true then wpAny (model prog w) A (execs body env) (WgPost s J Q n) E s₂ else Q .next s₂) E { s with heap := h, toks := tk })
    (hE : PassesOwn (model prog w) A env E := by passes_own) :
    wpAny (model prog w) A (exec (.While test body [] pos) env) Q E s := by
  refine wpAny_While (codeAny_whileLoop (fun n s' => ∃ h tk, s' = { s with heap := h, toks := tk } ∧ J n h) ?_ n₀ ⟨s.heap, s.toks, rfl, h0⟩)
  rintro n s' ⟨h, tk, rfl, hJ⟩
  refine wpAny_mono (turn n h tk hJ) (fun b s₂ h₂ => ?_) hE
  cases b with
  | false =>
    simp only [Bool.false_eq_true, if_false] at h₂ ⊢
    exact wpAny_execs_nil h₂
  | true =>
    simp only [if_true] at h₂ ⊢
    refine wpAny_mono h₂ (fun f s₃ h₃ => ?_) hE
    cases f with
    | next => obtain ⟨n', h', tk', rfl, hn, hJ'⟩ := h₃; exact ⟨n', hn, h', tk', rfl, hJ'⟩
    | cont => obtain ⟨n', h', tk', rfl, hn, hJ'⟩ := h₃; exact ⟨n', hn, h', tk', rfl, hJ'⟩
    | brk => exact h₃
    | ret v => exact h₃
abbrev riObj (n i : Nat) : Obj := { cls := .type "range_iterator", dict := none, data := .fields #[rawInt ((0 : Int) + (i : Nat) * 1), rawInt ((n : Int) - (i : Nat)), rawInt 1], slots := #[] }
def FgEnd (s : Shared) (I n : Nat) (J : Nat → Heap → Prop) (i : Nat) (s₃ : Shared) : Prop := ∃ h' tk', s₃ = { s with heap := h', toks := tk' } ∧ h'.get? I = some (riObj n (i + 1)) ∧ J (i + 1) h'
def FgPost (s : Shared) (I n : Nat) (J : Nat → Heap → Prop) (Q : Flow → Shared → Prop) (i : Nat) (f : Flow) (s₃ : Shared) : Prop := match f with
  | .ret v => Q (.ret v) s₃
  | .brk => Q .next s₃
  | _ => FgEnd s I n J i s₃
def FgAt (prog : Program) (w : World) (A : Around) (env : Env) (x : Str) (body : List Stmt) (Q : Flow → Shared → Prop) (E : Value → Shared → Prop) (n : Nat) (s : Shared) (xv : Value) (s₁ : Shared) : Prop :=
  ∃ (r : Addr) (t u v : Tok) (J : Nat → Heap → Prop), xv = .ref r ∧ IsRange s₁.heap r 0 (n : Int) 1 t u v ∧ (∃ h tk, s₁ = { s with heap := h, toks := tk }) ∧
    (∀ i h h', J i h → (∀ b o, b ≠ s₁.heap.objs.size → h.get? b = some o → h'.get? b = some o) → J i h') ∧
    J 0 (s₁.heap.push (riObj n 0)) ∧
    (∀ i h tk t, i < n → J i h → h.get? s₁.heap.objs.size = some (riObj n (i + 1)) →
      wpAny (model prog w) A (bindName env x (.int (i : Int) t)) (fun _ s₂ => wpAny (model prog w) A (execs body env) (FgPost s s₁.heap.objs.size n J Q i) E s₂) E { s with heap := h, toks := tk }) ∧
    ∀ h tk, J n h → Q .next { s with heap := h, toks := tk }
theorem For_G {x : Str} {px pos : Pos} {iter : Expr} {body : List Stmt} {n : Nat} (hh : A.handled = none) (hsm : Builtin.Range.small 0 (n : Int) 1 = true) (hn : Builtin.Range.rangeSize 0 (n : Int) 1 = (n : Int))
    (h : wpAny (model prog w) A (eval iter env) (FgAt prog w A env x body Q E n s) E s)
    (hs : ∀ x, foldedSetIterable iter env x = pure x := by intro _; rfl)
    (hE : PassesOwn (model prog w) A env E := by passes_own) :
    wpAny (model prog w) A (exec (.For (.Name x px) iter body [] pos) env) Q E s := by
  refine wpAny_For (wpAny_mono h (fun xv s₁ h₁ => ?_) fun _ _ e => e) hs
  obtain ⟨r, t, u, v, J, rfl, hr, ⟨h₁, tk₁, rfl⟩, hst, h0, step, done⟩ := h₁
  dsimp only at hst h0 step
  refine wpAny_pyIter_range hr hsm ?_
  dsimp only
  rw [hn]
  have W := Walks.range (prog := prog) (w := w) hh h₁.objs.size 0 1 n
  refine codeAny_forLoop (R := fun r s' => match r with | .ok f => Q f s' | .error e => cameBackBy (model prog w) A env E e s')
    (fun k s' => ∃ h' tk i, s' = { s with heap := h', toks := tk } ∧ h'.get? h₁.objs.size = some (riObj n i) ∧ J i h' ∧ i ≤ n ∧ k = n + 1 - i) ?_ (n + 1)
    ⟨_, _, 0, rfl, by simpa [riObj] using Heap.get?_push_size h₁ rfl, by simpa [riObj] using h0, Nat.zero_le _, rfl⟩
  rintro k s' ⟨h', tk, i, rfl, hI, hJ, hi, rfl⟩
  by_cases hlt : i < n
  · refine W.item i _ _ _ hlt hI fun v h₂ tk₂ hP hst₂ hk₂ => ?_
    obtain ⟨t', rfl⟩ := hP
    have hJ₂ := hst i h' h₂ hJ fun b o hb e => hk₂ b o (by simpa using hb) e
    refine wpAny_assign_of ?_
    have e0 : (0 : Int) + (i : Int) * 1 = (i : Int) := by omega
    rw [e0]
    refine wpAny_passesOwn hE (wpAny_mono (step i h₂ tk₂ t' hlt hJ₂ hst₂) (fun _ s₂ q => ?_) fun _ _ e => e)
    refine wpAny_passesOwn hE (wpAny_mono q (fun f s₃ p => ?_) fun _ _ e => e)
    cases f with
    | ret v => exact p
    | brk => exact p
    | next => obtain ⟨h₃, tk₃, rfl, hI₃, hJ₃⟩ := p; exact ⟨n + 1 - (i + 1), by omega, h₃, tk₃, i + 1, rfl, hI₃, hJ₃, hlt, rfl⟩
    | cont => obtain ⟨h₃, tk₃, rfl, hI₃, hJ₃⟩ := p; exact ⟨n + 1 - (i + 1), by omega, h₃, tk₃, i + 1, rfl, hI₃, hJ₃, hlt, rfl⟩
  · obtain rfl : i = n := by omega
    exact W.done _ _ _ hI fun h₂ tk₂ hk₂ => wpAny_execs_nil (done h₂ tk₂ (hst i h' h₂ hJ fun b o hb e => hk₂ b o (by simpa using hb) e))
end
end Mine
end

section
open PySem PySem.W PyProof.Rows PySem.Spec PySem.Calls LCg LCt
set_option maxRecDepth 100000
namespace Mine
section
variable {prog : Program} {w : World} {A : Around} {E : Value → Shared → Prop} {s : Shared} {h₀ : Heap} {L : Addr} {m : Str → Option Value} {env : Env} {Q : Flow → Shared → Prop} {x : Str} {px pos : Pos} {iter : Expr} {body : List Stmt}
def TEnd (h₀ : Heap) (L I : Addr) (oI : Obj) (J : (Str → Option Value) → List (Addr × Obj) → Prop) (s s₃ : Shared) : Prop :=
  ∃ h' tk' m' nx all, s₃ = { s with heap := h', toks := tk' } ∧ Fr h₀ L h' m' ∧ News h₀ L h' all ∧ (I, oI) ∈ all ∧ (∀ p ∈ nx, p ∈ all) ∧ (∀ p ∈ nx, p.1 ≠ I) ∧ J m' nx
def TPost (h₀ : Heap) (L I : Addr) (oI : Obj) (J : (Str → Option Value) → List (Addr × Obj) → Prop) (s : Shared) (Q : Flow → Shared → Prop) (f : Flow) (s₃ : Shared) : Prop := match f with
  | .ret v => Q (.ret v) s₃
  | .brk => Q .next s₃
  | _ => TEnd h₀ L I oI J s s₃
theorem TEnd.intro {I : Addr} {oI : Obj} {J : (Str → Option Value) → List (Addr × Obj) → Prop} {h' : Heap} {tk' : Nat} {m' : Str → Option Value} {all : List (Addr × Obj)} (F : Fr h₀ L h' m') (N : News h₀ L h' all) (hI : (I, oI) ∈ all) (nx : List (Addr × Obj)) (hs : ∀ p ∈ nx, p ∈ all) (off : ∀ p ∈ nx, p.1 ≠ I) (hj : J m' nx) :
    TEnd h₀ L I oI J s { s with heap := h', toks := tk' } := ⟨h', tk', m', nx, all, rfl, F, N, hI, hs, off, hj⟩
def LTurn (prog : Program) (w : World) (A : Around) (h₀ : Heap) (L : Addr) (env : Env) (x : Str) (body : List Stmt) (Q : Flow → Shared → Prop) (E : Value → Shared → Prop) (s : Shared) (n : Nat) (P : Nat → Value → Prop) (J : Nat → (Str → Option Value) → List (Addr × Obj) → Prop) : Prop :=
  ∀ i v m₁ nx I oI h tk, i < n → P i v → J i m₁ nx → Fr h₀ L h m₁ → News h₀ L h ((I, oI) :: nx) → (∀ p ∈ nx, p.1 ≠ I) →
    wpAny (model prog w) A (bindName env x v) (fun _ s₂ => wpAny (model prog w) A (execs body env) (TPost h₀ L I oI (J (i + 1)) s Q) E s₂) E { s with heap := h, toks := tk }
theorem loop_any {I : Addr} {fp : List Addr} {n : Nat} {P : Nat → Value → Prop} {St : Nat → Heap → Prop} {S : List (Addr × Obj) → Prop} {news : List (Addr × Obj)} {J : Nat → (Str → Option Value) → List (Addr × Obj) → Prop}
    (W : Walks prog w A I fp [I] n P St) (hIo : ∀ i h, St i h → ∃ o, h.get? I = some o)
    (hSt : ∀ i h h' o nw, St i h → h.get? I = some o → h'.get? I = some o → (∀ b o, h₀.get? b = some o → h'.get? b = some o) → News h₀ L h' nw → S nw → St i h')
    (hS : ∀ i m nx, J i m nx → S nx) (hst : St 0 s.heap) (F : Fr h₀ L s.heap m) (N : News h₀ L s.heap news) (hIL : L ≠ I) (hI₀ : h₀.get? I = none) (off : ∀ p ∈ news, p.1 ≠ I) (hj : J 0 m news)
    (turn : LTurn prog w A h₀ L env x body Q E s n P J)
    (done : ∀ m₁ nx h tk, J n m₁ nx → Fr h₀ L h m₁ → News h₀ L h nx → Q .next { s with heap := h, toks := tk })
    (hE : PassesOwn (model prog w) A env E) :
    codeAny (model prog w) A (.forLoop (.Name x px) (.ref I) body [] env) (fun r s' => match r with | .ok f => Q f s' | .error e => cameBackBy (model prog w) A env E e s') s := by
  refine codeAny_forLoop (R := fun r s' => match r with | .ok f => Q f s' | .error e => cameBackBy (model prog w) A env E e s')
    (fun k s' => ∃ h' tk i m₁ nx, s' = { s with heap := h', toks := tk } ∧ St i h' ∧ Fr h₀ L h' m₁ ∧ News h₀ L h' nx ∧ (∀ p ∈ nx, p.1 ≠ I) ∧ J i m₁ nx ∧ i ≤ n ∧ k = n + 1 - i) ?_ (n + 1)
    ⟨s.heap, s.toks, 0, m, news, rfl, hst, F, N, off, hj, Nat.zero_le _, rfl⟩
  rintro k s' ⟨h', tk, i, m₁, nx, rfl, hst', F', N', off', hJ, hi, rfl⟩
  by_cases hlt : i < n
  · refine W.item i _ _ _ hlt hst' fun v h₂ tk₂ hP hst₂ hk₂ => ?_
    obtain ⟨oI, heI⟩ := hIo _ _ hst₂
    refine wpAny_assign_of ?_
    have F₂ : Fr h₀ L h₂ m₁ := LCg.fr_but F' hk₂ hIL hI₀
    have N₂ : News h₀ L h₂ ((I, oI) :: nx) := fun p hp => by
      rcases List.mem_cons.mp hp with rfl | hp
      · exact ⟨heI, Ne.symm hIL, hI₀⟩
      · exact LCg.news_but N' hk₂ off' p hp
    refine wpAny_passesOwn hE (wpAny_mono (turn i v m₁ nx I oI h₂ tk₂ hlt hP hJ F₂ N₂ off') (fun _ s₂ q => ?_) fun _ _ e => e)
    refine wpAny_passesOwn hE (wpAny_mono q (fun f s₃ p => ?_) fun _ _ e => e)
    have fin : TEnd h₀ L I oI (J (i + 1)) s s₃ → ∃ m, m < n + 1 - i ∧ ∃ h' tk i' m₁ nx, s₃ = { s with heap := h', toks := tk } ∧ St i' h' ∧ Fr h₀ L h' m₁ ∧ News h₀ L h' nx ∧ (∀ p ∈ nx, p.1 ≠ I) ∧ J i' m₁ nx ∧ i' ≤ n ∧ m = n + 1 - i' := by
      rintro ⟨h₃, tk₃, m₃, nx₃, all, rfl, F₃, N₃, hI, hs, off₃, hJ₃⟩
      have N₃' : News h₀ L h₃ nx₃ := fun p hp => N₃ p (hs p hp)
      exact ⟨n + 1 - (i + 1), by omega, h₃, tk₃, i + 1, m₃, nx₃, rfl, hSt _ _ _ _ _ hst₂ heI (N₃ _ hI).1 F₃.keep N₃' (hS _ _ _ hJ₃), F₃, N₃', off₃, hJ₃, hlt, rfl⟩
    cases f with
    | ret v => exact p
    | brk => exact p
    | next => exact fin p
    | cont => exact fin p
  · obtain rfl : i = n := by omega
    exact W.done _ _ _ hst' fun h₂ tk₂ hk₂ => wpAny_execs_nil (done m₁ nx h₂ tk₂ hJ (LCg.fr_but F' hk₂ hIL hI₀) (LCg.news_but N' hk₂ off'))
inductive TEndF (h₀ : Heap) (L I : Addr) (oI : Obj) (news : List (Addr × Obj)) (J : (Str → Option Value) → Prop) (s s₃ : Shared) : Prop
  | mk (h' : Heap) (tk' : Nat) (m' : Str → Option Value) (all : List (Addr × Obj)) (e : s₃ = { s with heap := h', toks := tk' }) (F : Fr h₀ L h' m') (N : News h₀ L h' all) (hI : (I, oI) ∈ all) (hs : ∀ p ∈ news, p ∈ all) (hj : J m')
def TPostF (h₀ : Heap) (L I : Addr) (oI : Obj) (news : List (Addr × Obj)) (J : (Str → Option Value) → Prop) (s : Shared) (Q : Flow → Shared → Prop) (f : Flow) (s₃ : Shared) : Prop := match f with
  | .ret v => Q (.ret v) s₃
  | .brk => Q .next s₃
  | _ => TEndF h₀ L I oI news J s s₃
theorem tp_end {I : Addr} {oI : Obj} {news : List (Addr × Obj)} {J : (Str → Option Value) → Prop} {h' : Heap} {tk' : Nat} {m' : Str → Option Value} {all : List (Addr × Obj)} (F : Fr h₀ L h' m') (N : News h₀ L h' all) (hI : (I, oI) ∈ all) (hs : ∀ p ∈ news, p ∈ all) (hj : J m') :
    TPostF h₀ L I oI news J s Q .next { s with heap := h', toks := tk' } := .mk h' tk' m' all rfl F N hI hs hj
def TurnF (prog : Program) (w : World) (A : Around) (h₀ : Heap) (L : Addr) (env : Env) (x : Str) (body : List Stmt) (Q : Flow → Shared → Prop) (E : Value → Shared → Prop) (s : Shared) (n : Nat) (P : Nat → Value → Prop) (news : List (Addr × Obj)) (J : Nat → (Str → Option Value) → Prop) : Prop :=
  ∀ i v m₁ I oI h tk Q', Hid (TPostF h₀ L I oI news (J (i + 1)) s Q) Q' → i < n → P i v → J i m₁ → Fr h₀ L h m₁ → News h₀ L h ((I, oI) :: news) → (∀ p ∈ news, p.1 ≠ I) →
    wpAny (model prog w) A (bindName env x v) (fun _ s₂ => wpAny (model prog w) A (execs body env) Q' E s₂) E { s with heap := h, toks := tk }
theorem turn_fix {h1 : Heap} {n : Nat} {P : Nat → Value → Prop} {news : List (Addr × Obj)} {J : Nat → (Str → Option Value) → Prop} (turn : TurnF prog w A h₀ L env x body Q E s n P news J) :
    LTurn prog w A h₀ L env x body Q E { s with heap := h1 } n P (fun i m nx => nx = news ∧ J i m) := fun i v m₁ nx I oI h tk hi hP hJ F N off => by
    obtain ⟨e, hJ⟩ := hJ
    subst nx
    refine turn i v m₁ I oI h tk _ ⟨fun f s₃ q => ?_⟩ hi hP hJ F N off
    have fin : TEndF h₀ L I oI news (J (i + 1)) s s₃ → TEnd h₀ L I oI (fun m nx' => nx' = news ∧ J (i + 1) m) { s with heap := h1 } s₃ := fun q => by
      cases q with
      | mk h' tk' m' all e F N hI hs hj => exact ⟨h', tk', m', news, all, e, F, N, hI, hs, off, rfl, hj⟩
    cases f with
    | ret v => exact q
    | brk => exact q
    | next => exact fin q
    | cont => exact fin q
theorem loop_fix {h1 : Heap} {I : Addr} {n : Nat} {P : Nat → Value → Prop} {St : Nat → Heap → Prop} {news : List (Addr × Obj)} {J : Nat → (Str → Option Value) → Prop}
    (W : Walks prog w A I [I] [I] n P St) (hIo : ∀ i h, St i h → ∃ o, h.get? I = some o) (hst : St 0 h1) (F : Fr h₀ L h1 m) (N : News h₀ L h1 news) (hIL : L ≠ I) (hI₀ : h₀.get? I = none) (off : ∀ p ∈ news, p.1 ≠ I) (hj : J 0 m)
    (turn : TurnF prog w A h₀ L env x body Q E s n P news J)
    (done : ∀ m₁ h tk, J n m₁ → Fr h₀ L h m₁ → News h₀ L h news → Q .next { s with heap := h, toks := tk })
    (hE : PassesOwn (model prog w) A env E) :
    codeAny (model prog w) A (.forLoop (.Name x px) (.ref I) body [] env) (fun r s' => match r with | .ok f => Q f s' | .error e => cameBackBy (model prog w) A env E e s') { s with heap := h1 } :=
  loop_any (s := { s with heap := h1 }) (J := fun i m nx => nx = news ∧ J i m) (S := fun _ => True) W hIo
    (fun i h h' o nw st e e' _ _ _ => W.frame i h h' st fun b hb o' e2 => by rw [List.mem_singleton.mp hb] at e2 ⊢; rw [e] at e2; rw [e', e2])
    (fun _ _ _ _ => trivial) hst F N hIL hI₀ off ⟨rfl, hj⟩
    (turn_fix turn)
    (fun m₁ nx h tk hJ F N => by obtain ⟨e, hJ⟩ := hJ; subst nx; exact done m₁ h tk hJ F N) hE
inductive ForTAt (prog : Program) (w : World) (A : Around) (h₀ : Heap) (L : Addr) (env : Env) (x : Str) (body : List Stmt) (Q : Flow → Shared → Prop) (E : Value → Shared → Prop) (xv : Value) (s₁ : Shared) : Prop
  | mk {xt : Str} {t : Tok} {news : List (Addr × Obj)} {m : Str → Option Value} (J : Nat → (Str → Option Value) → Prop) (e : xv = .str xt t) (hh : A.handled = none) (F : Fr h₀ L s₁.heap m) (N : News h₀ L s₁.heap news) (hj : J 0 m)
      (turn : TurnF prog w A h₀ L env x body Q E s₁ xt.cps.size (SignAt xt) news J) (done : ∀ m₁ h tk, J xt.cps.size m₁ → Fr h₀ L h m₁ → News h₀ L h news → Q .next { s₁ with heap := h, toks := tk })
theorem For_T (h : wpAny (model prog w) A (eval iter env) (ForTAt prog w A h₀ L env x body Q E) E s)
    (hs : ∀ x, foldedSetIterable iter env x = pure x := by intro _; rfl)
    (hE : PassesOwn (model prog w) A env E := by passes_own) :
    wpAny (model prog w) A (exec (.For (.Name x px) iter body [] pos) env) Q E s := by
  refine wpAny_For (wpAny_mono h (fun xv s₁ h₁ => ?_) fun _ _ e => e) hs
  cases h₁ with
  | @mk xt t news m J e hh F N hj turn done =>
    subst e
    have hIL : L ≠ s₁.heap.objs.size := Nat.ne_of_lt F.ns.lt
    have hI₀ := next_is_new F
    have off : ∀ p ∈ news, p.1 ≠ s₁.heap.objs.size := fun p hp => Nat.ne_of_lt (Heap.lt_size (N p hp).1)
    have N' : ∀ o, News h₀ L (s₁.heap.push o) news := fun o => N.grown fun _ _ e => Heap.get?_push_of_some _ e
    cases ha : xt.cps.all (· < 128)
    · exact wpAny_pyIter_wide ha (loop_fix (s := s₁) (Walks.strWide hh _ xt t) (fun i h st => by obtain ⟨o, e, _⟩ := st; exact ⟨o, e⟩) ⟨_, Heap.get?_push_size _ rfl, rfl, rfl⟩ (F.push _) (N' _) hIL hI₀ off hj turn done hE)
    · exact wpAny_pyIter_ascii ha (loop_fix (s := s₁) (Walks.strAscii hh _ xt t) (fun i h st => by obtain ⟨o, e, _⟩ := st; exact ⟨o, e⟩) ⟨_, Heap.get?_push_size _ rfl, rfl, rfl⟩ (F.push _) (N' _) hIL hI₀ off hj turn done hE)
inductive ForLAt (prog : Program) (w : World) (A : Around) (h₀ : Heap) (L : Addr) (env : Env) (x : Str) (body : List Stmt) (Q : Flow → Shared → Prop) (E : Value → Shared → Prop) (xv : Value) (s₁ : Shared) : Prop
  | mk (l : Addr) (its : Array Value) (k : Nat) (news : List (Addr × Obj)) (m : Str → Option Value) (J : Nat → (Str → Option Value) → List (Addr × Obj) → Prop) (c0 : xv = .ref l) (c1 : A.handled = none) (c2 : Fr h₀ L s₁.heap m) (c3 : News h₀ L s₁.heap news) (c4 : (∀ i m nx, J i m nx → (l, ({ cls := .type "list", data := .seq its k } : Obj)) ∈ nx)) (c5 : J 0 m news) (c6 : LTurn prog w A h₀ L env x body Q E s₁ its.size (fun i v => its[i]? = some v) J) (c7 : ∀ m₁ nx h tk, J its.size m₁ nx → Fr h₀ L h m₁ → News h₀ L h nx → Q .next { s₁ with heap := h, toks := tk })
theorem For_L (h : wpAny (model prog w) A (eval iter env) (ForLAt prog w A h₀ L env x body Q E) E s)
    (hs : ∀ x, foldedSetIterable iter env x = pure x := by intro _; rfl)
    (hE : PassesOwn (model prog w) A env E := by passes_own) :
    wpAny (model prog w) A (exec (.For (.Name x px) iter body [] pos) env) Q E s := by
  refine wpAny_For (wpAny_mono h (fun xv s₁ h₁ => ?_) fun _ _ e => e) hs
  obtain ⟨l, its, k, news, m, J, rfl, hh, F, N, hl, hj, turn, done⟩ := h₁
  have hlo := (N _ (hl _ _ _ hj)).1
  have hls : s₁.heap.IsList l its := ⟨_, hlo, rfl, k, rfl⟩
  have hlt : l < s₁.heap.objs.size := Heap.lt_size hlo
  refine wpAny_pyIter_list hls ?_
  exact loop_any (s := { s₁ with heap := s₁.heap.push _ }) (J := J) (S := fun nx => (l, ({ cls := .type "list", data := .seq its k } : Obj)) ∈ nx) (Walks.list hh s₁.heap.objs.size l (Nat.ne_of_lt hlt) its) (fun i h st => by obtain ⟨o, e, _⟩ := st.1; exact ⟨o, e⟩)
    (fun i h h' o nw st e e' _ N' hm => ⟨by obtain ⟨o', q, r⟩ := st.1; rw [e] at q; cases q; exact ⟨o, e', r⟩, ⟨_, (N' _ hm).1, rfl, k, rfl⟩⟩) hl ⟨⟨_, Heap.get?_push_size _ rfl, rfl, rfl⟩, hls.push _⟩ (F.push _) (N.grown fun _ _ e => Heap.get?_push_of_some _ e)
    (Nat.ne_of_lt F.ns.lt) (next_is_new F) (fun p hp => Nat.ne_of_lt (Heap.lt_size (N p hp).1)) hj turn done hE
theorem ForLAt.fix {l : Addr} {vs : List Value} {nn : Nat} {news : List (Addr × Obj)} (J : Nat → (Str → Option Value) → Prop) (hh : A.handled = none) (hl : (l, listOf vs.toArray nn) ∈ news) (F : Fr h₀ L s.heap m) (N : News h₀ L s.heap news) (hj : J 0 m)
    (turn : TurnF prog w A h₀ L env x body Q E s vs.length (fun i v => vs.toArray[i]? = some v) news J) (done : ∀ m₁ h tk, J vs.length m₁ → Fr h₀ L h m₁ → News h₀ L h news → Q .next { s with heap := h, toks := tk }) :
    ForLAt prog w A h₀ L env x body Q E (.ref l) s :=
  .mk l vs.toArray nn news m (fun i m nx => nx = news ∧ J i m) rfl hh F N (fun _ _ _ h => h.1 ▸ hl) ⟨rfl, hj⟩ (turn_fix (h1 := s.heap) turn) (fun m₁ nx h tk hJ F N => by obtain ⟨e, hJ⟩ := hJ; subst nx; exact done m₁ h tk hJ F N)
variable {rest : List Stmt}
theorem If_hid {test : Expr} {orelse : List Stmt} (h : ∀ Qb : Bool → Shared → Prop, (∀ s₂, wpAny (model prog w) A (execs body env) Q E s₂ → Qb true s₂) → (∀ s₂, wpAny (model prog w) A (execs orelse env) Q E s₂ → Qb false s₂) → wpAny (model prog w) A (isTrue test env (eval test env)) Qb E s) :
    wpAny (model prog w) A (exec (.If test body orelse pos) env) Q E s :=
  wpAny_If (h (fun b s₂ => if b = true then wpAny (model prog w) A (execs body env) Q E s₂ else wpAny (model prog w) A (execs orelse env) Q E s₂) (fun _ x => by rw [if_pos rfl]; exact x) (fun _ x => by rw [if_neg Bool.false_ne_true]; exact x))
theorem While_I {test : Expr} (J : Nat → Heap → Prop) {n₀ : Nat} (h0 : J n₀ s.heap)
    (turn : ∀ n h tk Q' Qb, Hid (WgPost s J Q n) Q' → (∀ s₂, wpAny (model prog w) A (execs body env) Q' E s₂ → Qb true s₂) → (∀ s₂, Q .next s₂ → Qb false s₂) → J n h → wpAny (model prog w) A (isTrue test env (eval test env)) Qb E { s with heap := h, toks := tk })
    (hE : PassesOwn (model prog w) A env E := by passes_own) :
    wpAny (model prog w) A (exec (.While test body [] pos) env) Q E s :=
  While_G J h0 (fun n h tk hJ => turn n h tk _ (fun b s₂ => if b = true then wpAny (model prog w) A (execs body env) (WgPost s J Q n) E s₂ else Q .next s₂) ⟨fun _ _ x => x⟩ (fun _ x => by rw [if_pos rfl]; exact x) (fun _ x => by rw [if_neg Bool.false_ne_true]; exact x) hJ) hE
theorem wg_end {J : Nat → Heap → Prop} {n n' : Nat} {h : Heap} {tk : Nat} (hn : n' < n) (hJ : J n' h) : WgPost s J Q n .next { s with heap := h, toks := tk } := ⟨n', h, tk, rfl, hn, hJ⟩
theorem fg_end {I n i : Nat} {J : Nat → Heap → Prop} {h : Heap} {tk : Nat} (hI : h.get? I = some (riObj n (i + 1))) (hJ : J (i + 1) h) : FgPost s I n J Q i .next { s with heap := h, toks := tk } := ⟨h, tk, rfl, hI, hJ⟩
end
end Mine
end

section
open PySem PySem.W PyProof.Rows PySem.Calls PySem.Spec
set_option maxRecDepth 100000
namespace Mine
section
variable {prog : Program} {w : World} {A₀ A : Around} {s : Shared} {base h₀ : Heap} {L : Addr} {m : Str → Option Value} {envL : Env} {news : List (Addr × Obj)} {K : Frag} {p : Program} {loose : List Str} {mean : ExcName → Option Value} {mg mb : Str → Option Value}
    {R : Result → Shared → Prop} {name qual : Str} {params : Arguments} {body : List Stmt} {scope : Scope} {dV kV doc pm cdv ct oc : Value} {an od : Option Addr} {osl : Array (Option Value)} {f : Addr} {args : Args} {binds : List (Str × Value)}
theorem one_frame {b : Addr} (hf : envL.frame = some L) (h : b ∈ [envL].filterMap (·.frame)) : b = L := by
  obtain ⟨env, he, e⟩ := List.mem_filterMap.mp h
  rw [List.mem_singleton.mp he, hf] at e
  exact (Option.some.inj e).symm
theorem code_defP (B : Below A₀ base [] h₀) (F : Fr h₀ L s.heap m) (X₀ : K.In h₀) (N : News h₀ L s.heap news) (T : Top p loose mean mg mb h₀) (hA : A.frames = some [envL]) (hf : envL.frame = some L) (hke : envL.scope.kind = .function)
    (ho : K.lookup f = some ⟨oc, od, .func (fnOf name qual params body scope dV kV doc pm an cdv ct), osl⟩) (hcd : codeIn K cdv qual = true) (hroom : A.depth < recursionLimit)
    (hbind : BindsTo s (fnOf name qual params body scope dV kV doc pm an cdv ct) args binds) (hloc : ∀ y ∈ binds, scope.names.lookup y.1 = some .local)
    (h : ∀ g L' h₁, Fr g L' h₁ (fun y => binds.reverse.lookup y) → News g L' h₁ news → Below A base [envL] g → K.In g → Top p loose mean mg mb g → KtsDicts ([envL].filterMap (·.frame)) g →
      wpAny (model prog w) (A.deeper (envOf qual scope L' f cdv)) (execs body (envOf qual scope L' f cdv))
        (fun fl s' => LeaveS0 ([envL].filterMap (·.frame)) h₀ L m g R (match fl with | .ret v => v | _ => .none) s')
        (fun e s' => wpAny (model prog w) (A.deeper (envOf qual scope L' f cdv)) (leaving (envOf qual scope L' f cdv) e) (fun _ s'' => R (.error e) s'') (fun e' s'' => R (.error e') s'') s')
        { s with heap := h₁, toks := s.toks + binds.length })
    (hco : scope.isCoroutine = false) (hgen : scope.isGenerator = false) (hk : scope.kind = .function)
    (hcell : ∀ x ∈ scope.names, x.2 ≠ .cell) : codeAny (model prog w) A (.call (.ref f) args) R s := by
  have X := X₀.keeps F.keep
  refine codeAny_call_def (fd := fnOf name qual params body scope dV kV doc pm an cdv ct) (body := body) (binds := binds) hroom (X _ _ ho) rfl (T.nolimit.keeps F.keep) (codeRec_of X hcd) rfl hbind hcell hloc (fun h₁ hns hk₁ => ?_) hco hgen hk
  have nm : ∀ b o, h₀.get? b = some o → b ∉ news.map (·.1) := fun b o e q => by
    obtain ⟨p, hp, rfl⟩ := List.mem_map.mp q
    rw [(N p hp).2.2] at e; cases e
  have st : h₀.StaysIn (hideAll s.heap (news.map (·.1))) := fun b o e => hideAll_get _ (F.keep b o e) (nm b o e)
  obtain ⟨oL, es, ep, hL, hLd, hLk, hLf⟩ := F.ns
  have nL : L ∉ news.map (·.1) := fun q => by
    obtain ⟨p, hp, e⟩ := List.mem_map.mp q
    exact (N p hp).2.1 e
  have hLg := hideAll_get (news.map (·.1)) hL nL
  have hNs : ∀ (sl : Array (Option Value)) h', h'.get? L = some { oL with slots := sl } → Heap.Ns h' L m := fun sl h' e => ⟨_, es, ep, e, hLd, hLk, hLf⟩
  have B₁ := pushX (env := envL) B F hf hke
  have B₂ : Below A base [envL] (hideAll s.heap (news.map (·.1))) := ⟨hA, fun b o e => st b o (B.stays b o e), funFrames_hideAll B₁.frames fun env' he b hb hf' => by
    rw [List.mem_singleton.mp he, hf] at hf'
    exact nL ((Option.some.inj hf' : L = b) ▸ hb)⟩
  refine wpAny_mono (h _ s.heap.objs.size h₁ ⟨hns, fun b o e => hk₁ b o (of_hideAll _ e), Nat.le_of_eq (hideAll_size _ _)⟩
    (fun p hp => ⟨hk₁ _ _ (N p hp).1, Nat.ne_of_lt (Heap.lt_size (N p hp).1), hideAll_none _ (List.mem_map_of_mem hp)⟩) B₂ (X₀.keeps st) (T.keeps st) (fun b hb => by
      rw [one_frame hf hb]; exact ⟨oL, es, ep, hLg, hLd⟩)) (fun fl s' hl => ?_) fun _ _ y => y
  obtain ⟨g', L', m', news', T', F', N', k⟩ := hl
  have nL₀ : h₀.get? L = none := kts_self F
  obtain ⟨sl, hs⟩ := T'.up hLg
  refine k ⟨hNs sl _ (F'.keep _ _ hs), fun b o e => F'.keep b o (T'.other b o (st b o e) (fun q => by
    rw [one_frame hf q, nL₀] at e
    cases e)), F.above⟩ fun p hp => ⟨(N' p hp).1, fun q => ?_, ?_⟩
  · have := (N' p hp).2.2; rw [q, hs] at this; cases this
  · cases q : h₀.get? p.1 with
    | none => rfl
    | some o =>
      obtain ⟨sl', hs'⟩ := T'.up (st _ _ q)
      have := (N' p hp).2.2
      rw [hs'] at this
      cases this
end
end Mine
end

section
open PySem PySem.W PyProof.Rows
set_option maxRecDepth 100000
namespace Mine
theorem words_c1 : True := by
  w_top off
  first | walk1 | skip
  k_with_none
  k_with "kmem" => (first | exact List.mem_cons_self | (refine List.mem_cons_of_mem _ ?_; k_mem) | assumption)
  trivial
variable {q9 : Program} {l9 : List Str}
theorem words_c1_a : True := by
  k_with "enterF" => (k_dflt (refine' code_defF ?k2 ?k3 ?k4 ?k5 ?k6 ?k7 ?k8 ?k9 ?w8kB ?_ ?w8c2 ?w8c3 ?w8c4 ?w8c5; (case k2 => k_asm); (case k3 => k_asm); (case k4 => k_asm); (case k5 => k_asm); (case k6 => k_is); (case k7 => k_is); (case k8 => ktr_room); (case k9 => exact BindsTo.of_eq rfl); (case w8c5 => decide); (case w8kB => exact locs rfl); (case w8c2 => exact rfl); (case w8c3 => exact rfl); (case w8c4 => exact rfl); k_whole; intro w8g' w8L' w8h' w8F' w8N' w8X' w8T'; refine hideF ?_; intro w8Q8' w8hq8'; (try dsimp only); (try k_fold)))
  k_with "go" => (repeat' (first | (fail_if_success (first | (with_reducible show wpAny _ _ (exec (Stmt.While _ _ _ _) _) _ _ _) | (with_reducible show wpAny _ _ (exec (Stmt.For _ _ _ _ _) _) _ _ _) | (with_reducible show wpAny _ _ (pyIter _) _ _ _) | (with_reducible show WgPost _ _ _ _ _ _)));  first | ((with_reducible show wpAny _ _ (execs (_ :: _) _) _ _ _); (with_reducible refine execs_hid ?_); intro w8Q9' w8nx9') | ((fail_if_success (with_reducible show wpAny _ _ _ _ _ _)); first | (with_reducible refine Nx.nil (by assumption) ?_) | (with_reducible refine Nx.next (by assumption) ?_) | (with_reducible refine Nx.ret (by assumption) ?_) | (with_reducible refine Nx.brk (by assumption) ?_) | (with_reducible refine Nx.cont (by assumption) ?_) | ((with_reducible refine Hid.use (by assumption) ?_); (try dsimp only))) | (k_unfold; (try dsimp only)) | (k_end; wrow_close) | walk1 | (dsimp only; walk1) | (leave1; walk_say "STEP leave1"; try dsimp only) | fail "no step"))
  k_with "goI" => (repeat' (first | (fail_if_success (first | (with_reducible show wpAny _ _ (exec (Stmt.While _ _ _ _) _) _ _ _) | (with_reducible show wpAny _ _ (exec (Stmt.For _ _ _ _ _) _) _ _ _) | (with_reducible show wpAny _ _ (pyIter _) _ _ _) | (with_reducible show WgPost _ _ _ _ _ _) | (with_reducible show wpAny _ _ (exec (Stmt.If _ _ _ _) _) _ _ _)));  first | ((with_reducible show wpAny _ _ (execs (_ :: _) _) _ _ _); (with_reducible refine execs_hid ?_); intro w8Q9' w8nx9') | ((fail_if_success (with_reducible show wpAny _ _ _ _ _ _)); first | (with_reducible refine Nx.nil (by assumption) ?_) | (with_reducible refine Nx.next (by assumption) ?_) | (with_reducible refine Nx.ret (by assumption) ?_) | (with_reducible refine Nx.brk (by assumption) ?_) | (with_reducible refine Nx.cont (by assumption) ?_) | ((with_reducible refine Hid.use (by assumption) ?_); (try dsimp only))) | (k_unfold; (try dsimp only)) | (k_end; wrow_close) | walk1 | (dsimp only; walk1) | (leave1; walk_say "STEP leave1"; try dsimp only) | fail "no step"))
  k_with "goN" => (repeat' (first | (fail_if_success (first | (with_reducible show wpAny _ _ (exec (Stmt.While _ _ _ _) _) _ _ _) | (with_reducible show wpAny _ _ (exec (Stmt.For _ _ _ _ _) _) _ _ _) | (with_reducible show wpAny _ _ (pyIter _) _ _ _) | (with_reducible show WgPost _ _ _ _ _ _)));  first | ((with_reducible show wpAny _ _ (execs (_ :: _) _) _ _ _); (with_reducible refine execs_hid ?_); intro w8Q9' w8nx9') | ((fail_if_success (with_reducible show wpAny _ _ _ _ _ _)); first | (with_reducible refine Nx.nil (by assumption) ?_) | (with_reducible refine Nx.next (by assumption) ?_) | (with_reducible refine Nx.ret (by assumption) ?_) | (with_reducible refine Nx.brk (by assumption) ?_) | (with_reducible refine Nx.cont (by assumption) ?_) | ((with_reducible refine Hid.use (by assumption) ?_); (try dsimp only))) | (k_unfold; (try dsimp only)) | walk1 | (dsimp only; walk1) | (leave1; walk_say "STEP leave1"; try dsimp only) | fail "no step"))
  k_with "conArgs" => (((case k2 => k_asm); (case k3 => k_asm); (case k4 => k_asm); (case k5 => k_asm); (case k6 => first | trivial | assumption); (case k7 => ktr_room); (case k8 => ktr_units)))
  trivial

set_option maxHeartbeats 4000000
section
variable (h₀ : Heap) (L : Addr) (news : List (Addr × Obj)) (x : Str) (t : Tok)
def pn6 (tn : Tok) (j : Nat) (d : Str) (ti td : Tok) : List (Str × Value) := [(Str.ofString "resp", .str x t), (Str.ofString "n", .int (x.length : Int) tn), (Str.ofString "i", .int (j : Int) ti), (Str.ofString "dirname", .str d td)]
inductive CP (k : Nat) (h : Heap) : Prop
  | mk (j : Nat) (m : Str → Option Value) (d : Str) (tn ti td : Tok) (F : Fr h₀ L h m) (N : News h₀ L h news) (hm : ∀ p ∈ pn6 x t tn j d ti td, m p.1 = some p.2)
    (hj : j ≤ x.length) (hd : d.length ≤ j) (hpq : d.cps.toList ++ pq (x.cps.toList.drop j) = pq (x.cps.toList.drop 5)) (hk : k = x.length - j)
end
theorem fr_names' {g : Heap} {L : Addr} {h : Heap} {m : Str → Option Value} {ps : List (Str × Value)} (hp : ∀ p ∈ ps, m p.1 = some p.2) (F : Fr g L h m) : Fr g L h (kstB m ps) := by
  have : kstB m ps = m := funext fun z => kstB_eq hp fun _ => rfl
  rw [this]; exact F
theorem execs_brk {M : Model} {A : Around} {E : Value → Shared → Prop} {s : Shared} {env : Env} {pos : Pos} {Q : Flow → Shared → Prop} (h : Q .brk s) : wpAny M A (execs [.Break pos] env) Q E s := wpAny_execs_cons (wpAny_Break h)
theorem item_le (x : Str) (j : Nat) (h : j < x.length) : (Txt.item x (j : Int)).length ≤ 1 := by
  obtain ⟨c, hc, _⟩ := at_lt h
  rw [item_nat rfl hc]
  exact Nat.le_refl 1
theorem con_parse (w : World) (x : Str) (t : Tok) (hx : x.length ≤ 4096) (h3 : Txt.slice x none (some 3) = Str.ofString "257") (h5 : Txt.slice x (some 3) (some 5) = Str.ofString " \"") (h5l : 5 ≤ x.length) :
    Con 1 w 46 [.str x t] (fun _ => True) (fun v => ∃ t, v = .str ⟨(pq (x.cps.toList.drop 5)).toArray⟩ t) := by
  unfold Con
  intro q9 l9 mean mg mb dp un gd fr h₀ L m news s Q E F X N T hn hdp hun hret
  refine wpAny_call ?_
  k_dflt (refine' code_defF ?k2 ?k3 ?k4 ?k5 ?k6 ?k7 ?k8 ?k9 ?kB ?_ ?c2 ?c3 ?c4 ?c5)
  case k2 => k_asm
  case k3 => k_asm
  case k4 => k_asm
  case k5 => k_asm
  case k6 => k_is
  case k7 => k_is
  case k8 => ktr_room
  case k9 => exact BindsTo.of_eq rfl
  case c5 => decide
  case kB => exact locs rfl
  case c2 => exact rfl
  case c3 => exact rfl
  case c4 => exact rfl
  intro g' L' h' F' N' X' T'
  refine hideF ?_
  intro Q8 hq8
  (try dsimp only); (try k_fold)
  walk_at "go"
  all_goals first
    | (exfalso; (rename (_ != _) = true => hq); rw [h3] at hq; exact absurd hq (by decide))
    | (exfalso; (rename (_ != _) = true => hq); rw [h5] at hq; exact absurd hq (by decide))
    | skip
  (rename Fr _ _ _ _ => lF'); (rename News _ _ _ _ => lN'); (rename Nx _ _ _ _ _ _ _ => nxW); (rename (Flow → Shared → Prop) => QW)
  have after : ∀ (d : Str) (td : Tok) (m : Str → Option Value) (h : Heap) (tk : Nat), d = tx (pq (x.cps.toList.drop 5)) → m (Str.ofString "dirname") = some (.str d td) → Fr g' L' h m → News g' L' h news → QW .next { s with heap := h, toks := tk } := by
    clear lF' lN'
    intro d td m h tk hd hm F9 N9
    refine Nx.next nxW ?_
    replace F9 := fr_names' (ps := [(Str.ofString "dirname", .str d td)]) (by intro p hp; rw [List.mem_singleton.mp hp]; exact hm) F9
    dsimp only [kstB] at F9
    try k_fold
    walk_at "go"
    exact hret _ _ _ ⟨_, congrArg (fun z => Value.str z _) hd⟩ (by assumption) (by assumption)
  clear nxW
  refine While_I (CP g' L' news x t) (n₀ := x.length - 5) (.mk 5 _ (Str.ofString "") _ _ _ lF' lN' (by unfold pn6; kst_all) h5l (Nat.zero_le _) rfl rfl) ?_
  clear lF' lN'
  intro k h tk Q6 Qb hq6 hT hF J
  obtain ⟨j, m, d, tn, ti, td, F8, N8, hm, hj, hdj, hpq, hk⟩ := J
  replace F8 := fr_names' hm F8
  dsimp only [pn6, kstB] at F8
  clear hm
  try k_fold
  walk_at "go"
  (rename Fr _ _ _ _ => lF'); (rename News _ _ _ _ => lN')
  by_cases hlt : (j : Int) < x.length
  · rw [decide_eq_true hlt]
    refine hT _ ?_
    have hlt' : j < x.length := Int.ofNat_lt.mp hlt
    clear hT hF
    have b1 : (j : Int) < 9223372036854775808 := by omega
    try k_fold
    walk_at "goI"
    (rename Fr _ _ _ _ => lF'); (rename News _ _ _ _ => lN'); (rename Nx _ _ _ _ _ _ _ => nxI); (rename (Flow → Shared → Prop) => QI)
    have hbr : ∀ s', Q6 .brk s' → QI .brk s' := nxI.br
    have tail : ∀ (j2 : Nat) (ti2 tc : Tok) (m' : Str → Option Value) (h : Heap) (tk : Nat), j < j2 → j2 ≤ x.length → (d ++ Txt.item x (j : Int)).cps.toList ++ pq (x.cps.toList.drop j2) = pq (x.cps.toList.drop 5) →
        (∀ p ∈ (Str.ofString "c", Value.str (Txt.item x (j : Int)) tc) :: pn6 x t tn j2 d ti2 td, m' p.1 = some p.2) → Fr g' L' h m' → News g' L' h news → QI .next { s with heap := h, toks := tk } := by
      clear lF' lN' after
      intro j2 ti2 tc m' h tk hj2 hj2x hpq2 hm F9 N9
      replace F9 := fr_names' hm F9
      dsimp only [pn6, kstB] at F9
      have hil : (Txt.item x (j : Int)).length ≤ 1 := item_le x j hlt'
      have hdl : d.length ≤ 4096 := by omega
      refine Nx.next nxI ?_
      try k_fold
      walk_at "go"
      exact wg_end (n' := x.length - j2) (by rw [hk]; omega) (.mk j2 _ (d ++ Txt.item x (j : Int)) _ _ _ (by assumption) (by assumption) (by unfold pn6; kst_all) hj2x (by rw [Str.length_append]; omega) hpq2 rfl)
    clear nxI
    try k_fold
    refine If_hid ?_
    intro Qo hTo hFo
    walk_at "go"
    (rename Fr _ _ _ _ => lF2'); (rename News _ _ _ _ => lN2')
    cases hc : (Txt.item x (j : Int) == Str.ofString "\"")
    · refine hFo _ ?_
      clear hTo hFo
      exact wpAny_execs_nil (tail (j + 1) _ _ _ _ _ (Nat.lt_succ_self _) hlt' (pqD hpq hlt hc) (by unfold pn6; kst_all) lF2' lN2')
    · refine hTo _ ?_
      clear hTo hFo
      try k_fold
      walk_at "goI"
      (rename Nx _ _ _ _ _ _ _ => nx2)
      refine If_hid ?_
      intro Qi hTi hFi
      walk_at "go"
      · exact hTi _ (execs_brk (nx2.br _ (hbr _ (hq6.use' _ _ (after _ _ _ _ _ (pqA hpq hlt hc (by assumption)) rfl lF2' lN2')))))
      · exact hTi _ (execs_brk (nx2.br _ (hbr _ (hq6.use' _ _ (after _ _ _ _ _ (pqB hpq hlt hc (by assumption) (by assumption)) rfl lF2' lN2')))))
      · refine hFi _ (wpAny_execs_nil (Nx.next nx2 ?_))
        (rename ¬ (_ : Int) ≤ _ => hnn)
        have hj2 : j + 2 ≤ x.length := by omega
        have hb2 : (j : Int) + 1 < 9223372036854775808 := by omega
        clear hTi hFi nx2 after
        try k_fold
        walk_at "goN"
        (rename Fr _ _ _ _ => lF3'); (rename News _ _ _ _ => lN3')
        exact tail (j + 2) _ _ _ _ _ (by omega) hj2 (pqC hpq hlt hc hnn (by assumption)) (by unfold pn6; kst_all) lF3' lN3'
  · rw [decide_eq_false hlt]
    exact hF _ (after _ _ _ _ _ (pqE hpq hlt) rfl (by assumption) (by assumption))
theorem con_parse0 (w : World) (x : Str) (t : Tok) (hx : x.length ≤ 4096) (h3 : Txt.slice x none (some 3) = Str.ofString "257") (h5 : Txt.slice x (some 3) (some 5) ≠ Str.ofString " \"") :
    Con 1 w 46 [.str x t] (fun _ => True) (fun v => ∃ t, v = .str (Str.ofString "") t) := by
  unfold Con
  intro q9 l9 mean mg mb dp un gd fr h₀ L m news s Q E F X N T hn hdp hun hret
  refine wpAny_call ?_
  walk_at "enterF"
  walk_at "go"
  all_goals first
    | (exfalso; (rename (_ != _) = true => hq); rw [h3] at hq; exact absurd hq (by decide))
    | (exfalso; (rename (_ != _) = false => hq); exact h5 (by simpa using hq))
    | exact hret _ _ _ ⟨_, rfl⟩ (by assumption) (by assumption)
theorem con_isterminal (w : World) (i : Int) (t : Tok) : Con 1 w 63 [.int i t] (fun _ => True) (fun v => v = .bool (decide (i < 256))) := by
  unfold Con
  intro q9 l9 mean mg mb dp un gd fr h₀ L m news s Q E F X N T hn hdp hun hret
  refine wpAny_call ?_
  walk_at "enterF"
  walk_at "go"
  exact hret _ _ _ rfl (by assumption) (by assumption)
theorem con_isnonterminal (w : World) (i : Int) (t : Tok) : Con 1 w 70 [.int i t] (fun _ => True) (fun v => v = .bool (decide (256 ≤ i))) := by
  unfold Con
  intro q9 l9 mean mg mb dp un gd fr h₀ L m news s Q E F X N T hn hdp hun hret
  refine wpAny_call ?_
  walk_at "enterF"
  walk_at "go"
  exact hret _ _ _ rfl (by assumption) (by assumption)
end Mine
end

section
open PySem PySem.W PyProof.Rows
set_option maxRecDepth 100000
namespace Mine
theorem words_c2 : True := by
  w_top off
  first | walk1 | skip
  k_with_none
  k_with "kmem" => (first | exact List.mem_cons_self | (refine List.mem_cons_of_mem _ ?_; k_mem) | assumption)
  trivial
variable {q9 : Program} {l9 : List Str}
theorem words_c2_a : True := by
  k_with "enterF" => (k_dflt (refine' code_defF ?k2 ?k3 ?k4 ?k5 ?k6 ?k7 ?k8 ?k9 ?w8kB ?_ ?w8c2 ?w8c3 ?w8c4 ?w8c5; (case k2 => k_asm); (case k3 => k_asm); (case k4 => k_asm); (case k5 => k_asm); (case k6 => k_is); (case k7 => k_is); (case k8 => ktr_room); (case k9 => exact BindsTo.of_eq rfl); (case w8c5 => decide); (case w8kB => exact locs rfl); (case w8c2 => exact rfl); (case w8c3 => exact rfl); (case w8c4 => exact rfl); k_whole; intro w8g' w8L' w8h' w8F' w8N' w8X' w8T'; (try dsimp only); (try k_fold)))
  k_with "go" => (repeat' (first | (fail_if_success (first | (with_reducible show wpAny _ _ (exec (Stmt.While _ _ _ _) _) _ _ _) | (with_reducible show wpAny _ _ (exec (Stmt.For _ _ _ _ _) _) _ _ _) | (with_reducible show wpAny _ _ (pyIter _) _ _ _) | (with_reducible show InvEndN _ _ _ _ _ _ _) | (with_reducible show KswEnd _ _ _ _ _ _ _ _ _ _ _ _))); first | (k_unfold; (try dsimp only)) | (k_end; wrow_close) | walk1 | (dsimp only; walk1) | (leave1; walk_say "STEP leave1"; try dsimp only) | fail "no step"))
  k_with "conArgs" => (((case k2 => k_asm); (case k3 => k_asm); (case k4 => k_asm); (case k5 => k_asm); (case k6 => first | trivial | assumption); (case k7 => ktr_room); (case k8 => ktr_units)))
  k_with "forV" => (((rename Fr _ _ _ _ => w8lF'); (with_unfolding_all refine' For_invVF w8lF' ?w8k1 ?k2 ?_; (case w8k1 => exact rfl); (case k2 => exact rfl)); (try k_fold)))
  trivial

set_option maxHeartbeats 4000000

theorem tok_in (P : Params) {d : Nat} (hd' : d ∈ sgn) : ∃ t, nsIn (K9 P) 54 ⟨#[d]⟩ = some (some (.int (tokv d) t)) := by
  simp only [sgn, List.mem_cons, List.not_mem_nil, or_false] at hd'
  rcases hd' with rfl | rfl | rfl | rfl | rfl | rfl | rfl | rfl | rfl | rfl | rfl | rfl | rfl | rfl | rfl | rfl | rfl | rfl | rfl | rfl | rfl | rfl | rfl
  all_goals exact ⟨_, by k_is⟩
theorem words_c2_b : True := by
  k_with "subscriptTail Name Name ref str" => ((k_here; k_dflt (refine' topItem_K ?w8F ?w8X ?w8l ?w8k (Classical.choose_spec (tok_in _ ?w8d)) ?_; (case w8F => k_asm); (case w8X => k_asm); (case w8d => assumption); (case w8l => k_is); (case w8k => k_keys); k_whole)))
  trivial

theorem con_gap (w : World) (c d : Nat) (hc : c ∈ sgn) (hd' : d ∈ sgn) (t u : Tok) : Con 1 w 84 [.str ⟨#[c]⟩ t, .str ⟨#[d]⟩ u] (fun _ => True) (fun v => ∃ t, v = .int (tokv d - tokv c) t) := by
  unfold Con
  intro q9 l9 mean mg mb dp un gd fr h₀ L m news s Q E F X N T hn hdp hun hret
  refine wpAny_call ?_
  walk_at "enterF"
  walk_at "go"
  exact hret _ _ _ ⟨_, rfl⟩ (by assumption) (by assumption)

theorem words_c2_c : True := by
  k_with "call ref" => ((k_here; k_dflt (refine' con_use (con_gap _ _ _ ?w8hc ?w8hd _ _) ?k2 ?k3 ?k4 ?k5 ?k6 ?k7 ?k8 ?_; (case w8hc => assumption); (case w8hd => assumption); walk_at "conArgs"; k_whole; intro w8v' w8h' w8tk' w8hv' w8F' w8N'; (obtain ⟨w8t', w8hv''⟩ := w8hv'); subst w8hv''; (try dsimp only); (try k_fold))))
  k_with "call ref" => ((k_here; k_dflt (refine' con_use (con_isterminal _ _ _) ?k2 ?k3 ?k4 ?k5 ?k6 ?k7 ?k8 ?_; walk_at "conArgs"; k_whole; intro w8v' w8h' w8tk' w8hv' w8F' w8N'; subst w8hv'; (try dsimp only); (try k_fold))))
  trivial

theorem con_lower (w : World) (c d : Nat) (hc : c ∈ sgn) (hd' : d ∈ sgn) (t u : Tok) : Con 2 w 91 [.str ⟨#[c]⟩ t, .str ⟨#[d]⟩ u] (fun _ => True) (fun v => v = .bool (decide (tokv c < tokv d))) := by
  unfold Con
  intro q9 l9 mean mg mb dp un gd fr h₀ L m news s Q E F X N T hn hdp hun hret
  refine wpAny_call ?_
  walk_at "enterF"
  walk_at "go"
  refine hret _ _ _ (congrArg Value.bool ?_) (by assumption) (by assumption)
  rw [decide_eq_decide]; omega
end Mine
end

section
open PySem PySem.W PyProof.Rows
set_option maxRecDepth 100000
namespace Mine
theorem words_c3 : True := by
  w_top off
  first | walk1 | skip
  k_with_none
  k_with "kmem" => (first | exact List.mem_cons_self | (refine List.mem_cons_of_mem _ ?_; k_mem) | assumption)
  trivial
variable {q9 : Program} {l9 : List Str}
theorem words_c3_a : True := by
  k_with "enterF" => (k_dflt (refine' code_defF ?k2 ?k3 ?k4 ?k5 ?k6 ?k7 ?k8 ?k9 ?w8kB ?_ ?w8c2 ?w8c3 ?w8c4 ?w8c5; (case k2 => k_asm); (case k3 => k_asm); (case k4 => k_asm); (case k5 => k_asm); (case k6 => k_is); (case k7 => k_is); (case k8 => ktr_room); (case k9 => exact BindsTo.of_eq rfl); (case w8c5 => decide); (case w8kB => exact locs rfl); (case w8c2 => exact rfl); (case w8c3 => exact rfl); (case w8c4 => exact rfl); k_whole; intro w8g' w8L' w8h' w8F' w8N' w8X' w8T'; (try dsimp only); (try k_fold)))
  k_with "go" => (repeat' (first | (fail_if_success (first | (with_reducible show wpAny _ _ (exec (Stmt.While _ _ _ _) _) _ _ _) | (with_reducible show wpAny _ _ (exec (Stmt.For _ _ _ _ _) _) _ _ _) | (with_reducible show wpAny _ _ (pyIter _) _ _ _) | (with_reducible show InvEndN _ _ _ _ _ _ _) | (with_reducible show KswEnd _ _ _ _ _ _ _ _ _ _ _ _))); first | (k_unfold; (try dsimp only)) | (k_end; wrow_close) | walk1 | (dsimp only; walk1) | (leave1; walk_say "STEP leave1"; try dsimp only) | fail "no step"))
  k_with "conArgs" => (((case k2 => k_asm); (case k3 => k_asm); (case k4 => k_asm); (case k5 => k_asm); (case k6 => first | trivial | assumption); (case k7 => ktr_room); (case k8 => ktr_units)))
  k_with "forV" => (((rename Fr _ _ _ _ => w8lF'); (with_unfolding_all refine' For_invVF w8lF' ?w8k1 ?k2 ?_; (case w8k1 => exact rfl); (case k2 => exact rfl)); (try k_fold)))
  trivial

set_option maxHeartbeats 4000000

theorem words_c3_b : True := by
  k_with "call ref" => ((k_here; k_dflt (refine' con_use (by with_reducible assumption) ?k2 ?k3 ?k4 ?k5 ?k6 ?k7 ?k8 ?_; walk_at "conArgs"; k_whole; intro w8v' w8h' w8tk' w8hv' w8F' w8N'; (obtain ⟨w8t', w8hv''⟩ := w8hv'); subst w8hv''; (try dsimp only); (try k_fold))))
  trivial

theorem con_told {w : World} {x y : Str} {t : Tok} (hC : Con 1 w 46 [.str x t] (fun _ => True) (fun v => ∃ t, v = .str y t)) : Con 2 w 77 [.str x t] (fun _ => True) (fun v => ∃ t, v = .str y t) := by
  unfold Con
  intro q9 l9 mean mg mb dp un gd fr h₀ L m news s Q E F X N T hn hdp hun hret
  refine wpAny_call ?_
  walk_at "enterF"
  walk_at "go"
  exact hret _ _ _ ⟨_, rfl⟩ (by assumption) (by assumption)
end Mine
end

section
open PySem PySem.W PyProof.Rows
set_option maxRecDepth 100000
namespace Mine
theorem words_c4 : True := by
  w_top off
  first | walk1 | skip
  k_with_none
  k_with "kmem" => (first | exact List.mem_cons_self | (refine List.mem_cons_of_mem _ ?_; k_mem) | assumption)
  trivial
variable {q9 : Program} {l9 : List Str}
theorem words_c4_a : True := by
  k_with "go" => (repeat' (first | (fail_if_success (first | (with_reducible show wpAny _ _ (exec (Stmt.While _ _ _ _) _) _ _ _) | (with_reducible show wpAny _ _ (exec (Stmt.For _ _ _ _ _) _) _ _ _) | (with_reducible show wpAny _ _ (pyIter _) _ _ _) | (with_reducible show ForTAt _ _ _ _ _ _ _ _ _ _ _ _) | (with_reducible show TPostF _ _ _ _ _ _ _ _ _ _) | (with_reducible show WgPost _ _ _ _ _ _)));  first | ((with_reducible show wpAny _ _ (execs (_ :: _) _) _ _ _); (with_reducible refine execs_hid ?_); intro w8Q9' w8nx9') | ((fail_if_success (with_reducible show wpAny _ _ _ _ _ _)); first | (with_reducible refine Nx.nil (by assumption) ?_) | (with_reducible refine Nx.next (by assumption) ?_) | (with_reducible refine Nx.ret (by assumption) ?_) | (with_reducible refine Nx.brk (by assumption) ?_) | (with_reducible refine Nx.cont (by assumption) ?_) | ((with_reducible refine Hid.use (by assumption) ?_); (try dsimp only))) | (k_unfold; (try dsimp only)) | (k_end; wrow_close) | walk1 | (dsimp only; walk1) | (leave1; walk_say "STEP leave1"; try dsimp only) | fail "no step"))
  k_with "goI" => (repeat' (first | (fail_if_success (first | (with_reducible show wpAny _ _ (exec (Stmt.While _ _ _ _) _) _ _ _) | (with_reducible show wpAny _ _ (exec (Stmt.For _ _ _ _ _) _) _ _ _) | (with_reducible show wpAny _ _ (pyIter _) _ _ _) | (with_reducible show ForTAt _ _ _ _ _ _ _ _ _ _ _ _) | (with_reducible show TPostF _ _ _ _ _ _ _ _ _ _) | (with_reducible show WgPost _ _ _ _ _ _) | (with_reducible show wpAny _ _ (exec (Stmt.If _ _ _ _) _) _ _ _)));  first | ((with_reducible show wpAny _ _ (execs (_ :: _) _) _ _ _); (with_reducible refine execs_hid ?_); intro w8Q9' w8nx9') | ((fail_if_success (with_reducible show wpAny _ _ _ _ _ _)); first | (with_reducible refine Nx.nil (by assumption) ?_) | (with_reducible refine Nx.next (by assumption) ?_) | (with_reducible refine Nx.ret (by assumption) ?_) | (with_reducible refine Nx.brk (by assumption) ?_) | (with_reducible refine Nx.cont (by assumption) ?_) | ((with_reducible refine Hid.use (by assumption) ?_); (try dsimp only))) | (k_unfold; (try dsimp only)) | (k_end; wrow_close) | walk1 | (dsimp only; walk1) | (leave1; walk_say "STEP leave1"; try dsimp only) | fail "no step"))
  k_with "conArgs" => (((case k2 => k_asm); (case k3 => k_asm); (case k4 => k_asm); (case k5 => k_asm); (case k6 => first | trivial | assumption); (case k7 => first | assumption | ktr_room); (case k8 => first | assumption | ktr_units)))
  trivial

set_option maxHeartbeats 4000000
theorem words_c4_b : True := by
  k_with "call ref" => ((k_here; k_dflt (refine' con_useE (con_lower _ _ _ ?w8hc ?w8hd _ _) ?k2 ?k3 ?k4 ?k5 ?k6 ?k7 ?k8 ?_; (case w8hc => assumption); (case w8hd => assumption); walk_at "conArgs"; k_whole; intro w8h' w8tk' w8F' w8N'; (try dsimp only); (try k_fold))))
  trivial

section
variable {out : Str} {n h : Nat} {l T : List Nat}
theorem handA (hp : out.cps.toList ++ handG h (n :: l) = T) (h1 : tokv n < tokv h) : (out ++ (⟨#[n]⟩ : Str)).cps.toList ++ handG h l = T := by
  rw [← hp, app_cps]
  simp [handG, h1]
theorem handB (hp : out.cps.toList ++ handG h (n :: l) = T) (h1 : ¬ tokv n < tokv h) : (out ++ (⟨#[h]⟩ : Str)).cps.toList ++ handG n l = T := by
  rw [← hp, app_cps]
  simp [handG, h1]
end
inductive HJ (c : Nat) (r : List Nat) (i : Nat) (m : Str → Option Value) : Prop
  | mk (h : Nat) (out : Str) (t1 t2 : Tok) (hm : ∀ p ∈ [(Str.ofString "held", Value.str ⟨#[h]⟩ t1), (Str.ofString "out", .str out t2)], m p.1 = some p.2) (hh : h ∈ sgn) (hol : out.length ≤ i) (row : out.cps.toList ++ handG h (r.drop i) = handG c r)
theorem con_hand {w : World} {c : Nat} {r : List Nat} {t : Tok} (hs : ∀ d ∈ c :: r, d ∈ sgn) (hl : r.length ≤ 4) : Con 3 w 112 [.str (tx (c :: r)) t] (fun _ => True) (fun v => ∃ t, v = .str (tx (handG c r)) t) := by
  unfold Con
  intro q9 l9 mean mg mb dp un gd fr h₀ L m news s Q E F X N T hn hdp hun hret
  have hd3 : dp + 1 + 2 < recursionLimit := by omega
  have hu3 : un + 3 + 12 * 2 < cLine := by omega
  have hxl : (tx (c :: r)).length = r.length + 1 := rfl
  refine wpAny_call ?_
  k_dflt (refine' code_defF ?k2 ?k3 ?k4 ?k5 ?k6 ?k7 ?k8 ?k9 ?kB ?_ ?c2 ?c3 ?c4 ?c5)
  case k2 => k_asm
  case k3 => k_asm
  case k4 => k_asm
  case k5 => k_asm
  case k6 => k_is
  case k7 => k_is
  case k8 => ktr_room
  case k9 => exact BindsTo.of_eq rfl
  case c5 => decide
  case kB => exact locs rfl
  case c2 => exact rfl
  case c3 => exact rfl
  case c4 => exact rfl
  intro g' L' h' F' N' X' T'
  refine hideF ?_
  intro Q8 hq8
  (try dsimp only); (try k_fold)
  walk_at "go"
  (rename Nx _ _ _ _ _ _ _ => nxF)
  refine For_T (h₀ := g') (L := L') ?_
  walk_at "go"
  have e0 : Txt.item (tx (c :: r)) 0 = ⟨#[c]⟩ := item_nat (k := 0) rfl rfl
  have e1 : Txt.slice (tx (c :: r)) (some 1) none = tx r := sl_from (k := 1) rfl (by omega)
  (rename Fr _ _ _ _ => lF'); (rename News _ _ _ _ => lN')
  rw [e1]
  rw [e0] at lF'
  refine ForTAt.mk (xt := tx r) (HJ c r) rfl rfl lF' lN' (.mk c (Str.ofString "") _ _ (by kst_all) (hs c (.head _)) (Nat.zero_le _) rfl) ?turn ?done
  case turn =>
    clear lF' lN' e0 e1 hxl
    intro i v m₁ I oI h tk Q7 hq7 hi hv hJ F9 N9 hoff
    obtain ⟨n, u, hnn, rfl⟩ := hv
    have hin : r[i]? = some n := by simpa [tx] using hnn
    have hns : n ∈ sgn := hs n (.tail _ (List.mem_of_getElem? hin))
    have hil : i < r.length := hi
    have hrd : r.drop i = n :: r.drop (i + 1) := by
      obtain ⟨hlt, e⟩ := List.getElem?_eq_some_iff.mp hin
      rw [← e]; exact List.drop_eq_getElem_cons hlt
    clear hnn hi hoff
    obtain ⟨hd', out, t1, t2, hm, hh, hol, hp⟩ := hJ
    rw [hrd] at hp
    replace F9 := fr_names' hm F9
    dsimp only [kstB] at F9
    have hol4 : out.length ≤ 4 := Nat.le_trans hol (Nat.le_trans (Nat.le_of_lt hil) hl)
    clear hm hrd hin hil
    try k_fold
    walk_at "goI"
    refine If_hid ?_
    intro Qb hT hF
    walk_at "go"
    (rename Fr _ _ _ _ => lF'); (rename News _ _ _ _ => lN')
    by_cases hc : tokv n < tokv hd'
    · rw [decide_eq_true hc]
      refine hT _ ?_
      clear hT hF
      walk_at "go"
      exact tp_end (by assumption) (by assumption) (.head _) (fun _ h => .tail _ h) (.mk hd' _ _ _ (by kst_all) hh (by rw [Str.length_append]; exact Nat.succ_le_succ hol) (handA hp hc))
    · rw [decide_eq_false hc]
      refine hF _ ?_
      clear hT hF
      walk_at "go"
      exact tp_end (by assumption) (by assumption) (.head _) (fun _ h => .tail _ h) (.mk n _ _ _ (by kst_all) hns (by rw [Str.length_append]; exact Nat.succ_le_succ hol) (handB hp hc))
  case done =>
    clear lF' lN' e0 e1 hxl
    intro m₁ h tk hJ F9 N9
    obtain ⟨hd', out, t1, t2, hm, hh, hol, hp⟩ := hJ
    replace F9 := fr_names' hm F9
    dsimp only [kstB] at F9
    rw [show (tx r).cps.size = r.length from rfl, List.drop_eq_nil_of_le (Nat.le_refl _)] at hp
    have hol4 : out.length ≤ 4 := Nat.le_trans hol hl
    clear hm
    refine Nx.next nxF ?_
    try k_fold
    walk_at "go"
    all_goals exact hret _ _ _ ⟨_, congrArg (fun z => Value.str z _) (str_ext (by rw [app_cps]; exact hp))⟩ (by assumption) (by assumption)
end Mine
end

section
open PySem PySem.W PyProof.Rows
set_option maxRecDepth 100000
namespace Mine
theorem words_c5 : True := by
  w_top off
  first | walk1 | skip
  k_with_none
  k_with "kmem" => (first | exact List.mem_cons_self | (refine List.mem_cons_of_mem _ ?_; k_mem) | assumption)
  trivial
variable {q9 : Program} {l9 : List Str}
theorem words_c5_a : True := by
  k_with "enterF" => (k_dflt (refine' code_defF ?k2 ?k3 ?k4 ?k5 ?k6 ?k7 ?k8 ?k9 ?w8kB ?_ ?w8c2 ?w8c3 ?w8c4 ?w8c5; (case k2 => k_asm); (case k3 => k_asm); (case k4 => k_asm); (case k5 => k_asm); (case k6 => k_is); (case k7 => k_is); (case k8 => ktr_room); (case k9 => exact BindsTo.of_eq rfl); (case w8c5 => decide); (case w8kB => exact locs rfl); (case w8c2 => exact rfl); (case w8c3 => exact rfl); (case w8c4 => exact rfl); k_whole; intro w8g' w8L' w8h' w8F' w8N' w8X' w8T'; refine hideF ?_; intro w8Q8' w8hq8'; (try dsimp only); (try k_fold)))
  k_with "go" => (repeat' (first | (fail_if_success (first | (with_reducible show wpAny _ _ (exec (Stmt.While _ _ _ _) _) _ _ _) | (with_reducible show wpAny _ _ (exec (Stmt.For _ _ _ _ _) _) _ _ _) | (with_reducible show wpAny _ _ (pyIter _) _ _ _) | (with_reducible show ForTAt _ _ _ _ _ _ _ _ _ _ _ _) | (with_reducible show TPostF _ _ _ _ _ _ _ _ _ _) | (with_reducible show WgPost _ _ _ _ _ _)));  first | ((with_reducible show wpAny _ _ (execs (_ :: _) _) _ _ _); (with_reducible refine execs_hid ?_); intro w8Q9' w8nx9') | ((fail_if_success (with_reducible show wpAny _ _ _ _ _ _)); first | (with_reducible refine Nx.nil (by assumption) ?_) | (with_reducible refine Nx.next (by assumption) ?_) | (with_reducible refine Nx.ret (by assumption) ?_) | (with_reducible refine Nx.brk (by assumption) ?_) | (with_reducible refine Nx.cont (by assumption) ?_) | ((with_reducible refine Hid.use (by assumption) ?_); (try dsimp only))) | (k_unfold; (try dsimp only)) | (k_end; wrow_close) | walk1 | (dsimp only; walk1) | (leave1; walk_say "STEP leave1"; try dsimp only) | fail "no step"))
  k_with "goI" => (repeat' (first | (fail_if_success (first | (with_reducible show wpAny _ _ (exec (Stmt.While _ _ _ _) _) _ _ _) | (with_reducible show wpAny _ _ (exec (Stmt.For _ _ _ _ _) _) _ _ _) | (with_reducible show wpAny _ _ (pyIter _) _ _ _) | (with_reducible show ForTAt _ _ _ _ _ _ _ _ _ _ _ _) | (with_reducible show TPostF _ _ _ _ _ _ _ _ _ _) | (with_reducible show WgPost _ _ _ _ _ _) | (with_reducible show wpAny _ _ (exec (Stmt.If _ _ _ _) _) _ _ _)));  first | ((with_reducible show wpAny _ _ (execs (_ :: _) _) _ _ _); (with_reducible refine execs_hid ?_); intro w8Q9' w8nx9') | ((fail_if_success (with_reducible show wpAny _ _ _ _ _ _)); first | (with_reducible refine Nx.nil (by assumption) ?_) | (with_reducible refine Nx.next (by assumption) ?_) | (with_reducible refine Nx.ret (by assumption) ?_) | (with_reducible refine Nx.brk (by assumption) ?_) | (with_reducible refine Nx.cont (by assumption) ?_) | ((with_reducible refine Hid.use (by assumption) ?_); (try dsimp only))) | (k_unfold; (try dsimp only)) | (k_end; wrow_close) | walk1 | (dsimp only; walk1) | (leave1; walk_say "STEP leave1"; try dsimp only) | fail "no step"))
  k_with "conArgs" => (((case k2 => k_asm); (case k3 => k_asm); (case k4 => k_asm); (case k5 => k_asm); (case k6 => first | trivial | assumption); (case k7 => first | assumption | ktr_room); (case k8 => first | assumption | ktr_units)))
  k_with "lowerCall" => ((k_here; k_dflt (refine' con_useE (con_lower _ _ _ ?w8hc ?w8hd _ _) ?k2 ?k3 ?k4 ?k5 ?k6 ?k7 ?k8 ?_; (case w8hc => assumption); (case w8hd => assumption); walk_at "conArgs"; k_whole; intro w8h' w8tk' w8F' w8N'; (try dsimp only); (try k_fold))))
  trivial

set_option maxHeartbeats 4000000
theorem con_toldq {w : World} {q : List Nat} (hq : ∀ d ∈ q, d ∈ sgn) (hl : q.length ≤ 5) {y : Str} (e : y = Str.ofString "257 " ++ tx (encq q)) (t : Tok) :
    Con 2 w 77 [.str y t] (fun _ => True) (fun v => ∃ t, v = .str (tx (q.take 1)) t) := by
  subst e
  refine con_told ?_
  cases q with
  | nil => exact con_parse0 w _ t (by rw [reply_len, encq_len]; omega) (reply_257 _) reply_nil
  | cons c q =>
    have := con_parse w (Str.ofString "257 " ++ tx (encq (c :: q))) t (by rw [reply_len, encq_len]; omega) (reply_257 _) (reply_sq _ _) (by rw [reply_len, encq_len]; simp only [List.length_cons]; omega)
    rw [reply_pq (hq c (.head _))] at this
    exact this
theorem words_c5_b : True := by
  k_with "call ref" => ((k_here; k_dflt (refine' con_useE (con_lower _ _ _ ?w8hc ?w8hd _ _) ?k2 ?k3 ?k4 ?k5 ?k6 ?k7 ?k8 ?_; (case w8hc => assumption); (case w8hd => assumption); walk_at "conArgs"; k_whole; intro w8h' w8tk' w8F' w8N'; (try dsimp only); (try k_fold))))
  k_with "call ref" => ((k_here; k_dflt (refine' con_useT (con_toldq ?w8hq ?w8hl ?w8he _) ?k2 ?k3 ?k4 ?k5 ?k6 ?k7 ?k8 ?_; (case w8he => first | (with_reducible rfl) | exact congrArg (fun z => Str.ofString "257 " ++ z) (sl_enc _ _)); (case w8hq => assumption); (case w8hl => assumption); walk_at "conArgs"; k_whole; intro w8t' w8h' w8tk' w8F' w8N'; (try dsimp only); (try k_fold))))
  trivial

section
variable (h₀ : Heap) (L I : Addr) (oI : Obj) (news : List (Addr × Obj)) (rs : List Nat)
def ln (q o : List Nat) (t1 : Tok) (lv : Value) (t3 : Tok) : List (Str × Value) := [(Str.ofString "line", .str (tx (encq q)) t1), (Str.ofString "last", lv), (Str.ofString "out", .str (tx o) t3)]
inductive LJ (i : Nat) (m : Str → Option Value) : Prop
  | mk (q o : List Nat) (t1 t2 t3 : Tok) (hm : ∀ p ∈ ln q o t1 (.str (tx (lastOf q)) t2) t3, m p.1 = some p.2) (hq : ∀ d ∈ q, d ∈ sgn) (hl : q.length + o.length = i) (row : lineG q o (rs.drop i) = lineG [] [] rs)
inductive LW (q o : List Nat) (n l : Nat) (tn tl : Tok) (k : Nat) (h : Heap) : Prop
  | mk (c : Nat) (q3 q1 : List Nat) (m : Str → Option Value) (t4 t5 t6 : Tok) (F : Fr h₀ L h m) (N : News h₀ L h ((I, oI) :: news))
    (hm : ∀ p ∈ [(Str.ofString "out", Value.str (tx (o ++ q1)) t4), (Str.ofString "line", .str (tx (encq (c :: q3))) t5), (Str.ofString "name", .str ⟨#[c]⟩ t6), (Str.ofString "sign", .str ⟨#[n]⟩ tn), (Str.ofString "last", .str ⟨#[l]⟩ tl)], m p.1 = some p.2)
    (hq : q = q1 ++ c :: q3) (hlt : ∀ d ∈ q1, tokv d < tokv n) (hk : k = q3.length)
inductive LE (q o : List Nat) (k : Nat) (h : Heap) : Prop
  | mk (q2 q1 : List Nat) (m : Str → Option Value) (t4 t5 t6 : Tok) (F : Fr h₀ L h m) (N : News h₀ L h news)
    (hm : ∀ p ∈ [(Str.ofString "out", Value.str (tx (o ++ q1)) t4), (Str.ofString "line", .str (tx (encq q2)) t5), (Str.ofString "name", .str (tx (q2.take 1)) t6)], m p.1 = some p.2) (hq : q = q1 ++ q2) (hk : k = q2.length)
end
theorem last_case (q : List Nat) : (lastOf q = [] ∧ q = []) ∨ ∃ q' l, q = q' ++ [l] ∧ lastOf q = [l] := by
  rcases List.eq_nil_or_concat q with rfl | ⟨q', l, rfl⟩
  · exact .inl ⟨rfl, rfl⟩
  · exact .inr ⟨q', l, List.concat_eq_append .., by rw [List.concat_eq_append]; exact lastOf_app _ _⟩
theorem line_more {q q1 q3 q' : List Nat} {l c n : Nat} (hqq : q = q1 ++ c :: q3) (hql : q = q' ++ [l]) (h1 : tokv c < tokv n) (h2 : tokv n < tokv l) : ∃ d q4, q3 = d :: q4 := by
  cases q3 with
  | nil =>
    have := last_eq (hql.symm.trans hqq)
    subst this
    omega
  | cons d q4 => exact ⟨d, q4, rfl⟩
theorem con_line {w : World} {rs : List Nat} {t : Tok} (hs : ∀ d ∈ rs, d ∈ sgn) (hl : rs.length ≤ 5) : Con 4 w 105 [.str (tx rs) t] (fun _ => True) (fun v => ∃ t, v = .str (tx (lineG [] [] rs)) t) := by
  unfold Con
  intro q9 l9 mean mg mb dp un gd fr h₀ L m news s Q E F X N T hn hdp hun hret
  have hd3 : dp + 1 + 2 < recursionLimit := by omega
  have hu3 : un + 3 + 12 * 2 < cLine := by omega
  refine wpAny_call ?_
  k_dflt (refine' code_defF ?k2 ?k3 ?k4 ?k5 ?k6 ?k7 ?k8 ?k9 ?kB ?_ ?c2 ?c3 ?c4 ?c5)
  case k2 => k_asm
  case k3 => k_asm
  case k4 => k_asm
  case k5 => k_asm
  case k6 => k_is
  case k7 => k_is
  case k8 => ktr_room
  case k9 => exact BindsTo.of_eq rfl
  case c5 => decide
  case kB => exact locs rfl
  case c2 => exact rfl
  case c3 => exact rfl
  case c4 => exact rfl
  intro g' L' h' F' N' X' T'
  refine hideF ?_
  intro Q8 hq8
  (try dsimp only); (try k_fold)
  walk_at "go"
  (rename Nx _ _ _ _ _ _ _ => nxF); (rename (Flow → Shared → Prop) => QF)
  refine For_T (h₀ := g') (L := L') ?_
  walk_at "go"
  (rename Fr _ _ _ _ => lF'); (rename News _ _ _ _ => lN'); rename Frag.In _ _ => lX'; rename Top _ _ _ _ _ _ => lT'
  refine ForTAt.mk (LJ rs) rfl rfl lF' lN' (.mk [] [] _ _ _ (by unfold ln; rw [show encq [] = [] from rfl, show lastOf [] = [] from rfl, ← lit_nil]; kst_all) (by simp) rfl rfl) ?turn ?done
  case turn =>
    clear lF' lN'
    intro i v m₁ I oI h tk Q7 hq7 hi hv hJ F9 N9 hoff
    obtain ⟨n, u, hnn, rfl⟩ := hv
    have hin : rs[i]? = some n := by simpa [tx] using hnn
    have hns : n ∈ sgn := hs n (List.mem_of_getElem? hin)
    have hrd : rs.drop i = n :: rs.drop (i + 1) := by
      obtain ⟨hlt, e⟩ := List.getElem?_eq_some_iff.mp hin
      rw [← e]; exact List.drop_eq_getElem_cons hlt
    have hi5 : i < 5 := Nat.lt_of_lt_of_le (by have := (List.getElem?_eq_some_iff.mp hin).1; exact this) hl
    clear hnn hi hoff
    obtain ⟨q, o, t1, t2, t3, hm, hq, hlen, hp⟩ := hJ
    rw [hrd] at hp
    replace F9 := fr_names' hm F9
    dsimp only [ln, kstB] at F9
    have hq5 : q.length ≤ 5 := Nat.le_trans (Nat.le_add_right _ _) (hlen ▸ Nat.le_of_lt hi5)
    have ho5 : o.length ≤ 5 := Nat.le_trans (Nat.le_add_left _ _) (hlen ▸ Nat.le_of_lt hi5)
    have hlo : (tx o).length ≤ 5 := by rw [tx_len]; exact ho5
    have hlq : (tx (encq q)).length ≤ 20 := by rw [tx_len, encq_len]; exact Nat.mul_le_mul_left 4 hq5
    try k_fold
    walk_at "goI"
    (rename Fr _ _ _ _ => lF'); (rename News _ _ _ _ => lN'); (rename Nx _ _ _ _ _ _ _ => nxI); (rename (Flow → Shared → Prop) => QI)
    refine If_hid ?_
    intro Qb hT hF
    have thenB : ∀ h tk lv, lineG (q ++ [n]) o (rs.drop (i + 1)) = lineG [] [] rs → Fr g' L' h (fun y => if y = Str.ofString "sign" then some (.str ⟨#[n]⟩ u) else kstB m₁ (ln q o t1 lv t3) y) → News g' L' h ((I, oI) :: news) → Qb true { s with heap := h, toks := tk } := by
      clear lF' lN'
      intro h tk lv hrow F9 N9
      dsimp only [ln, kstB] at F9
      refine hT _ ?_
      have hfin : (q ++ [n]).length + o.length = i + 1 := by rw [List.length_append, List.length_singleton, Nat.add_right_comm, hlen]
      clear hlen hi5 ho5 hin hrd hp
      try k_fold
      walk_at "go"
      exact tp_end (by assumption) (by assumption) (.head _) (fun _ h => .tail _ h) (.mk (q ++ [n]) o _ _ _ (by unfold ln; rw [← push_enc, show tx (lastOf (q ++ [n])) = ⟨#[n]⟩ from congrArg tx (lastOf_app _ _)]; kst_all) (fun d h => (List.mem_append.mp h).elim (hq d) (fun h => List.mem_singleton.mp h ▸ hns)) hfin hrow)
    rcases last_case q with hla | ⟨q', l, hql, hla⟩
    · rw [hla.1] at lF'
      try k_fold
      walk_at "go"
      exact thenB _ _ _ (by rw [← hp, hla.2, lineA0]; rfl) (by assumption) (by assumption)
    · rw [hla] at lF'
      have hlm : l ∈ sgn := hq l (by rw [hql]; simp)
      have elseB : ∀ h tk, tokv n < tokv l → Fr g' L' h (fun y => if y = Str.ofString "sign" then some (.str ⟨#[n]⟩ u) else kstB m₁ (ln q o t1 (.str (tx [l]) t2) t3) y) → News g' L' h ((I, oI) :: news) → Qb false { s with heap := h, toks := tk } := by
        clear lF' lN' thenB
        intro h tk hnl F9 N9
        obtain ⟨c, q3, hcq⟩ := head_of q' l
        rw [← hql] at hcq
        dsimp only [ln, kstB] at F9
        refine hF _ ?_
        try k_fold
        walk_at "go"
        (rename Fr _ _ _ _ => lF'); (rename News _ _ _ _ => lN'); (rename Nx _ _ _ _ _ _ _ => nxW); (rename (Flow → Shared → Prop) => QW)
        refine While_I (LW g' L' I oI news q o n l u t2) (n₀ := q3.length) (.mk c q3 [] _ _ _ _ lF' lN' (by rw [← hcq, List.append_nil, show (⟨#[c]⟩ : Str) = tx (List.take 1 q) from by rw [hcq]; rfl]; kst_all) hcq (by simp) rfl) ?_
        clear lF' lN' hcq c q3
        intro k h tk Q6 Qb2 hq6 hT2 hF2 J
        obtain ⟨c, q3, q1, m, t4, t5, t6, F8, N8, hm8, hqq, hlt, hk⟩ := J
        replace F8 := fr_names' hm8 F8
        dsimp only [kstB] at F8
        have hmem : ∀ d ∈ q1 ++ c :: q3, d ∈ sgn := hqq ▸ hq
        have hcs' : c ∈ sgn := hmem c (by simp)
        have hq3 : ∀ d ∈ q3, d ∈ sgn := fun d h => hmem d (by simp [h])
        have hlen2 : q.length = q1.length + (q3.length + 1) := by rw [hqq, List.length_append]; rfl
        have hfin : (c :: q3).length + (o ++ q1 ++ [n]).length = i + 1 := by
          rw [List.length_append, List.length_append, ← hlen, hlen2]; simp only [List.length_cons, List.length_nil]; omega
        have hl4 : q3.length + 1 ≤ 5 := Nat.le_trans (Nat.le_add_left _ _) (hlen2 ▸ hq5)
        have hl3 : q3.length ≤ 5 := Nat.le_of_succ_le hl4
        have hob : (tx (o ++ q1)).length ≤ 5 := by
          rw [tx_len, List.length_append]
          exact Nat.le_trans (Nat.le_trans (Nat.add_le_add_left (Nat.le_trans (Nat.le_add_right _ _) (Nat.le_of_eq hlen2.symm)) _) (Nat.le_of_eq (Nat.add_comm _ _))) (hlen ▸ Nat.le_of_lt hi5)
        have hlq2 : (tx (encq (c :: q3))).length ≤ 20 := by rw [tx_len, encq_len]; exact Nat.mul_le_mul_left 4 hl4
        clear hlo hlq hq5 ho5 hm8 hlen2 hlen hi5 hl4 hin hrd
        try k_fold
        walk_at "go"
        (rename Fr _ _ _ _ => lF'); (rename News _ _ _ _ => lN')
        by_cases hcn : tokv c < tokv n
        · obtain ⟨d, q4, hd⟩ := line_more hqq hql hcn hnl
          rw [decide_eq_true hcn]
          refine hT2 _ ?_
          clear hF2 hT2
          try k_fold
          walk_at "go"
          exact wg_end (n' := q4.length) (by rw [hk, hd]; exact Nat.lt_succ_self _) (.mk d q4 (q1 ++ [c]) _ _ _ _ (by assumption) (by assumption) (by rw [← hd, ← List.append_assoc, ← tx_app (o ++ q1) [c], ← sl_enc c q3, show (⟨#[d]⟩ : Str) = tx (List.take 1 q3) from by rw [hd]; rfl]; kst_all) (by rw [hqq, hd]; simp) (fun e h => (List.mem_append.mp h).elim (hlt e) (fun h => List.mem_singleton.mp h ▸ hcn)) rfl)
        · rw [decide_eq_false hcn]
          refine hF2 _ ?_
          clear hF2 hT2
          refine Nx.next nxW ?_
          try k_fold
          walk_at "go"
          exact tp_end (by assumption) (by assumption) (.head _) (fun _ h => .tail _ h) (.mk (c :: q3) (o ++ q1 ++ [n]) _ t2 _ (by unfold ln; rw [show tx (lastOf (c :: q3)) = ⟨#[l]⟩ from congrArg tx (last_of (hql.symm.trans hqq)), ← tx_app (o ++ q1) [n]]; kst_all) (fun d h => hmem d (List.mem_append_right _ h)) hfin (by rw [← hp, hql]; exact (lineB (hql.symm.trans hqq) hlt hcn hnl).symm))
      try k_fold
      walk_at "go"
      · exfalso
        (rename (_ == _) = true => hx); rw [not_empty_one] at hx; cases hx
      · exact elseB _ _ (by assumption) (by assumption) (by assumption)
      · exact thenB _ _ _ (by rw [← hp, hql]; exact (lineA _ _ _ _ _ (by assumption)).symm) (by assumption) (by assumption)
  case done =>
    clear lF' lN'
    intro m₁ h tk J F9 N9
    obtain ⟨q, o, t1, t2, t3, hm, hq, hlen, hp⟩ := J
    replace F9 := fr_names' hm F9
    dsimp only [ln, kstB] at F9
    replace hlen : q.length + o.length = rs.length := hlen
    have hp2 : o ++ q = lineG [] [] rs := by
      rw [show (tx rs).cps.size = rs.length from rfl, List.drop_eq_nil_of_le (Nat.le_refl _)] at hp; exact hp
    have hll : q.length ≤ 5 := Nat.le_trans (Nat.le_add_right _ _) (hlen ▸ hl)
    have hlo : (tx o).length ≤ 5 := by rw [tx_len]; exact Nat.le_trans (Nat.le_add_left _ _) (hlen ▸ hl)
    have hlq : (tx (encq q)).length ≤ 20 := by rw [tx_len, encq_len]; exact Nat.mul_le_mul_left 4 hll
    clear hm hp
    refine Nx.next nxF ?_
    try k_fold
    walk_at "go"
    (rename Fr _ _ _ _ => lF'); (rename News _ _ _ _ => lN'); (rename Nx _ _ _ _ _ _ _ => nxW); (rename (Flow → Shared → Prop) => QW)
    refine While_I (LE g' L' news q o) (n₀ := q.length) (.mk q [] _ _ _ _ lF' lN' (by rw [List.append_nil]; kst_all) rfl rfl) ?_
    clear lF' lN' hlo hlq
    intro k h tk Q6 Qb2 hq6 hT2 hF2 J
    obtain ⟨q2, q1, m, t4, t5, t6, F8, N8, hm8, hqq, hk⟩ := J
    have hlen3 : q.length = q1.length + q2.length := by rw [hqq]; exact List.length_append
    have hob : (tx (o ++ q1)).length ≤ 5 := by
      rw [tx_len, List.length_append]
      exact Nat.le_trans (Nat.le_trans (Nat.add_le_add_left (Nat.le_trans (Nat.le_add_right _ _) (Nat.le_of_eq hlen3.symm)) _) (Nat.le_of_eq (Nat.add_comm _ _))) (hlen ▸ hl)
    have hq25 : q2.length ≤ 5 := Nat.le_trans (Nat.le_add_left _ _) (hlen3 ▸ hll)
    clear hlen3 hlen
    rcases q2 with _ | ⟨c, q3⟩
    · replace F8 := fr_names' hm8 F8
      dsimp only [List.take, kstB] at F8
      clear hm8
      try k_fold
      walk_at "go"
      refine hF2 _ ?_
      refine Nx.next nxW ?_
      try k_fold
      walk_at "go"
      exact hret _ _ _ ⟨_, congrArg (fun z => Value.str z _) (congrArg tx (by rw [← hp2, hqq]; simp))⟩ (by assumption) (by assumption)
    · replace F8 := fr_names' hm8 F8
      dsimp only [List.take, kstB] at F8
      clear hm8
      have hq3 : ∀ d ∈ q3, d ∈ sgn := fun d h => hq d (by rw [hqq]; simp [h])
      have hl3 : q3.length ≤ 5 := Nat.le_of_succ_le hq25
      have hlq2 : (tx (encq (c :: q3))).length ≤ 20 := by rw [tx_len, encq_len]; exact Nat.mul_le_mul_left 4 hq25
      have hl1 : (tx [c]).length = 1 := rfl
      clear hq25
      try k_fold
      walk_at "go"
      rw [show ((((tx [c]).length : Nat) : Int) != 0) = true from rfl]
      refine hT2 _ ?_
      try k_fold
      walk_at "go"
      exact wg_end (n' := q3.length) (by rw [hk]; exact Nat.lt_succ_self _) (.mk q3 (q1 ++ [c]) _ _ _ _ (by assumption) (by assumption) (by rw [← List.append_assoc, ← tx_app (o ++ q1) [c], ← sl_enc c q3]; kst_all) (by rw [hqq]; simp) rfl)
end Mine
end

section
open PySem PySem.W PyProof.Rows
set_option maxRecDepth 100000
namespace Mine
theorem words_c6 : True := by
  w_top off
  first | walk1 | skip
  k_with_none
  k_with "kmem" => (first | exact List.mem_cons_self | (refine List.mem_cons_of_mem _ ?_; k_mem) | assumption)
  trivial
variable {q9 : Program} {l9 : List Str}
theorem words_c6_a : True := by
  k_with "goI" => (repeat' (first | (fail_if_success (first | (with_reducible show wpAny _ _ (exec (Stmt.While _ _ _ _) _) _ _ _) | (with_reducible show wpAny _ _ (exec (Stmt.For _ _ _ _ _) _) _ _ _) | (with_reducible show wpAny _ _ (pyIter _) _ _ _) | (with_reducible show ForLAt _ _ _ _ _ _ _ _ _ _ _ _) | (with_reducible show TPostF _ _ _ _ _ _ _ _ _ _) | (with_reducible show wpAny _ _ (exec (Stmt.If _ _ _ _) _) _ _ _)));  first | ((with_reducible show wpAny _ _ (execs (_ :: _) _) _ _ _); (with_reducible refine execs_hid ?_); intro w8Q9' w8nx9') | ((fail_if_success (with_reducible show wpAny _ _ _ _ _ _)); first | (with_reducible refine Nx.nil (by assumption) ?_) | (with_reducible refine Nx.next (by assumption) ?_) | (with_reducible refine Nx.ret (by assumption) ?_) | (with_reducible refine Nx.brk (by assumption) ?_) | (with_reducible refine Nx.cont (by assumption) ?_) | ((with_reducible refine Hid.use (by assumption) ?_); (try dsimp only))) | (k_unfold; (try dsimp only)) | (k_end; wrow_close) | walk1 | (dsimp only; walk1) | (leave1; walk_say "STEP leave1"; try dsimp only) | fail "no step"))
  trivial

set_option maxHeartbeats 40000000
theorem words_c6_b : True := by
  k_with "call builtin:str.split" => ((k_here; k_dflt (refine' ell_split ?w8F ?w8N ?w8y ?w8e ?w8z ?_; (case w8F => k_asm); (case w8N => k_asm); (case w8e => assumption); (case w8y => decide +kernel); (case w8z => size_fits); k_whole; intro w8D' w8ta' w8tb' w8vm' w8h' w8k' w8hsa' w8hsb' w8hsc' w8hsd' w8hap' w8F' w8N'; (have w8hvm' := StrsAre.length w8hsa'); (simp only [List.length_map] at w8hvm'); (try k_fold))))
  k_with "subscriptTail Name Constant ref int" => ((k_here; k_dflt (refine' ell_first ?w8N ?w8m ?_; (case w8N => k_asm); (case w8m => k_mem); k_whole)))
  k_with "subscriptTail Name UnaryOp ref int" => ((k_here; k_dflt (refine' ell_last ?w8N ?w8m ?_; (case w8N => k_asm); (case w8m => k_mem); k_whole)))
  k_with "delItem ref int" => ((k_here; k_dflt (first
  | ((with_reducible show wpAny _ _ (delItem _ (Value.int 0 _)) _ _ _); refine' ell_delFirst ?w8F ?w8N ?w8o ?w8a ?w8z ?_; (case w8F => k_asm); (case w8N => k_asm); (case w8o => k_ne); (case w8a => assumption); (case w8z => (simp only [List.length_append, List.length_cons, List.length_nil]; omega)); k_whole; intro w8h' w8F' w8N'; (try k_fold))
  | (refine' ell_delLast ?w8F ?w8N ?w8o ?w8a ?w8z ?_; (case w8F => k_asm); (case w8N => k_asm); (case w8o => k_ne); (case w8a => assumption); (case w8z => omega); k_whole; intro w8h' w8F' w8N'; (try k_fold)))))
  k_with "call builtin:len" => ((k_here; k_dflt (refine' ell_len ?w8N ?w8m ?w8z ?_; (case w8N => k_asm); (case w8m => k_mem); (case w8z => omega); k_whole)))
  k_with "call builtin:str.find" => ((k_here; k_dflt (first
  | (refine' call_find4 ?w8hi ?w8hj ?w8he ?_; (case w8hi => rfl); (case w8hj => rfl); (case w8he => omega); k_whole)
  | (refine' call_find4 (ep := 5) ?w8hi ?w8hj ?w8he ?_; (case w8hi => rfl); (case w8hj => omega); (case w8he => omega); k_whole)
  | (refine' call_find4 (ep := 4) ?w8hi ?w8hj ?w8he ?_; (case w8hi => rfl); (case w8hj => omega); (case w8he => omega); k_whole))))
  trivial

def eN (rs : List Nat) (D : Addr) (u : Tok) (sp : Nat) (t1 : Tok) (ep : Nat) (t2 : Tok) : List (Str × Value) := [(Str.ofString "got", .str (tx rs) u), (Str.ofString "ws", .ref D), (Str.ofString "startpos", .int (sp : Int) t1), (Str.ofString "endpos", .int (ep : Int) t2)]
inductive EJ (rs : List Nat) (D : Addr) (u t2 : Tok) (ep : Nat) (ws : List (List Nat)) (V : Bool) (i : Nat) (m : Str → Option Value) : Prop
  | mk (k : Nat) (t1 : Tok) (hm : ∀ p ∈ eN rs D u k t1 ep t2, m p.1 = some p.2) (hk : k ≤ ep) (hfl : fl rs ep (ws.drop i) k = V)
theorem all4 {α : Type} {P : α → Prop} {a b c d : α} (ha : P a) (hb : P b) (hc : P c) (hd : P d) : ∀ p ∈ [a, b, c, d], P p :=
  List.forall_mem_cons.mpr ⟨ha, List.forall_mem_cons.mpr ⟨hb, List.forall_mem_cons.mpr ⟨hc, List.forall_mem_cons.mpr ⟨hd, fun _ h => absurd h List.not_mem_nil⟩⟩⟩⟩
theorem con_ell {w : World} {x rs a b : List Nat} {mid : List (List Nat)} {t u : Tok} (hx : x.length ≤ 100) (hr : rs.length = 5)
    (hin : (Builtin.Str.occurrences (tx x) (Str.ofString "...") 0 (tx x).length 1).isEmpty = false) (he : Txt.split (tx x) (Str.ofString "...") = tx a :: (mid.map tx ++ [tx b]))
    (ha : a = [] ∨ a.length = 1 ∧ Txt.startswith (tx rs) (tx a) = true) (hb : b = [] ∨ b.length = 1 ∧ Txt.endswith (tx rs) (tx b) = true) (hm : mid.length ≤ 4) (hm1 : ∀ y ∈ mid, y.length ≤ 1) :
    Con 2 w 53 [.str (tx x) t, .str (tx rs) u] (fun _ => True) (fun v => v = .bool (fl rs (5 - b.length) ((if a = [] then [[]] else []) ++ mid ++ (if b = [] then [[]] else [])) a.length)) := by
  unfold Con
  intro q9 l9 mean mg mb dp un gd fr h₀ L m news s Q E F X N T hn hdp hun hret
  have hxl : (tx x).length = x.length := tx_len x
  have hrl : (tx rs).length = 5 := by rw [tx_len]; exact hr
  generalize hV : fl rs (5 - b.length) ((if a = [] then [[]] else []) ++ mid ++ (if b = [] then [[]] else [])) a.length = V at hret
  refine wpAny_call ?_
  k_dflt (refine' code_defF ?k2 ?k3 ?k4 ?k5 ?k6 ?k7 ?k8 ?k9 ?kB ?_ ?c2 ?c3 ?c4 ?c5)
  case k2 => k_asm
  case k3 => k_asm
  case k4 => k_asm
  case k5 => k_asm
  case k6 => k_is
  case k7 => k_is
  case k8 => ktr_room
  case k9 => exact BindsTo.of_eq rfl
  case c5 => decide
  case kB => exact locs rfl
  case c2 => exact rfl
  case c3 => exact rfl
  case c4 => exact rfl
  intro g' L' h' F' N' X' T'
  refine hideF ?_
  intro Q8 hq8
  (try dsimp only); (try k_fold)
  walk_at "goI"
  refine If_hid ?_
  intro Qb hT hF
  walk_at "goI"
  rw [hin]
  refine hF _ ?_
  clear hT hF
  walk_at "goI"
  (rename Nx _ _ _ _ _ _ _ => nxA); (rename (Flow → Shared → Prop) => QA); (rename Fr _ _ _ _ => lF'); (rename News _ _ _ _ => lN')
  have tail1 : ∀ (D : Addr) (p₁ : Addr × Obj) (mid1 : List (List Nat)) (vm1 : List Value) (tb : Tok) (n1 sp : Nat) (t1 t2 : Tok) (m' : Str → Option Value) (h : Heap) (tk : Nat), @Ne Nat p₁.1 D → (∀ p ∈ news, p.1 ≠ D) → sp ≤ 1 → mid1.length ≤ 5 → (∀ y ∈ mid1, y.length ≤ 1) → StrsAre vm1 (mid1.map tx) →
      fl rs (5 - b.length) (mid1 ++ (if b = [] then [[]] else [])) sp = V → (∀ p ∈ eN rs D u sp t1 5 t2, m' p.1 = some p.2) → Fr g' L' h m' → News g' L' h (p₁ :: (D, listOf (vm1 ++ [Value.str (tx b) tb]).toArray n1) :: news) → QA .next { s with heap := h, toks := tk } := by
    clear lF' lN'
    intro D p₁ mid1 vm1 tb n1 sp t1 t2 m' h tk hp1 hap hsp hml hm1' hv1 hfl hm F9 N9
    replace F9 := fr_names' hm F9
    dsimp only [eN, kstB] at F9
    clear hm
    have hvl : vm1.length ≤ 5 := by rw [hv1.length, List.length_map]; exact hml
    refine Nx.next nxA ?_
    clear nxA
    try k_fold
    walk_at "goI"
    (rename Nx _ _ _ _ _ _ _ => nxB); (rename (Flow → Shared → Prop) => QB); (rename Fr _ _ _ _ => lF'); (rename News _ _ _ _ => lN')
    have tail2 : ∀ (ws2 : List (List Nat)) (vs2 : List Value) (n2 ep : Nat) (t2 : Tok) (m' : Str → Option Value) (h : Heap) (tk : Nat), ep ≤ 5 → sp ≤ ep → (∀ y ∈ ws2, y.length ≤ 1) → StrsAre vs2 (ws2.map tx) →
        fl rs ep ws2 sp = V → (∀ p ∈ eN rs D u sp t1 ep t2, m' p.1 = some p.2) → Fr g' L' h m' → News g' L' h (p₁ :: (D, listOf vs2.toArray n2) :: news) → QB .next { s with heap := h, toks := tk } := by
      clear lF' lN' hfl
      intro ws2 vs2 n2 ep t2 m' h tk hep hse hw2 hv2 hfl hm F9 N9
      replace F9 := fr_names' hm F9
      dsimp only [eN, kstB] at F9
      clear hm
      refine Nx.next nxB ?_
      clear nxB
      try k_fold
      walk_at "goI"
      refine If_hid ?_
      intro Qb hT hF
      walk_at "goI"
      rw [decide_eq_false (Int.not_lt.mpr (Int.ofNat_le.mpr hse))]
      refine hF _ ?_
      clear hT hF
      walk_at "goI"
      refine For_L (h₀ := g') (L := L') ?_
      walk_at "goI"
      (rename Fr _ _ _ _ => lF'); (rename News _ _ _ _ => lN'); (rename Nx _ _ _ _ _ _ _ => nxC); (rename (Flow → Shared → Prop) => QC)
      have retF : ∀ (v : Bool) (m' : Str → Option Value) (h : Heap) (tk : Nat) (all : List (Addr × Obj)), v = V → Fr g' L' h m' → News g' L' h all → (∀ p ∈ news, p ∈ all) → QC (.ret (.bool v)) { s with heap := h, toks := tk } := by
        clear lF' lN'
        intro v m' h tk all hv F9 N9 hsub
        refine Nx.ret nxC ?_
        clear nxC
        walk_at "goI"
        exact hret _ _ _ (congrArg Value.bool hv) (by assumption) (cb_drop (by assumption) hsub)
      refine ForLAt.fix (EJ rs D u t2 ep ws2 V) rfl (.tail _ (.head _)) lF' lN' (.mk sp _ (by unfold eN; kst_all) hse hfl) ?turn ?done
      case turn =>
        clear lF' lN'
        intro i v m₁ I oI h tk Q7 hq7 hi hv hJ F9 N9 hoff
        obtain ⟨k, t1, hm, hk, hfl⟩ := hJ
        obtain ⟨y, ty, rfl, hdr, hym⟩ := strs_at hv2 (by simpa using hv)
        have hyl : y.length ≤ 1 := hw2 _ hym
        have hyl2 : (tx y).length = y.length := tx_len y
        rw [hdr] at hfl
        replace F9 := fr_names' hm F9
        dsimp only [eN, kstB] at F9
        clear hm hdr hv hoff hym
        try k_fold
        walk_at "goI"
        refine If_hid ?_
        intro Qb hT hF
        walk_at "goI"
        by_cases hneg : fndI rs y k ep < 0
        · rw [decide_eq_true hneg]
          refine hT _ ?_
          clear hT hF
          walk_at "goI"
          refine retF _ _ _ _ _ ((fl_none (fndI_none hneg)).symm.trans hfl) (by assumption) (by assumption) fun p hp => ?_
          exact .tail _ (.tail _ (.tail _ hp))
        · rw [decide_eq_false hneg]
          refine hF _ ?_
          clear hT hF retF
          obtain ⟨q, hp1, hp2, hp3⟩ := fndI_some hneg
          (rename Fr _ _ _ _ => lF'); (rename News _ _ _ _ => lN')
          rw [hp2] at lF'
          clear hneg hp2
          walk_at "goI"
          exact tp_end (by assumption) (by assumption) (.head _) (fun _ h => .tail _ h) (.mk (q + y.length) _ (by unfold eN; kst_all) hp3 ((fl_some hp1).symm.trans hfl))
      case done =>
        clear lF' lN'
        intro m₁ h tk hJ F9 N9
        obtain ⟨k, t1, hm, hk, hfl⟩ := hJ
        rw [drop_all hv2] at hfl
        refine Nx.next nxC ?_
        walk_at "goI"
        exact hret _ _ _ (congrArg Value.bool hfl) (by assumption) (cb_drop (by assumption) (fun p hp => .tail _ (.tail _ hp)))
    clear nxB hV
    rcases hb with rfl | ⟨hb1, hb2⟩
    · refine If_hid ?_
      intro Qb hT hF
      walk_at "goI"
      refine hF _ ?_
      clear hT hF
      walk_at "goI"
      (rename Fr _ _ _ _ => lF2'); (rename News _ _ _ _ => lN2')
      exact tail2 (mid1 ++ [[]]) _ _ 5 _ _ _ _ (Nat.le_refl 5) (by omega) (fun y hy => (List.mem_append.mp hy).elim (hm1' y) fun h => by rw [List.mem_singleton.mp h]; exact Nat.zero_le _) (by rw [List.map_append]; exact hv1.append' (.cons _ _ .nil)) hfl (by unfold eN; kst_all) lF2' lN2'
    · obtain ⟨cb, rfl⟩ := List.length_eq_one_iff.mp hb1
      have hbl : (tx [cb]).length = 1 := rfl
      refine If_hid ?_
      intro Qb hT hF
      walk_at "goI"
      refine hT _ ?_
      clear hT hF
      walk_at "goI"
      refine If_hid ?_
      intro Qb hT hF
      walk_at "goI"
      rw [hb2]
      refine hT _ ?_
      clear hT hF
      walk_at "goI"
      (rename Fr _ _ _ _ => lF2'); (rename News _ _ _ _ => lN2')
      exact tail2 mid1 _ _ 4 _ _ _ _ (by decide) (by omega) hm1' hv1 ((congrArg (fun z => fl rs 4 z sp) (List.append_nil mid1)).symm.trans hfl) (by unfold eN; kst_all) lF2' lN2'
  clear nxA
  clear hin he
  (rename StrsAre _ (List.map tx mid) => hsc)
  rcases ha with rfl | ⟨ha1, ha2⟩
  · refine If_hid ?_
    intro Qb hT hF
    walk_at "goI"
    refine hF _ ?_
    clear hT hF
    walk_at "goI"
    (rename Fr _ _ _ _ => lF2'); (rename News _ _ _ _ => lN2')
    refine tail1 _ _ ([] :: mid) (.str (tx []) _ :: _) _ _ 0 _ _ _ _ _ ?_ (by assumption) (Nat.zero_le _) (Nat.succ_le_succ hm) (fun y hy => (List.mem_cons.mp hy).elim (fun h => by rw [h]; exact Nat.zero_le _) (hm1 y)) (.cons _ _ hsc) hV (all4 rfl rfl rfl (congrArg some (congrArg (fun z : Int => Value.int z _) (congrArg Int.ofNat hrl)))) lF2' lN2'
    k_ne
  · obtain ⟨ca, rfl⟩ := List.length_eq_one_iff.mp ha1
    have hal : (tx [ca]).length = 1 := rfl
    refine If_hid ?_
    intro Qb hT hF
    walk_at "goI"
    refine hT _ ?_
    clear hT hF
    walk_at "goI"
    refine If_hid ?_
    intro Qb hT hF
    walk_at "goI"
    rw [ha2]
    refine hT _ ?_
    clear hT hF
    walk_at "goI"
    (rename Fr _ _ _ _ => lF2'); (rename News _ _ _ _ => lN2')
    refine tail1 _ _ mid _ _ _ 1 _ _ _ _ _ ?_ (by assumption) (Nat.le_refl 1) (Nat.le_succ_of_le hm) hm1 hsc hV (all4 rfl rfl rfl (congrArg some (congrArg (fun z : Int => Value.int z _) (congrArg Int.ofNat hrl)))) lF2' lN2'
    k_ne
end Mine
end

section
open PySem PySem.W PyProof.Rows
set_option maxRecDepth 100000
namespace Mine
theorem words_c7 : True := by
  w_top off
  first | walk1 | skip
  k_with_none
  k_with "kmem" => (first | exact List.mem_cons_self | (refine List.mem_cons_of_mem _ ?_; k_mem) | assumption)
  trivial
variable {q9 : Program} {l9 : List Str}
theorem words_c7_a : True := by
  k_with "go" => (repeat' (first | (fail_if_success (first | (with_reducible show wpAny _ _ (exec (Stmt.While _ _ _ _) _) _ _ _) | (with_reducible show wpAny _ _ (exec (Stmt.For _ _ _ _ _) _) _ _ _) | (with_reducible show wpAny _ _ (pyIter _) _ _ _)));  first | ((with_reducible show wpAny _ _ (execs (_ :: _) _) _ _ _); (with_reducible refine execs_hid ?_); intro w8Q9' w8nx9') | ((fail_if_success (with_reducible show wpAny _ _ _ _ _ _)); first | (with_reducible refine Nx.nil (by assumption) ?_) | (with_reducible refine Nx.next (by assumption) ?_) | (with_reducible refine Nx.ret (by assumption) ?_) | (with_reducible refine Nx.brk (by assumption) ?_) | (with_reducible refine Nx.cont (by assumption) ?_) | ((with_reducible refine Hid.use (by assumption) ?_); (try dsimp only))) | (k_unfold; (try dsimp only)) | (k_end; wrow_close) | walk1 | (dsimp only; walk1) | (leave1; walk_say "STEP leave1"; try dsimp only) | fail "no step"))
  k_with "goI" => (repeat' (first | (fail_if_success (first | (with_reducible show wpAny _ _ (exec (Stmt.While _ _ _ _) _) _ _ _) | (with_reducible show wpAny _ _ (exec (Stmt.For _ _ _ _ _) _) _ _ _) | (with_reducible show wpAny _ _ (pyIter _) _ _ _) | (with_reducible show wpAny _ _ (exec (Stmt.If _ _ _ _) _) _ _ _)));  first | ((with_reducible show wpAny _ _ (execs (_ :: _) _) _ _ _); (with_reducible refine execs_hid ?_); intro w8Q9' w8nx9') | ((fail_if_success (with_reducible show wpAny _ _ _ _ _ _)); first | (with_reducible refine Nx.nil (by assumption) ?_) | (with_reducible refine Nx.next (by assumption) ?_) | (with_reducible refine Nx.ret (by assumption) ?_) | (with_reducible refine Nx.brk (by assumption) ?_) | (with_reducible refine Nx.cont (by assumption) ?_) | ((with_reducible refine Hid.use (by assumption) ?_); (try dsimp only))) | (k_unfold; (try dsimp only)) | (k_end; wrow_close) | walk1 | (dsimp only; walk1) | (leave1; walk_say "STEP leave1"; try dsimp only) | fail "no step"))
  k_with "goN" => (repeat' (first | (fail_if_success (first | (with_reducible show wpAny _ _ (exec (Stmt.While _ _ _ _) _) _ _ _) | (with_reducible show wpAny _ _ (exec (Stmt.For _ _ _ _ _) _) _ _ _) | (with_reducible show wpAny _ _ (pyIter _) _ _ _)));  first | ((with_reducible show wpAny _ _ (execs (_ :: _) _) _ _ _); (with_reducible refine execs_hid ?_); intro w8Q9' w8nx9') | ((fail_if_success (with_reducible show wpAny _ _ _ _ _ _)); first | (with_reducible refine Nx.nil (by assumption) ?_) | (with_reducible refine Nx.next (by assumption) ?_) | (with_reducible refine Nx.ret (by assumption) ?_) | (with_reducible refine Nx.brk (by assumption) ?_) | (with_reducible refine Nx.cont (by assumption) ?_) | ((with_reducible refine Hid.use (by assumption) ?_); (try dsimp only))) | (k_unfold; (try dsimp only)) | walk1 | (dsimp only; walk1) | (leave1; walk_say "STEP leave1"; try dsimp only) | fail "no step"))
  k_with "conArgs" => (((case k2 => k_asm); (case k3 => k_asm); (case k4 => k_asm); (case k5 => k_asm); (case k6 => first | trivial | assumption); (case k7 => first | assumption | ktr_room); (case k8 => first | assumption | ktr_units)))
  k_with "call ref" => ((k_here; k_dflt (refine' con_useE (by assumption) ?k2 ?k3 ?k4 ?k5 ?k6 ?k7 ?k8 ?_;  walk_at "conArgs"; k_whole; intro w8h' w8tk' w8F' w8N'; (try dsimp only); (try k_fold))))
  trivial

set_option maxHeartbeats 40000000
def takesG (rs : List Nat) (r0 r4 s0 : Nat) (m : List (List Nat)) (sk : Nat) : Bool :=
  if s0 = r0 then (if sk = r4 then fl rs 4 m 1 else fl rs 5 (m ++ [[sk], []]) 1)
  else (if sk = r4 then fl rs 4 ([] :: [s0] :: m) 0 else fl rs 5 ([] :: [s0] :: (m ++ [[sk], []])) 0)
theorem sw_one (c : Nat) (l : List Nat) : Txt.startswith (tx (c :: l)) (tx [c]) = true := by
  unfold Txt.startswith
  rw [StrLaws.subAt_eq]
  simp [Str.length]
theorem ew_one (c : Nat) (l : List Nat) : Txt.endswith (tx (l ++ [c])) (tx [c]) = true := by
  unfold Txt.endswith
  rw [StrLaws.subAt_eq]
  simp [Str.length]
theorem con_ell' {w : World} {y : Str} {x rs a b : List Nat} {mid : List (List Nat)} {t u : Tok} (e : y = tx x) (hx : x.length ≤ 100) (hr : rs.length = 5)
    (hin : (Builtin.Str.occurrences (tx x) (Str.ofString "...") 0 (tx x).length 1).isEmpty = false) (he : Txt.split (tx x) (Str.ofString "...") = tx a :: (mid.map tx ++ [tx b]))
    (ha : a = [] ∨ a.length = 1 ∧ Txt.startswith (tx rs) (tx a) = true) (hb : b = [] ∨ b.length = 1 ∧ Txt.endswith (tx rs) (tx b) = true) (hm : mid.length ≤ 4) (hm1 : ∀ y ∈ mid, y.length ≤ 1) :
    Con 2 w 53 [.str y t, .str (tx rs) u] (fun _ => True) (fun v => v = .bool (fl rs (5 - b.length) ((if a = [] then [[]] else []) ++ mid ++ (if b = [] then [[]] else [])) a.length)) := by
  subst e
  exact con_ell hx hr hin he ha hb hm hm1
theorem con_takesW {w : World} {r0 r1 r2 r3 r4 a z wl : Nat} {W : List Nat} {t u : Tok} {X00 X01 X10 X11 : Bool} (hwl : (tx W).length = wl) (h3 : 3 ≤ wl) (h4 : wl ≤ 4) (hjl : (Txt.join (Str.ofString "...") (signs (tx W))).length ≤ 13)
    (hi0 : (Txt.item (tx W) 0 != Txt.item (tx [r0, r1, r2, r3, r4]) 0) = !decide (a = r0)) (hi1 : (Txt.item (tx W) (-1) != Txt.item (tx [r0, r1, r2, r3, r4]) (-1)) = !decide (z = r4))
    (E11 : ¬ a = r0 → ¬ z = r4 → ∀ t u, Con 2 w 53 [.str (Str.ofString "..." ++ Txt.join (Str.ofString "...") (signs (tx W)) ++ Str.ofString "...") t, .str (tx [r0, r1, r2, r3, r4]) u] (fun _ => True) (fun v => v = .bool X11))
    (E10 : ¬ a = r0 → z = r4 → ∀ t u, Con 2 w 53 [.str (Str.ofString "..." ++ Txt.join (Str.ofString "...") (signs (tx W))) t, .str (tx [r0, r1, r2, r3, r4]) u] (fun _ => True) (fun v => v = .bool X10))
    (E01 : a = r0 → ¬ z = r4 → ∀ t u, Con 2 w 53 [.str (Txt.join (Str.ofString "...") (signs (tx W)) ++ Str.ofString "...") t, .str (tx [r0, r1, r2, r3, r4]) u] (fun _ => True) (fun v => v = .bool X01))
    (E00 : a = r0 → z = r4 → ∀ t u, Con 2 w 53 [.str (Txt.join (Str.ofString "...") (signs (tx W))) t, .str (tx [r0, r1, r2, r3, r4]) u] (fun _ => True) (fun v => v = .bool X00)) :
    Con 3 w 119 [.str (tx [r0, r1, r2, r3, r4]) t, .str (tx W) u] (fun _ => True) (fun v => v = .bool (if a = r0 then (if z = r4 then X00 else X01) else (if z = r4 then X10 else X11))) := by
  unfold Con
  intro q9 l9 mean mg mb dp un gd fr h₀ L m news s Q E F X N T hn hdp hun hret
  have hrl : (tx [r0, r1, r2, r3, r4]).length = 5 := rfl
  have hd2 : dp + 1 + 2 < recursionLimit := by omega
  have hu2 : un + 3 + 12 * 2 < cLine := by omega
  refine wpAny_call ?_
  k_dflt (refine' code_defF ?k2 ?k3 ?k4 ?k5 ?k6 ?k7 ?k8 ?k9 ?kB ?_ ?c2 ?c3 ?c4 ?c5)
  case k2 => k_asm
  case k3 => k_asm
  case k4 => k_asm
  case k5 => k_asm
  case k6 => k_is
  case k7 => k_is
  case k8 => ktr_room
  case k9 => exact BindsTo.of_eq rfl
  case c5 => decide
  case kB => exact locs rfl
  case c2 => exact rfl
  case c3 => exact rfl
  case c4 => exact rfl
  intro g' L' h' F' N' X' T'
  refine hideF ?_
  intro Q8 hq8
  (try dsimp only); (try k_fold)
  walk_at "goI"
  (rename Fr _ _ _ _ => lF'); (rename News _ _ _ _ => lN'); (rename Nx _ _ _ _ _ _ _ => nx1); (rename (Flow → Shared → Prop) => Q1)
  have second : ∀ (y : Str) (ty : Tok) (XA XB : Bool) (m' : Str → Option Value) (h : Heap) (tk : Nat), y.length ≤ 16 → (¬ z = r4 → ∀ t u, Con 2 w 53 [.str (y ++ Str.ofString "...") t, .str (tx [r0, r1, r2, r3, r4]) u] (fun _ => True) (fun v => v = .bool XA)) → (z = r4 → ∀ t u, Con 2 w 53 [.str y t, .str (tx [r0, r1, r2, r3, r4]) u] (fun _ => True) (fun v => v = .bool XB)) →
      (if z = r4 then XB else XA) = (if a = r0 then (if z = r4 then X00 else X01) else (if z = r4 then X10 else X11)) → (∀ p ∈ [(Str.ofString "wanted", Value.str y ty), (Str.ofString "row", .str (tx [r0, r1, r2, r3, r4]) t), (Str.ofString "word", .str (tx W) u)], m' p.1 = some p.2) → Fr g' L' h m' → News g' L' h news → Q1 .next { s with heap := h, toks := tk } := by
    clear lF' lN'
    intro y ty XA XB m' h tk hy CA CB hX hm F9 N9
    replace F9 := fr_names' hm F9
    dsimp only [kstB] at F9
    clear hm
    refine Nx.next nx1 ?_
    try k_fold
    walk_at "goI"
    (rename Nx _ _ _ _ _ _ _ => nx2); (rename (Flow → Shared → Prop) => Q2)
    have ret : ∀ (y2 : Str) (ty2 : Tok) (XX : Bool) (m2 : Str → Option Value) (h : Heap) (tk : Nat), Con 2 w 53 [.str y2 ty2, .str (tx [r0, r1, r2, r3, r4]) t] (fun _ => True) (fun v => v = .bool XX) → XX = (if a = r0 then (if z = r4 then X00 else X01) else (if z = r4 then X10 else X11)) → (∀ p ∈ [(Str.ofString "wanted", Value.str y2 ty2), (Str.ofString "row", .str (tx [r0, r1, r2, r3, r4]) t)], m2 p.1 = some p.2) → Fr g' L' h m2 → News g' L' h news → Q2 .next { s with heap := h, toks := tk } := by
      clear F9 N9
      intro y2 ty2 XX m2 h tk hC hXX hm F9 N9
      replace F9 := fr_names' hm F9
      dsimp only [kstB] at F9
      clear hm
      refine Nx.next nx2 ?_
      try k_fold
      walk_at "go"
      exact hret _ _ _ (congrArg Value.bool (by rw [← hXX]; simp)) (by assumption) (by assumption)
    clear nx2
    refine If_hid ?_
    intro Qb hT hF
    walk_at "go"
    (rename Fr _ _ _ _ => lF'); (rename News _ _ _ _ => lN')
    rw [hi1]
    by_cases hz : z = r4
    · rw [decide_eq_true hz]
      exact hF _ (wpAny_execs_nil (ret y ty XB _ _ _ (CB hz _ _) (by rw [if_pos hz] at hX; exact hX) (by kst_all) lF' lN'))
    · rw [decide_eq_false hz]
      refine hT _ ?_
      clear hT hF
      try k_fold
      walk_at "goN"
      (rename Fr _ _ _ _ => lF3'); (rename News _ _ _ _ => lN3')
      exact ret _ _ XA _ _ _ (CA hz _ _) (by rw [if_neg hz] at hX; exact hX) (by kst_all) lF3' lN3'
  clear nx1
  refine If_hid ?_
  intro Qa hTa hFa
  walk_at "go"
  (rename Fr _ _ _ _ => lF2'); (rename News _ _ _ _ => lN2')
  rw [hi0]
  by_cases ha : a = r0
  · rw [decide_eq_true ha]
    exact hFa _ (wpAny_execs_nil (second _ _ X01 X00 _ _ _ (Nat.le_trans hjl (by decide)) (E01 ha) (E00 ha) (by rw [if_pos ha]) (by kst_all) lF2' lN2'))
  · rw [decide_eq_false ha]
    refine hTa _ ?_
    clear hTa hFa
    try k_fold
    walk_at "goN"
    (rename Fr _ _ _ _ => lF3'); (rename News _ _ _ _ => lN3')
    exact second _ _ X11 X10 _ _ _ (by rw [Str.length_append]; exact Nat.add_le_add (by decide +kernel : (Str.ofString "...").length ≤ 3) hjl) (E11 ha) (E10 ha) (by rw [if_neg ha]) (by kst_all) lF3' lN3'
theorem con_takes3 {w : World} {r0 r1 r2 r3 r4 : Nat} {a b c : Nat} (ha : ¬ a = 46) (hb : ¬ b = 46) (hc : ¬ c = 46) {t u : Tok} :
    Con 3 w 119 [.str (tx [r0, r1, r2, r3, r4]) t, .str (tx [a, b, c]) u] (fun _ => True) (fun v => v = .bool (takesG [r0, r1, r2, r3, r4] r0 r4 a [[b]] c)) :=
  con_takesW (wl := 3) rfl (by decide) (by decide) (by rw [join_dj]; exact Nat.le_of_ble_eq_true rfl) (congrArg (! ·) (beq_one a r0)) (congrArg (! ·) (beq_one c r4))
    (fun _ _ _ _ => (con_ell' (x := dots ++ dj [a, b, c] ++ dots) (a := []) (b := []) (mid := [[a], [b], [c]]) (by rw [join_dj, lit_dots, tx_app, tx_app]) (by simp [dj]) rfl (sp3_11i ha hb hc) (sp3_11 ha hb hc) (.inl rfl) (.inl rfl) (by simp) (by simp)))
    (fun _ e1 _ _ => (con_ell' (x := dots ++ dj [a, b, c]) (a := []) (b := [c]) (mid := [[a], [b]]) (by rw [join_dj, lit_dots, tx_app]) (by simp [dj]) rfl (sp3_10i ha hb hc) (sp3_10 ha hb hc) (.inl rfl) (.inr ⟨rfl, e1 ▸ ew_one _ [r0, r1, r2, r3]⟩) (by simp) (by simp)))
    (fun e0 _ _ _ => (con_ell' (x := dj [a, b, c] ++ dots) (a := [a]) (b := []) (mid := [[b], [c]]) (by rw [join_dj, lit_dots, tx_app]) (by simp [dj]) rfl (sp3_01i ha hb hc) (sp3_01 ha hb hc) (.inr ⟨rfl, e0 ▸ sw_one _ _⟩) (.inl rfl) (by simp) (by simp)))
    (fun e0 e1 _ _ => (con_ell' (x := dj [a, b, c]) (a := [a]) (b := [c]) (mid := [[b]]) (by rw [join_dj]) (by simp [dj]) rfl (sp3_00i ha hb hc) (sp3_00 ha hb hc) (.inr ⟨rfl, e0 ▸ sw_one _ _⟩) (.inr ⟨rfl, e1 ▸ ew_one _ [r0, r1, r2, r3]⟩) (by simp) (by simp)))
theorem con_takes4 {w : World} {r0 r1 r2 r3 r4 : Nat} {a b c d : Nat} (ha : ¬ a = 46) (hb : ¬ b = 46) (hc : ¬ c = 46) (hd : ¬ d = 46) {t u : Tok} :
    Con 3 w 119 [.str (tx [r0, r1, r2, r3, r4]) t, .str (tx [a, b, c, d]) u] (fun _ => True) (fun v => v = .bool (takesG [r0, r1, r2, r3, r4] r0 r4 a [[b], [c]] d)) :=
  con_takesW (wl := 4) rfl (by decide) (by decide) (by rw [join_dj]; exact Nat.le_of_ble_eq_true rfl) (congrArg (! ·) (beq_one a r0)) (congrArg (! ·) (beq_one d r4))
    (fun _ _ _ _ => (con_ell' (x := dots ++ dj [a, b, c, d] ++ dots) (a := []) (b := []) (mid := [[a], [b], [c], [d]]) (by rw [join_dj, lit_dots, tx_app, tx_app]) (by simp [dj]) rfl (sp4_11i ha hb hc hd) (sp4_11 ha hb hc hd) (.inl rfl) (.inl rfl) (by simp) (by simp)))
    (fun _ e1 _ _ => (con_ell' (x := dots ++ dj [a, b, c, d]) (a := []) (b := [d]) (mid := [[a], [b], [c]]) (by rw [join_dj, lit_dots, tx_app]) (by simp [dj]) rfl (sp4_10i ha hb hc hd) (sp4_10 ha hb hc hd) (.inl rfl) (.inr ⟨rfl, e1 ▸ ew_one _ [r0, r1, r2, r3]⟩) (by simp) (by simp)))
    (fun e0 _ _ _ => (con_ell' (x := dj [a, b, c, d] ++ dots) (a := [a]) (b := []) (mid := [[b], [c], [d]]) (by rw [join_dj, lit_dots, tx_app]) (by simp [dj]) rfl (sp4_01i ha hb hc hd) (sp4_01 ha hb hc hd) (.inr ⟨rfl, e0 ▸ sw_one _ _⟩) (.inl rfl) (by simp) (by simp)))
    (fun e0 e1 _ _ => (con_ell' (x := dj [a, b, c, d]) (a := [a]) (b := [d]) (mid := [[b], [c]]) (by rw [join_dj]) (by simp [dj]) rfl (sp4_00i ha hb hc hd) (sp4_00 ha hb hc hd) (.inr ⟨rfl, e0 ▸ sw_one _ _⟩) (.inr ⟨rfl, e1 ▸ ew_one _ [r0, r1, r2, r3]⟩) (by simp) (by simp)))
end Mine
end

section
open PySem PySem.W PyProof.Rows
set_option maxRecDepth 100000
namespace Mine
def chk1 (rs p l h : List Nat) (r0 r4 b a : Nat) : Bool :=
  let over := rs.filter fun c => decide (b < c)
  let within := over.any fun c => takesG rs r0 r4 b [[c]] a
  let ahead := over.any fun c => takesG rs r0 r4 c [[b]] a
  let two := over.any fun c => (over.filter fun s => decide (s < c)).any fun s => takesG rs r0 r4 b [[c], [s]] a
  (befo p b a == within) && (befo l b a == (ahead || two)) && (befo h b a == (within || ahead || takesG rs r0 r4 b [[b]] a))
def isRank (rs : List Nat) : Bool := rs.all fun d => (rs.filter fun e => decide (e < d)).length == d
def chk (r0 r1 r2 r3 r4 : Nat) : Bool :=
  let rs := [r0, r1, r2, r3, r4]
  !isRank rs || (
  let p := pileN [] [] rs
  let l := lineN [] [] rs
  let h := handN r0 [r1, r2, r3, r4]
  rs.all fun b => rs.all fun a => !decide (a < b) || chk1 rs p l h r0 r4 b a)
def five : List Nat := [0, 1, 2, 3, 4]
def chkA (r0 : Nat) : Bool := five.all fun r1 => five.all fun r2 => five.all fun r3 => five.all fun r4 => chk r0 r1 r2 r3 r4
theorem chkA0 : chkA 0 = true := by decide +kernel
theorem chkA1 : chkA 1 = true := by decide +kernel
theorem chkA2 : chkA 2 = true := by decide +kernel
theorem chkA3 : chkA 3 = true := by decide +kernel
theorem chkA4 : chkA 4 = true := by decide +kernel
theorem chk_five {r0 r1 r2 r3 r4 : Nat} (h0 : r0 < 5) (h1 : r1 < 5) (h2 : r2 < 5) (h3 : r3 < 5) (h4 : r4 < 5) : chk r0 r1 r2 r3 r4 = true := by
  have m : ∀ {n : Nat}, n < 5 → n ∈ five := fun {n} h => (by decide +kernel : ∀ n < 5, n ∈ five) n h
  have key : chkA r0 = true := by
    have : r0 = 0 ∨ r0 = 1 ∨ r0 = 2 ∨ r0 = 3 ∨ r0 = 4 := by omega
    rcases this with rfl | rfl | rfl | rfl | rfl
    · exact chkA0
    · exact chkA1
    · exact chkA2
    · exact chkA3
    · exact chkA4
  unfold chkA at key
  exact List.all_eq_true.mp (List.all_eq_true.mp (List.all_eq_true.mp (List.all_eq_true.mp key r1 (m h1)) r2 (m h2)) r3 (m h3)) r4 (m h4)
section
variable {f : Nat → Nat}
theorem map_beq : ∀ {l m : List Nat}, (∀ x ∈ l, ∀ y ∈ m, f x = f y → x = y) → (l.map f == m.map f) = (l == m)
  | [], [], _ => rfl
  | [], _ :: _, _ => rfl
  | _ :: _, [], _ => rfl
  | x :: l, y :: m, h => by
    have ih := map_beq (l := l) (m := m) fun a ha b hb => h a (.tail _ ha) b (.tail _ hb)
    have e : (f x == f y) = (x == y) := by
      rw [Bool.eq_iff_iff, beq_iff_eq, beq_iff_eq]
      exact ⟨h x (.head _) y (.head _), fun q => q ▸ rfl⟩
    rw [List.map_cons, List.map_cons, List.cons_beq_cons, List.cons_beq_cons, ih, e]
variable {P : Nat → Prop} (hi : ∀ x y, P x → P y → f x = f y → x = y)
include hi
theorem fnd_nat {x y : List Nat} {sp ep : Nat} (hx : ∀ c ∈ x, P c) (hy : ∀ c ∈ y, P c) : fnd (x.map f) (y.map f) sp ep = fnd x y sp ep := by
  unfold fnd
  congr 1
  funext i
  rw [List.length_map, ← List.map_drop, ← List.map_take, map_beq fun a ha b hb => hi a b (hx a ((List.take_sublist _ _).trans (List.drop_sublist _ _) |>.mem ha)) (hy b hb)]
theorem fl_nat {x : List Nat} {ep : Nat} (hx : ∀ c ∈ x, P c) : ∀ (ys : List (List Nat)) (sp : Nat), (∀ y ∈ ys, ∀ c ∈ y, P c) → fl (x.map f) ep (ys.map (·.map f)) sp = fl x ep ys sp
  | [], _, _ => rfl
  | y :: ys, sp, hy => by
    rw [List.map_cons, fl, fl, fnd_nat hi hx (hy y (.head _)), List.length_map]
    cases fnd x y sp ep with
    | none => rfl
    | some p => exact fl_nat hx ys _ fun z hz => hy z (.tail _ hz)
theorem takes_nat {rs : List Nat} {r0 r4 s0 sk : Nat} {m : List (List Nat)} (hx : ∀ c ∈ rs, P c) (h0 : P r0) (h4 : P r4) (hs : P s0) (hk : P sk) (hm : ∀ y ∈ m, ∀ c ∈ y, P c) :
    takesG (rs.map f) (f r0) (f r4) (f s0) (m.map (·.map f)) (f sk) = takesG rs r0 r4 s0 m sk := by
  have e1 : (f s0 = f r0) ↔ s0 = r0 := ⟨hi _ _ hs h0, fun q => q ▸ rfl⟩
  have e2 : (f sk = f r4) ↔ sk = r4 := ⟨hi _ _ hk h4, fun q => q ▸ rfl⟩
  have one : ∀ {c : Nat}, P c → ∀ z ∈ [c], P z := fun h z hz => List.mem_singleton.mp hz ▸ h
  have nil : ∀ z ∈ ([] : List Nat), P z := fun z hz => absurd hz List.not_mem_nil
  have tail2 : ∀ y ∈ m ++ [[sk], []], ∀ c ∈ y, P c := fun y hy => by
    rcases List.mem_append.mp hy with hy | hy
    · exact hm y hy
    · rcases List.mem_cons.mp hy with rfl | hy
      · exact one hk
      · exact List.mem_singleton.mp hy ▸ nil
  have head2 : ∀ {l : List (List Nat)}, (∀ y ∈ l, ∀ c ∈ y, P c) → ∀ y ∈ [] :: [s0] :: l, ∀ c ∈ y, P c := fun hl y hy => by
    rcases List.mem_cons.mp hy with rfl | hy
    · exact nil
    · rcases List.mem_cons.mp hy with rfl | hy
      · exact one hs
      · exact hl y hy
  unfold takesG
  simp only [e1, e2]
  split
  · split
    · exact fl_nat hi hx m 1 hm
    · have := fl_nat hi (ep := 5) hx (m ++ [[sk], []]) 1 tail2
      simpa using this
  · split
    · have := fl_nat hi (ep := 4) hx ([] :: [s0] :: m) 0 (head2 hm)
      simpa using this
    · have := fl_nat hi (ep := 5) hx ([] :: [s0] :: (m ++ [[sk], []])) 0 (head2 tail2)
      simpa using this
end
def rk (rs : List Nat) (d : Nat) : Nat := (rs.filter fun e => decide (tokv e < tokv d)).length
theorem tokv_inj : ∀ x ∈ sgn, ∀ y ∈ sgn, tokv x = tokv y → x = y := by decide +kernel
theorem rk_lt {rs : List Nat} {c d : Nat} (hc : c ∈ rs) (h : tokv c < tokv d) : rk rs c < rk rs d := by
  unfold rk
  have e : rs.filter (fun e => decide (tokv e < tokv c)) = (rs.filter fun e => decide (tokv e < tokv d)).filter fun e => decide (tokv e < tokv c) := by
    rw [List.filter_filter]
    refine List.filter_congr fun x _ => ?_
    rw [Bool.eq_iff_iff]
    simp only [Bool.and_eq_true, decide_eq_true_eq]
    omega
  rw [e]
  refine List.length_filter_lt_length_iff_exists.mpr ⟨c, List.mem_filter.mpr ⟨hc, by simpa using h⟩, by simp⟩
theorem rk_iff {rs : List Nat} {c d : Nat} (hc : c ∈ rs) (hd : d ∈ rs) : tokv c < tokv d ↔ rk rs c < rk rs d := by
  refine ⟨rk_lt hc, fun h => ?_⟩
  rcases Int.lt_trichotomy (tokv c) (tokv d) with q | q | q
  · exact q
  · unfold rk at h; rw [q] at h; exact absurd h (Nat.lt_irrefl _)
  · have := rk_lt hd q; omega
theorem rk_inj {rs : List Nat} (hs : ∀ d ∈ rs, d ∈ sgn) {c d : Nat} (hc : c ∈ rs) (hd : d ∈ rs) (h : rk rs c = rk rs d) : c = d := by
  refine tokv_inj c (hs c hc) d (hs d hd) ?_
  have h1 := rk_iff hc hd
  have h2 := rk_iff hd hc
  omega
theorem rk_five {rs : List Nat} {d : Nat} (hd : d ∈ rs) : rk rs d < rs.length := List.length_filter_lt_length_iff_exists.mpr ⟨d, hd, by simp⟩
theorem rank_rk {rs : List Nat} : isRank (rs.map (rk rs)) = true := by
  unfold isRank
  refine List.all_eq_true.mpr fun d hd => ?_
  obtain ⟨c, hc, rfl⟩ := List.mem_map.mp hd
  rw [beq_iff_eq, List.filter_map, List.length_map]
  show _ = (rs.filter fun e => decide (tokv e < tokv c)).length
  rw [List.filter_congr fun x hx => ?_]
  exact decide_eq_decide.mpr (rk_iff hx hc).symm
end Mine
end

section
open PySem PySem.W PyProof.Rows PySem.Builtin PySem.Builtin.Str PySem.StrLaws
set_option maxRecDepth 100000
namespace Mine
theorem at_one {o : List Nat} {c i : Nat} : At (tx o) (tx [c]) o.length i ↔ o[i]? = some c := by
  rw [at_iff]
  simp only [Bool.and_eq_true, decide_eq_true_eq, beq_iff_eq, List.length_cons, List.length_nil]
  constructor
  · rintro ⟨h, e⟩
    have h' : i < o.length := by omega
    rw [List.drop_eq_getElem_cons h', List.take_succ_cons] at e
    rw [List.getElem?_eq_getElem h']
    exact congrArg some (List.cons.inj e).1
  · intro e
    obtain ⟨h', e'⟩ := List.getElem?_eq_some_iff.mp e
    refine ⟨by omega, ?_⟩
    rw [List.drop_eq_getElem_cons h', e']
    rfl
theorem dw_drop {b : Nat} : ∀ {o : List Nat} {i : Nat}, o[i]? = some b → (∀ k, k < i → o[k]? ≠ some b) → (o.dropWhile fun d => decide (¬ d = b)) = o.drop i
  | [], i, h, _ => by simp at h
  | c :: o, 0, h, _ => by
    have h : c = b := Option.some.inj h
    rw [List.dropWhile_cons_of_neg (by simp [h]), List.drop_zero]
  | c :: o, i + 1, h, hk => by
    have h0 : ¬ c = b := fun q => hk 0 (Nat.succ_pos _) (congrArg some q)
    rw [List.dropWhile_cons_of_pos (by simp [h0]), List.drop_succ_cons]
    exact dw_drop (by simpa using h) fun k hk' => by have := hk (k + 1) (by omega); simpa using this
theorem find_one {o : List Nat} {b : Nat} (hb : b ∈ o) : ∃ i : Nat, Txt.find (tx o) (tx [b]) = (i : Int) ∧ o[i]? = some b ∧ ∀ k, k < i → o[k]? ≠ some b := by
  have e : Txt.find (tx o) (tx [b]) = fndI o [b] 0 o.length := by
    unfold Txt.find fndI
    rw [← occ_fnd, show (tx o).length = o.length from tx_len o]
    cases occurrences (tx o) (tx [b]) 0 o.length 1 <;> rfl
  rw [e]
  unfold fndI
  cases h : fnd o [b] 0 o.length with
  | none =>
    unfold fnd at h
    obtain ⟨i, hi, e⟩ := List.mem_iff_getElem.mp hb
    have := List.find?_eq_none.mp h i (List.mem_range'_1.mpr (by omega))
    exact absurd ((at_iff o [b] o.length i).mp (at_one.mpr (by rw [List.getElem?_eq_getElem hi, e]))) this
  | some i =>
    refine ⟨i, rfl, ?_, ?_⟩
    · unfold fnd at h
      have := List.find?_some h
      exact at_one.mp ((at_iff o [b] o.length i).mpr this)
    · intro k hk q
      have hkl : k < o.length := (List.getElem?_eq_some_iff.mp q).1
      unfold fnd at h
      obtain ⟨hp, as, bs, e, hn⟩ := List.find?_eq_some_iff_append.mp h
      have hlen : as.length = i := by
        have h1 : (List.range' 0 (o.length + 1 - 0))[as.length]? = some i := by rw [e]; simp
        rw [List.getElem?_range'] at h1
        · simpa using h1
        · have := congrArg List.length e
          simp at this
          omega
      have hk2 : k ∈ as := by
        have h1 : (List.range' 0 (o.length + 1 - 0))[k]? = some k := by rw [List.getElem?_range' (by omega)]; simp
        rw [e, List.getElem?_append_left (by omega)] at h1
        exact List.mem_of_getElem? h1
      have := hn k hk2
      rw [(at_iff o [b] o.length k).mp (at_one.mpr q)] at this
      exact absurd this (by decide)
theorem rfind_one {o : List Nat} {a : Nat} (ha : a ∈ o) : ∃ j : Nat, Txt.rfind (tx o) (tx [a]) = (j : Int) ∧ o[j]? = some a ∧ ∀ k, j < k → o[k]? ≠ some a := by
  unfold Txt.rfind
  rcases last_spec (tx o) (tx [a]) with ⟨h, hn⟩ | ⟨j, h, hj, hn⟩
  · obtain ⟨i, hi, e⟩ := List.mem_iff_getElem.mp ha
    exact absurd (at_one.mpr (by rw [List.getElem?_eq_getElem hi, e])) (by rw [← tx_len o]; exact hn i)
  · rw [h]
    rw [tx_len] at hj
    refine ⟨j, rfl, at_one.mp hj, fun k hk q => hn k hk ?_⟩
    rw [tx_len]
    exact at_one.mpr q
theorem befo_txt {o : List Nat} {b a : Nat} (hb : b ∈ o) (ha : a ∈ o) (hab : ¬ a = b) : decide (Txt.find (tx o) (tx [b]) < Txt.rfind (tx o) (tx [a])) = befo o b a := by
  obtain ⟨i, ei, hi, hik⟩ := find_one hb
  obtain ⟨j, ej, hj, hjk⟩ := rfind_one ha
  have hne : i ≠ j := fun q => by rw [q, hj] at hi; exact hab (Option.some.inj hi)
  unfold befo
  rw [ei, ej, dw_drop hi hik, Bool.eq_iff_iff, decide_eq_true_eq, List.contains_iff_mem]
  constructor
  · intro h
    refine List.mem_of_getElem? (i := j - i) ?_
    rw [List.getElem?_drop, show i + (j - i) = j by omega]
    exact hj
  · intro h
    obtain ⟨k, hk⟩ := List.mem_iff_getElem?.mp h
    rw [List.getElem?_drop] at hk
    have : ¬ j < i + k := fun q => hjk _ q hk
    omega
theorem pair_law {rs : List Nat} {r0 r1 r2 r3 r4 b a : Nat} (e : rs = [r0, r1, r2, r3, r4]) (hs : ∀ d ∈ rs, d ∈ sgn) (hb : b ∈ rs) (ha : a ∈ rs) (hab : tokv a < tokv b) {over : List Nat} (ho : ∀ c, c ∈ over ↔ c ∈ rs ∧ tokv b < tokv c) :
    befo (pileF [] [] rs) b a = (over.any fun c => takesG rs r0 r4 b [[c]] a) ∧
    befo (lineG [] [] rs) b a = ((over.any fun c => takesG rs r0 r4 c [[b]] a) || over.any fun c => (over.filter fun s => decide (tokv s < tokv c)).any fun s => takesG rs r0 r4 b [[c], [s]] a) ∧
    befo (handG r0 [r1, r2, r3, r4]) b a = ((over.any fun c => takesG rs r0 r4 b [[c]] a) || (over.any fun c => takesG rs r0 r4 c [[b]] a) || takesG rs r0 r4 b [[b]] a) := by
  let f := rk rs
  have hf : ∀ c d, c ∈ rs → d ∈ rs → (tokv c < tokv d ↔ f c < f d) := fun c d hc hd => rk_iff hc hd
  have hi : ∀ c d, c ∈ rs → d ∈ rs → f c = f d → c = d := fun c d hc hd h => rk_inj hs hc hd h
  have m0 : r0 ∈ rs := by rw [e]; simp
  have m1 : r1 ∈ rs := by rw [e]; simp
  have m2 : r2 ∈ rs := by rw [e]; simp
  have m3 : r3 ∈ rs := by rw [e]; simp
  have m4 : r4 ∈ rs := by rw [e]; simp
  have lt5 : ∀ {d}, d ∈ rs → f d < 5 := fun {d} hd => by
    have := rk_five hd
    have hl : rs.length = 5 := by rw [e]; rfl
    rw [hl] at this
    exact this
  have eq : rs.map f = [f r0, f r1, f r2, f r3, f r4] := by rw [e]; rfl
  have C := chk_five (lt5 m0) (lt5 m1) (lt5 m2) (lt5 m3) (lt5 m4)
  have hr : isRank [f r0, f r1, f r2, f r3, f r4] = true := eq ▸ rank_rk
  unfold chk at C
  dsimp only at C
  rw [hr, Bool.not_true, Bool.false_or, ← eq] at C
  have C1 := List.all_eq_true.mp (List.all_eq_true.mp C (f b) (List.mem_map_of_mem hb)) (f a) (List.mem_map_of_mem ha)
  rw [decide_eq_true ((hf a b ha hb).mp hab), Bool.not_true, Bool.false_or] at C1
  clear C
  unfold chk1 at C1
  dsimp only at C1
  have em : ∀ {x : Nat}, x ∈ rs → ∀ y ∈ [[x]], ∀ c ∈ y, c ∈ rs := fun hx y hy c hc => by
    rw [List.mem_singleton.mp hy] at hc
    exact List.mem_singleton.mp hc ▸ hx
  have em2 : ∀ {x z : Nat}, x ∈ rs → z ∈ rs → ∀ y ∈ [[x], [z]], ∀ c ∈ y, c ∈ rs := fun hx hz y hy c hc => by
    rcases List.mem_cons.mp hy with rfl | hy
    · exact List.mem_singleton.mp hc ▸ hx
    · rw [List.mem_singleton.mp hy] at hc
      exact List.mem_singleton.mp hc ▸ hz
  have tk3 : ∀ {x y z : Nat}, x ∈ rs → y ∈ rs → z ∈ rs → takesG (rs.map f) (f r0) (f r4) (f x) [[f y]] (f z) = takesG rs r0 r4 x [[y]] z := fun hx hy hz =>
    takes_nat (P := (· ∈ rs)) (fun x y hx hy => hi x y hx hy) (fun _ h => h) m0 m4 hx hz (em hy)
  have tk4 : ∀ {x y u z : Nat}, x ∈ rs → y ∈ rs → u ∈ rs → z ∈ rs → takesG (rs.map f) (f r0) (f r4) (f x) [[f y], [f u]] (f z) = takesG rs r0 r4 x [[y], [u]] z := fun hx hy hu hz =>
    takes_nat (P := (· ∈ rs)) (fun x y hx hy => hi x y hx hy) (fun _ h => h) m0 m4 hx hz (em2 hy hu)
  have anyo : ∀ {p q : Nat → Bool}, (∀ c ∈ rs, tokv b < tokv c → p c = q (f c)) → (over.any p) = (((rs.map f).filter fun c => decide (f b < c)).any q) := fun {p q} h => by
    rw [Bool.eq_iff_iff, List.any_eq_true, List.any_eq_true]
    constructor
    · rintro ⟨c, hc, hp⟩
      obtain ⟨h1, h2⟩ := (ho c).mp hc
      exact ⟨f c, List.mem_filter.mpr ⟨List.mem_map_of_mem h1, decide_eq_true ((hf b c hb h1).mp h2)⟩, h c h1 h2 ▸ hp⟩
    · rintro ⟨d, hd, hq⟩
      obtain ⟨h1, h2⟩ := List.mem_filter.mp hd
      obtain ⟨c, hc, rfl⟩ := List.mem_map.mp h1
      have h3 := (hf b c hb hc).mpr (of_decide_eq_true h2)
      exact ⟨c, (ho c).mpr ⟨hc, h3⟩, (h c hc h3).symm ▸ hq⟩
  have E1 : (over.any fun c => takesG rs r0 r4 b [[c]] a) = _ := anyo (q := fun c => takesG (rs.map f) (f r0) (f r4) (f b) [[c]] (f a)) fun c hc _ => (tk3 hb hc ha).symm
  have E2 : (over.any fun c => takesG rs r0 r4 c [[b]] a) = _ := anyo (q := fun c => takesG (rs.map f) (f r0) (f r4) c [[f b]] (f a)) fun c hc _ => (tk3 hc hb ha).symm
  have E3 : (over.any fun c => (over.filter fun s => decide (tokv s < tokv c)).any fun s => takesG rs r0 r4 b [[c], [s]] a) = _ :=
    anyo (q := fun c => ((((rs.map f).filter fun c => decide (f b < c)).filter fun s => decide (s < c)).any fun s => takesG (rs.map f) (f r0) (f r4) (f b) [[c], [s]] (f a))) fun c hc _ => by
      rw [List.any_filter, List.any_filter]
      refine anyo (q := fun s => decide (s < f c) && takesG (rs.map f) (f r0) (f r4) (f b) [[f c], [s]] (f a)) fun s hs _ => ?_
      rw [tk4 hb hc hs ha]
      exact congrArg (· && _) (decide_eq_decide.mpr (hf s c hs hc))
  have pm : (pileF [] [] rs).Perm rs := by simpa using pile_perm rs [] []
  have lm : (lineG [] [] rs).Perm rs := by simpa using line_perm rs [] []
  have hm : (handG r0 [r1, r2, r3, r4]).Perm rs := e ▸ hand_perm [r1, r2, r3, r4] r0
  have bf : ∀ {o : List Nat}, o.Perm rs → befo o b a = befo (o.map f) (f b) (f a) := fun p => befo_nat (fun x hx q => hi x b (p.mem_iff.mp hx) hb q) fun x hx q => hi x a (p.mem_iff.mp hx) ha q
  have pn : (pileF [] [] rs).map f = pileN [] [] (rs.map f) := pile_nat (P := (· ∈ rs)) hf rs [] [] (fun _ h => h) fun x hx => absurd hx List.not_mem_nil
  have ln : (lineG [] [] rs).map f = lineN [] [] (rs.map f) := line_nat (P := (· ∈ rs)) hf rs [] [] (fun _ h => h) fun x hx => absurd hx List.not_mem_nil
  have hn : (handG r0 [r1, r2, r3, r4]).map f = handN (f r0) [f r1, f r2, f r3, f r4] := hand_nat (P := (· ∈ rs)) hf [r1, r2, r3, r4] r0 (fun x hx => by rw [e]; exact .tail _ hx) m0
  rw [E1, E2, E3, ← tk3 hb hb ha, bf pm, bf lm, bf hm, pn, ln, hn]
  simp only [Bool.and_eq_true, beq_iff_eq] at C1
  exact ⟨C1.1.1, C1.1.2, C1.2⟩
end Mine
end

section
open PySem PySem.W PyProof.Rows PySem.Calls
set_option maxRecDepth 100000
namespace Mine
theorem words_b6 : True := by
  w_top off
  first | walk1 | skip
  k_with_none
  k_with "kmem" => (first | exact List.mem_cons_self | (refine List.mem_cons_of_mem _ ?_; k_mem) | assumption)
  trivial
variable {q9 : Program} {l9 : List Str}
theorem words_b6_a : True := by
  k_with "enterF" => (k_dflt (refine' code_defF ?k2 ?k3 ?k4 ?k5 ?k6 ?k7 ?k8 ?k9 ?w8kB ?_ ?w8c2 ?w8c3 ?w8c4 ?w8c5; (case k2 => k_asm); (case k3 => k_asm); (case k4 => k_asm); (case k5 => k_asm); (case k6 => k_is); (case k7 => k_is); (case k8 => ktr_room); (case k9 => exact BindsTo.of_eq rfl); (case w8c5 => decide); (case w8kB => exact locs rfl); (case w8c2 => exact rfl); (case w8c3 => exact rfl); (case w8c4 => exact rfl); k_whole; intro w8g' w8L' w8h' w8F' w8N' w8X' w8T'; (try dsimp only); (try k_fold)))
  k_with "go" => (repeat' (first | (fail_if_success (first | (with_reducible show wpAny _ _ (exec (Stmt.While _ _ _ _) _) _ _ _) | (with_reducible show wpAny _ _ (exec (Stmt.For _ _ _ _ _) _) _ _ _) | (with_reducible show wpAny _ _ (pyIter _) _ _ _) | (with_reducible show InvEndN _ _ _ _ _ _ _) | (with_reducible show KswEnd _ _ _ _ _ _ _ _ _ _ _ _))); first | (k_unfold; (try dsimp only)) | (k_end; wrow_close) | walk1 | (dsimp only; walk1) | (leave1; walk_say "STEP leave1"; try dsimp only) | fail "no step"))
  k_with "conArgs" => (((case k2 => k_asm); (case k3 => k_asm); (case k4 => k_asm); (case k5 => k_asm); (case k6 => first | trivial | assumption); (case k7 => ktr_room); (case k8 => ktr_units)))
  k_with "forV" => (((rename Fr _ _ _ _ => w8lF'); (with_unfolding_all refine' For_invVF w8lF' ?w8k1 ?k2 ?_; (case w8k1 => exact rfl); (case k2 => exact rfl)); (try k_fold)))
  trivial

set_option maxHeartbeats 40000000
theorem words_b6_b : True := by
  k_with "call type:str" => ((k_here; (rename Got _ _ _ _ _ => gX); (obtain ⟨w8oe', w8ot', w8ws', w8nt', gm1, gm2, gc1, gd1, gz1, gc2, gd2⟩ := id gX); k_dflt (refine' str_own ?w8u ?w8X (News.get (by assumption) gm1) gc1 gd1 gz1 ⟨w8ot', w8nt', News.get (by assumption) gm2, gc2, gd2⟩ ?w8hs ?w8hf ?_; (case w8X => k_in); (case w8u => ktr_units); (case w8hs => k_is); (case w8hf => k_is); k_whole)))
  trivial

theorem floor_told {w : World} {t : Tok} {mean : ExcName → Option Value} {mg mb : Str → Option Value} {dp un : Nat} {gd : Option (List Code)} {outer : List Env} {cn : Str} {cs : Scope} {a : Addr} {ccd : Value} {base g : Heap} {L : Addr} {m : Str → Option Value} {news : List (Addr × Obj)} {s : Shared} {Q E : Value → Shared → Prop}
    (B : Below (anyTop dp un gd (some outer)) base outer g) (F : Fr g L s.heap m) (X : (K9 w.params).In g) (N : News g L s.heap news) (T : Top q9 l9 mean mg mb g)
    (XB : (K9 w.params).In base) (TB : Top q9 l9 mean mg mb base) (D : KtsDicts (outer.filterMap (·.frame)) g) (hck : cs.kind = .function)
    (hdp : dp + 4 < recursionLimit) (hun : un + 60 < cLine)
    (hret : ∀ g' h' tk', KtsTurn (outer.filterMap (·.frame)) g g' → Fr g' L h' m → News g' L h' news → Below (anyTop dp un gd (some outer)) base outer g' → (K9 w.params).In g' → Top q9 l9 mean mg mb g' →
      KtsDicts (outer.filterMap (·.frame)) g' → Q .none { s with heap := h', toks := tk' }) :
    wpAny (model Challenge.rw_ux0019_01.row.prog w) ((anyTop dp un gd (some outer)).deeper (envOf cn cs L a ccd)) (call (.ref 77) [.str (Str.ofString "250 up ") t]) Q E s := by
  refine wpAny_call ?_
  k_dflt (refine' code_defS (g₀ := g) ?k1 ?k2 ?k3 ?k4 ?k5 ?XB ?TB ?D ?T0 ?kA ?k6 ?k7 ?k8 ?k9 ?kB ?_ ?cK ?c2 ?c3 ?c4 ?c5)
  case kA => exact rfl
  case k1 => exact B
  case k2 => exact F
  case k3 => exact X
  case k4 => exact N
  case k5 => exact T
  case XB => exact XB
  case TB => exact TB
  case D => exact D
  case T0 => exact KtsTurn.refl
  case k6 => k_is
  case k7 => k_is
  case k8 => ktr_room
  case k9 => exact BindsTo.of_eq rfl
  case kB => exact locs rfl
  case cK => exact hck
  case c2 => exact rfl
  case c3 => exact rfl
  case c4 => exact rfl
  case c5 => decide
  intro g' L' h' FG' F' N' B' X' T' D'
  (try dsimp only); (try k_fold)
  walk_at "go"

  exact hret _ _ _ (by assumption) (by assumption) (by assumption) (by assumption) (by assumption) (by assumption) (by assumption)
end Mine
end

section
open PySem PySem.W PyProof.Rows PySem.Calls
set_option maxRecDepth 100000
namespace Mine
variable {q9 : Program} {l9 : List Str}
theorem lit_str_floor (t : Tok) : (Value.str (tx (encp [])) t) = .str (Str.ofString "250 up ") t := by rw [encp_floor.mpr rfl]
theorem told_any {w : World} {t : Tok} {st : List (Nat × List Nat)} (hst : ∀ p ∈ st, p.1 ∈ sgn ∧ endOk p.2) (hsl : st.length ≤ 5) {mean : ExcName → Option Value} {mg mb : Str → Option Value} {dp un : Nat} {gd : Option (List Code)} {outer : List Env} {cn : Str} {cs : Scope} {a : Addr} {ccd : Value} {base g : Heap} {L : Addr} {m : Str → Option Value} {news : List (Addr × Obj)} {s : Shared} {Q E : Value → Shared → Prop}
    (B : Below (anyTop dp un gd (some outer)) base outer g) (F : Fr g L s.heap m) (X : (K9 w.params).In g) (N : News g L s.heap news) (T : Top q9 l9 mean mg mb g)
    (XB : (K9 w.params).In base) (TB : Top q9 l9 mean mg mb base) (D : KtsDicts (outer.filterMap (·.frame)) g) (hck : cs.kind = .function)
    (hdp : dp + 4 < recursionLimit) (hun : un + 60 < cLine)
    (hret : ∀ v g' h' tk', ToldV st v → KtsTurn (outer.filterMap (·.frame)) g g' → Fr g' L h' m → News g' L h' news → Below (anyTop dp un gd (some outer)) base outer g' → (K9 w.params).In g' → Top q9 l9 mean mg mb g' →
      KtsDicts (outer.filterMap (·.frame)) g' → Q v { s with heap := h', toks := tk' }) :
    wpAny (model Challenge.rw_ux0019_01.row.prog w) ((anyTop dp un gd (some outer)).deeper (envOf cn cs L a ccd)) (call (.ref 77) [.str (tx (encp st)) t]) Q E s := by
  cases st with
  | nil =>
    rw [lit_str_floor]
    exact floor_told B F X N T XB TB D hck hdp hun fun g' h' tk' => hret _ g' h' tk' rfl
  | cons p st =>
    obtain ⟨c, e⟩ := p
    have hc := (hst (c, e) (.head _)).1
    have he := (hst (c, e) (.head _)).2
    have hle : (tx (encp ((c, e) :: st))).length ≤ 600 := by rw [tx_len]; exact encp_le (fun p hp => (hst p hp).2) hsl
    have C := con_told (con_parse w (tx (encp ((c, e) :: st))) t (by omega) encp_257 encp_sq (by rw [tx_len]; simp [encp]))
    rw [encp_pq hc he] at C
    refine con_use C F X N T trivial (by ktr_room) (by ktr_units) fun v h' tk' hv F' N' => ?_
    obtain ⟨t', rfl⟩ := hv
    exact hret _ g h' tk' ⟨_, rfl⟩ KtsTurn.refl F' N' B X T D
end Mine
end

section
open PySem PySem.W PyProof.Rows PySem.Calls PySem.Builtin
set_option maxRecDepth 100000
namespace Mine
theorem words_b8 : True := by
  w_top off
  first | walk1 | skip
  k_with_none
  k_with "kmem" => (first | exact List.mem_cons_self | (refine List.mem_cons_of_mem _ ?_; k_mem) | assumption)
  trivial
variable {q9 : Program} {l9 : List Str}
theorem words_b8_a : True := by
  k_with "go" => (repeat' (first | (fail_if_success (first | (with_reducible show wpAny _ _ (exec (Stmt.While _ _ _ _) _) _ _ _) | (with_reducible show wpAny _ _ (exec (Stmt.For _ _ _ _ _) _) _ _ _) | (with_reducible show wpAny _ _ (pyIter _) _ _ _) | (with_reducible show FgAt _ _ _ _ _ _ _ _ _ _ _ _) | (with_reducible show FgPost _ _ _ _ _ _ _ _) | (with_reducible show WgPost _ _ _ _ _ _)));  first | ((with_reducible show wpAny _ _ (execs (_ :: _) _) _ _ _); (with_reducible refine execs_hid ?_); intro w8Q9' w8nx9') | ((fail_if_success (with_reducible show wpAny _ _ _ _ _ _)); first | (with_reducible refine Nx.nil (by assumption) ?_) | (with_reducible refine Nx.next (by assumption) ?_) | (with_reducible refine Nx.ret (by assumption) ?_) | (with_reducible refine Nx.brk (by assumption) ?_) | (with_reducible refine Nx.cont (by assumption) ?_) | ((with_reducible refine Hid.use (by assumption) ?_); (try dsimp only))) | (k_unfold; (try dsimp only)) | (k_end; wrow_close) | walk1 | (dsimp only; walk1) | (leave1; walk_say "STEP leave1"; try dsimp only) | fail "no step"))
  k_with "goI" => (repeat' (first | (fail_if_success (first | (with_reducible show wpAny _ _ (exec (Stmt.While _ _ _ _) _) _ _ _) | (with_reducible show wpAny _ _ (exec (Stmt.For _ _ _ _ _) _) _ _ _) | (with_reducible show wpAny _ _ (pyIter _) _ _ _) | (with_reducible show FgAt _ _ _ _ _ _ _ _ _ _ _ _) | (with_reducible show FgPost _ _ _ _ _ _ _ _) | (with_reducible show WgPost _ _ _ _ _ _) | (with_reducible show wpAny _ _ (exec (Stmt.If _ _ _ _) _) _ _ _)));  first | ((with_reducible show wpAny _ _ (execs (_ :: _) _) _ _ _); (with_reducible refine execs_hid ?_); intro w8Q9' w8nx9') | ((fail_if_success (with_reducible show wpAny _ _ _ _ _ _)); first | (with_reducible refine Nx.nil (by assumption) ?_) | (with_reducible refine Nx.next (by assumption) ?_) | (with_reducible refine Nx.ret (by assumption) ?_) | (with_reducible refine Nx.brk (by assumption) ?_) | (with_reducible refine Nx.cont (by assumption) ?_) | ((with_reducible refine Hid.use (by assumption) ?_); (try dsimp only))) | (k_unfold; (try dsimp only)) | (k_end; wrow_close) | walk1 | (dsimp only; walk1) | (leave1; walk_say "STEP leave1"; try dsimp only) | fail "no step"))
  k_with "goT" => (repeat' (first | (fail_if_success (first | (with_reducible show wpAny _ _ (exec (Stmt.While _ _ _ _) _) _ _ _) | (with_reducible show wpAny _ _ (exec (Stmt.For _ _ _ _ _) _) _ _ _) | (with_reducible show wpAny _ _ (pyIter _) _ _ _) | (with_reducible show FgAt _ _ _ _ _ _ _ _ _ _ _ _) | (with_reducible show FgPost _ _ _ _ _ _ _ _) | (with_reducible show WgPost _ _ _ _ _ _)));  first | ((with_reducible show wpAny _ _ (execs (_ :: _) _) _ _ _); (with_reducible refine execs_hid ?_); intro w8Q9' w8nx9') | ((fail_if_success (with_reducible show wpAny _ _ _ _ _ _)); first | (with_reducible refine Nx.ret (by assumption) ?_) | (with_reducible refine Nx.brk (by assumption) ?_) | (with_reducible refine Nx.cont (by assumption) ?_) | ((with_reducible refine Hid.use (by assumption) ?_); (try dsimp only))) | (k_unfold; (try dsimp only)) | (k_end; wrow_close) | walk1 | (dsimp only; walk1) | (leave1; walk_say "STEP leave1"; try dsimp only) | fail "no step"))
  k_with "conArgs" => (((case k2 => k_asm); (case k3 => k_asm); (case k4 => k_asm); (case k5 => k_asm); (case k6 => first | trivial | assumption); (case k7 => first | assumption | ktr_room); (case k8 => first | assumption | ktr_units)))
  trivial

set_option maxHeartbeats 40000000
section
variable (q9) (l9)
variable (w : World) (mean : ExcName → Option Value) (mg mb : Str → Option Value) (dp un : Nat) (gd : Option (List Code)) (envL : Env) (base g₀ : Heap) (Lp I : Addr) (news : List (Addr × Obj)) (rs : List Nat) (t0 : Tok) (R : Addr)
structure PGr (g : Heap) : Prop where
  turn : KtsTurn ([envL].filterMap (·.frame)) g₀ g
  below : Below (anyTop dp un gd (some [envL])) base [envL] g
  inn : (K9 w.params).In g
  top : Top q9 l9 mean mg mb g
  dicts : KtsDicts ([envL].filterMap (·.frame)) g
def pn (st : List (Nat × List Nat)) (o : List Nat) (t2 t3 t4 : Tok) : List (Str × Value) :=
  [(Str.ofString "row", .str (tx rs) t0), (Str.ofString "ends", .ref R), (Str.ofString "floor", .str (Str.ofString "250 up ") t2), (Str.ofString "reply", .str (tx (encp st)) t3), (Str.ofString "out", .str (tx o) t4)]
structure PP (i : Nat) (st : List (Nat × List Nat)) (o : List Nat) : Prop where
  mem : ∀ p ∈ st, p.1 ∈ sgn ∧ endOk p.2
  len : o.length + st.length ≤ i
  len5 : o.length + st.length ≤ 5
  row : pileF (st.map (·.1)) o (rs.drop i) = pileF [] [] rs
inductive PJ (i : Nat) (h : Heap) : Prop
  | mk (g : Heap) (st : List (Nat × List Nat)) (o : List Nat) (m : Str → Option Value) (t2 t3 t4 : Tok) (G : PGr q9 l9 w mean mg mb dp un gd envL base g₀ g) (F : Fr g Lp h m) (N : News g Lp h news) (hm : ∀ p ∈ pn rs t0 R st o t2 t3 t4, m p.1 = some p.2) (P : PP rs i st o)
    (h6 : i = 6 → st = [] ∧ m (Str.ofString "name") = some .none) (hg : g.get? I = none) (hL : Lp ≠ I)
inductive PW (i : Nat) (t5 : Tok) (n : Nat) (h : Heap) : Prop
  | mk (g : Heap) (st : List (Nat × List Nat)) (o : List Nat) (m : Str → Option Value) (t2 t3 t4 : Tok) (v : Value) (G : PGr q9 l9 w mean mg mb dp un gd envL base g₀ g) (F : Fr g Lp h m) (N : News g Lp h ((I, riObj 6 (i + 1)) :: news))
    (hm : ∀ p ∈ (Str.ofString "k", Value.int (i : Int) t5) :: (Str.ofString "name", v) :: pn rs t0 R st o t2 t3 t4, m p.1 = some p.2) (P : PP rs i st o) (hv : ToldV st v) (hn : n = st.length)
end
section
variable {w : World} {mean : ExcName → Option Value} {mg mb : Str → Option Value} {dp un : Nat} {gd : Option (List Code)} {envL : Env} {base g₀ : Heap} {Lp I : Addr} {news : List (Addr × Obj)} {rs : List Nat} {t0 : Tok} {R : Addr}
theorem get_none {g : Heap} {I : Addr} (h : g.objs.size ≤ I) : g.get? I = none := by
  cases q : g.get? I with
  | none => rfl
  | some o => exact absurd (Heap.lt_size q) (Nat.not_lt.mpr h)
theorem fr_names {g : Heap} {h : Heap} {m : Str → Option Value} {ps : List (Str × Value)} (hp : ∀ p ∈ ps, m p.1 = some p.2) (F : Fr g Lp h m) : Fr g Lp h (kstB m ps) := by
  have : kstB m ps = m := funext fun z => kstB_eq hp fun _ => rfl
  rw [this]; exact F
theorem fr_ne {g h : Heap} {m : Str → Option Value} (hg : g.get? I = none) (hL : Lp ≠ I) {h' : Heap} (hk : ∀ b o, b ≠ I → h.get? b = some o → h'.get? b = some o) (F : Fr g Lp h m) : Fr g Lp h' m := by
  obtain ⟨oL, es, ep, e, hd, hk', hf⟩ := F.ns
  exact ⟨⟨oL, es, ep, hk _ _ hL e, hd, hk', hf⟩, fun b o e => hk _ _ (fun q => by rw [q, hg] at e; cases e) (F.keep b o e), F.above⟩
theorem pj_stays {i : Nat} {h h' : Heap} (J : PJ q9 l9 w mean mg mb dp un gd envL base g₀ Lp I news rs t0 R i h) (hk : ∀ b o, b ≠ I → h.get? b = some o → h'.get? b = some o) (hI : ∀ p ∈ news, p.1 ≠ I) :
    PJ q9 l9 w mean mg mb dp un gd envL base g₀ Lp I news rs t0 R i h' := by
  cases J with
  | mk g st o m t2 t3 t4 G F N hm P h6 hg hL => exact .mk g st o m t2 t3 t4 G (fr_ne hg hL hk F) (fun p hp => ⟨hk _ _ (hI p hp) (N p hp).1, (N p hp).2⟩) hm P h6 hg hL
end
section
variable {prog : Program} {w : World} {A : Around} {E : Value → Shared → Prop} {s : Shared} {env : Env} {Q : Flow → Shared → Prop}
theorem While_H {test : Expr} {body : List Stmt} {pos : Pos} (J : Nat → Heap → Prop) {n₀ : Nat} (h0 : J n₀ s.heap)
    (turn : ∀ n h tk Q', Hid (WgPost s J Q n) Q' → J n h → wpAny (model prog w) A (isTrue test env (eval test env)) (fun b s₂ =>
      if b = true then wpAny (model prog w) A (execs body env) Q' E s₂ else Q .next s₂) E { s with heap := h, toks := tk })
    (hE : PassesOwn (model prog w) A env E := by passes_own) :
    wpAny (model prog w) A (exec (.While test body [] pos) env) Q E s :=
  While_G J h0 (fun n h tk hJ => turn n h tk _ ⟨fun _ _ x => x⟩ hJ) hE
theorem FgAt.mk' {x : Str} {body : List Stmt} {n : Nat} {r : Addr} {h₁ : Heap} {tk₁ : Nat} {t u v : Tok} (J : Nat → Heap → Prop) (hr : IsRange h₁ r 0 (n : Int) 1 t u v)
    (hs : ∀ i h h', J i h → (∀ b o, b ≠ h₁.objs.size → h.get? b = some o → h'.get? b = some o) → J i h') (h0 : J 0 (h₁.push (riObj n 0)))
    (step : ∀ i h tk t Q', Hid (FgPost s h₁.objs.size n J Q i) Q' → i < n → J i h → h.get? h₁.objs.size = some (riObj n (i + 1)) →
      wpAny (model prog w) A (bindName env x (.int (i : Int) t)) (fun _ s₂ => wpAny (model prog w) A (execs body env) Q' E s₂) E { s with heap := h, toks := tk })
    (done : ∀ h tk, J n h → Q .next { s with heap := h, toks := tk }) : FgAt prog w A env x body Q E n s (.ref r) { s with heap := h₁, toks := tk₁ } :=
  ⟨r, t, u, v, J, rfl, hr, ⟨_, _, rfl⟩, hs, h0, fun i h tk t hi hJ hI => step i h tk t _ ⟨fun _ _ x => x⟩ hi hJ hI, done⟩
end
theorem told_P {w : World} {t : Tok} {y : Str} {st : List (Nat × List Nat)} (he : y = tx (encp st)) (hst : ∀ p ∈ st, p.1 ∈ sgn ∧ endOk p.2) (hsl : st.length ≤ 5) {mean : ExcName → Option Value} {mg mb : Str → Option Value} {dp un : Nat} {gd : Option (List Code)} {envL : Env} {cn : Str} {cs : Scope} {a : Addr} {ccd : Value} {base g₀ g : Heap} {L : Addr} {m : Str → Option Value} {news : List (Addr × Obj)} {s : Shared} {Q E : Value → Shared → Prop}
    (G : PGr q9 l9 w mean mg mb dp un gd envL base g₀ g) (F : Fr g L s.heap m) (N : News g L s.heap news)
    (XB : (K9 w.params).In base) (TB : Top q9 l9 mean mg mb base) (hck : cs.kind = .function)
    (hdp : dp + 4 < recursionLimit) (hun : un + 60 < cLine)
    (hret : ∀ v g' h' tk', ToldV st v → PGr q9 l9 w mean mg mb dp un gd envL base g₀ g' → (K9 w.params).In g' → Top q9 l9 mean mg mb g' → Fr g' L h' m → News g' L h' news → Q v { s with heap := h', toks := tk' }) :
    wpAny (model Challenge.rw_ux0019_01.row.prog w) ((anyTop dp un gd (some [envL])).deeper (envOf cn cs L a ccd)) (call (.ref 77) [.str y t]) Q E s := by
  subst he
  exact told_any hst hsl G.below F G.inn N G.top XB TB G.dicts hck hdp hun fun v g' h' tk' hv kT F' N' B' X' P' D' => hret v g' h' tk' hv ⟨G.turn.trans kT, B', X', P', D'⟩ X' P' F' N'
theorem dbl_tx_len (l : List Nat) : (tx (StrLaws.dbl 34 l)).length ≤ 2 * l.length := by rw [tx_len]; exact dbl_len l
section
variable {prog : Program} {w : World} {A : Around} {E : Value → Shared → Prop} {s : Shared} {h₀ : Heap} {L : Addr} {m : Str → Option Value}
theorem add_pos {y : Str} {c : Nat} {t u : Tok} {Q : Value → Shared → Prop} (hy : y = ⟨#[c]⟩)
    (h : ∀ t' tk, tk ≠ 0 → (Str.ofString "257 \"" ++ y).length ≤ 6 → Q (.str (Str.ofString "257 \"" ++ y) t') { s with toks := tk }) : wpAny (model prog w) A (binaryOp .Add (.str (Str.ofString "257 \"") t) (.str y u)) Q E s := by
  subst hy
  refine P.add_str ?_
  rw [show ((Str.ofString "257 \"").length == 0) = false from by decide +kernel, show ((⟨#[c]⟩ : Str).length == 0) = false from rfl]
  simp only [Bool.false_eq_true, if_false]
  have hl : (Str.ofString "257 \"" ++ (⟨#[c]⟩ : Str)).length ≤ 6 := by rw [Str.length_append, show (Str.ofString "257 \"").length = 5 from by decide +kernel]; exact Nat.le_refl 6
  exact ⟨by rw [sizeLine_eq]; omega, h _ _ (Nat.succ_ne_zero _) hl⟩
theorem truthy_cons {c : Nat} {l : List Nat} {t : Tok} {Q : Bool → Shared → Prop} (hl : l.length ≤ 1000) (h : ∀ k, Q true { s with toks := k }) : wpAny (model prog w) A (PySem.truthy (.str (tx (c :: l)) t)) Q E s :=
  KXt.truthy_pos (K := 1001) (by rw [tx_len]; simp) (by rw [tx_len]; simp only [List.length_cons]; omega) (by decide) h
theorem call_repl {l : List Nat} {t u v : Tok} {Q : Value → Shared → Prop} (hu : u ≠ 0) (hv : v = u + 1) (hl : l.length ≤ 600)
    (hq : ∀ t' k, (tx (StrLaws.dbl 34 l)).length ≤ 1200 → Q (.str (tx (StrLaws.dbl 34 l)) t') { s with toks := k }) :
    wpAny (model prog w) A (call (.builtin "str.replace") [.str (tx l) t, .str (Str.ofString "\"") u, .str (Str.ofString "\"\"") v]) Q E s := by
  have e : Txt.replace (tx l) (Str.ofString "\"") (Str.ofString "\"\"") = tx (StrLaws.dbl 34 l) :=
    replace_dbl (tx l) _ _ 34 (by decide +kernel) (by decide +kernel)
  subst hv
  refine SC.replaceW hu (Nat.succ_ne_zero _) (Nat.ne_of_lt (Nat.lt_succ_self _)) (by decide +kernel) (by rw [tx_len]; omega) (by decide +kernel) fun t' k => ?_
  rw [e]
  exact hq t' k (by have := dbl_tx_len l; omega)
theorem sub_ends {value slice : Expr} {D : Addr} {v : Value} {vs : List Value} {n : Nat} {k : Nat} {u : Tok} {led : List (Addr × Obj)} {Q : Value → Shared → Prop} (N : News h₀ L s.heap led) (hm : (D, listOf vs.toArray n) ∈ led) (hv : vs[k]? = some v) (hk : k < 1000) (h : Q v s)
    (hs : subscripted slice false (.ref D) (.int (k : Int) u) = operate [.ref D, .int (k : Int) u] (getItem (.ref D) (.int (k : Int) u)) := by with_unfolding_all rfl) :
    wpAny (model prog w) A (subscriptTail value slice (.ref D) (.int (k : Int) u)) Q E s :=
  have hl : s.heap.IsList D vs.toArray := News.isList N hm
  tail_any hl.typeIs slot_list_getitem.lookup (wpAny_getItem_list hl (by omega) (by omega) (by simpa using hv) h) hs
end
theorem push_encp2 (c : Nat) (e : List Nat) (st : List (Nat × List Nat)) :
    Str.ofString "257 \"" ++ (⟨#[c]⟩ : Str) ++ tx (StrLaws.dbl 34 (encp st)) ++ tx e = tx (encp ((c, e) :: st)) := by
  rw [lit_257q]
  refine str_ext ?_
  rw [app_cps, app_cps, app_cps]
  simp [encp]
theorem words_b8_b : True := by
  k_with "binaryOp Add str str" => ((k_here; (with_reducible show wpAny _ _ (binaryOp _ (Value.str (Str.ofString "257 \"") _) (Value.str _ _)) _ _ _); refine' add_pos (by assumption) ?_; intro w8t' w8tk' w8ht' w8hl'))
  k_with "truthy str" => ((k_here; (with_reducible show wpAny _ _ (PySem.truthy (Value.str (tx (_ :: _)) _)) _ _ _); refine' truthy_cons ?w8ha ?_; (case w8ha => omega); intro w8tk'))
  k_with "subscriptTail Name Name ref int" => ((k_here; refine' sub_ends ?w8ha ?w8hb ?w8hv ?w8hc ?_; (case w8ha => assumption); (case w8hb => exact List.mem_cons_of_mem _ (by assumption)); (case w8hv => assumption); (case w8hc => omega)))
  k_with "call builtin:str.replace" => ((k_here; refine' call_repl ?w8ha ?w8hb ?w8hc ?_; (case w8ha => assumption); (case w8hb => exact rfl); (case w8hc => assumption); intro w8t' w8tk' w8hl'))
  trivial

theorem told_item (c : Nat) (l : List Nat) : Txt.item (tx (c :: l)) 0 = ⟨#[c]⟩ := item_nat (k := 0) rfl rfl
theorem told_rest (c : Nat) (l : List Nat) : Txt.slice (tx (c :: l)) (some 1) none = tx l := sl_from (k := 1) rfl (by rw [tx_len]; simp)
theorem words_b8_c : True := by
  k_with "call ref" => ((k_here; k_dflt (refine' told_P ?w8he ?w8hst ?w8hsl ?w8kG ?w8kF ?w8kN ?w8XB ?w8TB ?w8hck ?w8hdp ?w8hun ?_; (case w8he => first | (with_reducible rfl) | assumption); (case w8hst => assumption); (case w8hsl => assumption); (case w8kG => assumption); (case w8kF => k_asm); (case w8kN => k_asm); (case w8XB => assumption); (case w8TB => assumption); (case w8hck => exact rfl); (case w8hdp => assumption); (case w8hun => assumption); k_whole; intro w8v' w8gn' w8hn' w8tkn' w8hv' w8kG' w8kX' w8kP' w8kF' w8kN'; (try dsimp only); (try k_fold))))
  trivial

theorem con_gap' {w : World} {x y : Str} {c d : Nat} (hx : x = ⟨#[c]⟩) (hy : y = ⟨#[d]⟩) (hc : c ∈ sgn) (hd' : d ∈ sgn) (t u : Tok) : Con 1 w 84 [.str x t, .str y u] (fun _ => True) (fun v => ∃ t, v = .int (tokv d - tokv c) t) := by
  subst hx hy; exact con_gap w c d hc hd' t u
theorem words_b8_d : True := by
  k_with "call ref" => ((k_here; k_dflt (refine' con_useT (con_gap' ?w8hx ?w8hy ?w8hc ?w8hd _ _) ?k2 ?k3 ?k4 ?k5 ?k6 ?k7 ?k8 ?_; (case w8hx => exact told_item _ _); (case w8hy => assumption); (case w8hc => assumption); (case w8hd => assumption); walk_at "conArgs"; k_whole; intro w8t' w8h' w8tk' w8F' w8N'; (try dsimp only); (try k_fold))))
  k_with "call ref" => ((k_here; k_dflt (refine' con_useE (con_isnonterminal _ _ _) ?k2 ?k3 ?k4 ?k5 ?k6 ?k7 ?k8 ?_;  walk_at "conArgs"; k_whole; intro w8h' w8tk' w8F' w8N'; (try dsimp only); (try k_fold))))
  trivial

theorem con_pile {w : World} {rs : List Nat} {t : Tok} {R : Addr} {vs : List Value} {nn : Nat} (hs : ∀ d ∈ rs, d ∈ sgn) (hl : rs.length = 5) (hv : ∀ i < 5, ∃ e t, vs[i]? = some (.str (tx e) t) ∧ endOk e)
    {mean : ExcName → Option Value} {mg mb : Str → Option Value} {dp un : Nat} {gd : Option (List Code)} {envL : Env} {A₀ : Around} {base h₀ : Heap} {L : Addr} {m : Str → Option Value} {news : List (Addr × Obj)} {s : Shared} {Q E : Value → Shared → Prop}
    (B : Below A₀ base [] h₀) (F : Fr h₀ L s.heap m) (X : (K9 w.params).In h₀) (N : News h₀ L s.heap news) (T : Top q9 l9 mean mg mb h₀)
    (XB : (K9 w.params).In base) (TB : Top q9 l9 mean mg mb base) (hf : envL.frame = some L) (hke : envL.scope.kind = .function)
    (hR : (R, listOf vs.toArray nn) ∈ news) (hdp : dp + 6 < recursionLimit) (hun : un + 80 < cLine)
    (hret : ∀ h' tk' t', Fr h₀ L h' m → News h₀ L h' news → Q (.str (tx (pileF [] [] rs)) t') { s with heap := h', toks := tk' }) :
    wpAny (model Challenge.rw_ux0019_01.row.prog w) (anyTop dp un gd (some [envL])) (call (.ref 98) [.str (tx rs) t, .ref R]) Q E s := by
  refine wpAny_call ?_
  k_dflt (refine' code_defP (A₀ := A₀) (base := base) (envL := envL) ?kB0 ?k2 ?k3 ?k4 ?k5 ?kA ?kf ?kke ?k6 ?k7 ?k8 ?k9 ?kB ?_ ?c2 ?c3 ?c4 ?c5)
  case kB0 => exact B
  case k2 => exact F
  case k3 => exact X
  case k4 => exact N
  case k5 => exact T
  case kA => exact rfl
  case kf => exact hf
  case kke => exact hke
  case k6 => k_is
  case k7 => k_is
  case k8 => ktr_room
  case k9 => exact BindsTo.of_eq rfl
  case kB => exact locs rfl
  case c2 => exact rfl
  case c3 => exact rfl
  case c4 => exact rfl
  case c5 => decide
  intro g' L' h' F' N' B' X' T' D'
  have hrl : (tx rs).length = 5 := by rw [tx_len, hl]
  (try dsimp only)
  refine hideF ?_
  intro Q8 hq8
  have hd4 : dp + 4 < recursionLimit := by omega
  have hu60 : un + 60 < cLine := by omega
  have hd2 : dp + 1 + 1 < recursionLimit := by omega
  have hu15 : un + 3 + 12 * 1 < cLine := by omega
  (try k_fold)
  walk_at "go"
  refine For_G rfl (n := 6) (by decide) (by decide) ?_
  walk_at "go"
  (rename IsRange _ _ _ _ _ _ _ _ => hrg)
  have e6 : ((tx rs).length : Int) + 1 = ((6 : Nat) : Int) := by rw [hrl]; rfl
  rw [e6] at hrg
  (rename Fr g' L' _ _ => lF'); (rename News g' L' _ _ => lN'); (rename Nx _ _ _ _ _ _ _ => nxF); (rename (Flow → Shared → Prop) => QF); (rename Heap => hR)
  have hIL : ∀ p ∈ news, p.1 ≠ hR.objs.size := fun p hp => Nat.ne_of_lt (Heap.lt_size (lN' p hp).1)
  refine FgAt.mk' (PJ q9 l9 w mean mg mb dp un gd envL base g' L' hR.objs.size news rs t R) hrg (fun i h h' J hk => pj_stays J hk hIL) ?init ?step ?done
  case init =>
    refine' .mk g' [] [] _ ?t2 ?t3 ?t4 ⟨KtsTurn.refl, B', X', T', D'⟩ (lF'.push _) (fun p hp => ⟨Heap.get?_push_of_some _ (lN' p hp).1, (lN' p hp).2⟩) ?hnm ⟨by simp, Nat.le_refl _, by simp, rfl⟩ (by simp) (get_none (Nat.le_trans lF'.above (Nat.le_of_lt lF'.ns.lt))) (Nat.ne_of_lt lF'.ns.lt)
    case hnm =>
      unfold pn
      rw [encp_floor.mpr rfl, show tx [] = Str.ofString "" from lit_nil.symm]
      kst_all
  case step =>
    clear lF' lN' hrg B' X' T' D'
    intro i h tk t5 Q7 hq7 hi6 J hIo
    obtain ⟨g, st, o, m₂, t2, t3, t4, G, F9, N9, hnm, P, h6, hgI, hLI⟩ := J
    clear h6
    replace F9 := fr_names hnm F9
    dsimp only [pn, kstB] at F9
    have N8 : News g L' h ((hR.objs.size, riObj 6 (i + 1)) :: news) := fun p hp => (List.mem_cons.mp hp).elim (fun e => by subst e; exact ⟨hIo, hLI.symm, hgI⟩) (N9 p)
    clear N9 hnm hgI hIo
    have hX := G.inn
    have hT := G.top
    have pm := P.mem
    have pl := P.len
    have pl5 := P.len5
    have hst5 : st.length ≤ 5 := Nat.le_trans (Nat.le_add_left _ _) pl5
    try k_fold
    walk_at "go"
    (rename Fr _ L' _ _ => lF'); (rename News _ L' _ _ => lN'); (rename Nx _ _ _ _ _ _ _ => nxW); (rename (Flow → Shared → Prop) => QW); (rename PGr _ _ _ _ _ _ _ _ _ _ _ _ _ => lG'); (rename ToldV _ _ => lV')
    have after : ∀ (g : Heap) (st : List (Nat × List Nat)) (o : List Nat) (m : Str → Option Value) (t2 t3 t4 : Tok) (v : Value) (h : Heap) (tk : Nat), PGr q9 l9 w mean mg mb dp un gd envL base g' g → Fr g L' h (kstB m ((Str.ofString "k", Value.int (i : Int) t5) :: (Str.ofString "name", v) :: pn rs t R st o t2 t3 t4)) →
        News g L' h ((hR.objs.size, riObj 6 (i + 1)) :: news) → (∀ p ∈ st, p.1 ∈ sgn ∧ endOk p.2) → o.length + st.length ≤ i → o.length + st.length ≤ 5 → (∀ d, rs.drop i = d :: rs.drop (i + 1) → pileF (d :: st.map (·.1)) o (rs.drop (i + 1)) = pileF [] [] rs) → (¬ i < 5 → st = [] ∧ v = .none ∧ pileF [] o (rs.drop i) = pileF [] [] rs) → QW .next { s with heap := h, toks := tk } := by
      try clear lF'
      try clear lN'
      try clear lG'
      try clear lV'
      try clear F9
      try clear N8
      try clear G
      try clear hX
      try clear hT
      try clear pm
      try clear pl
      try clear pl5
      try clear hst5
      try clear P
      intro g st o m t2 t3 t4 v h tk G F9 N8 pm pl pl5 hrow h5
      dsimp only [pn, kstB] at F9
      have hX := G.inn
      have hT := G.top
      refine Nx.next nxW ?_
      by_cases hi : i < 5
      · clear h5
        have hi' : i < rs.length := hl.symm ▸ hi
        have hse : Txt.item (tx rs) (i : Int) = ⟨#[rs[i]]⟩ := item_nat (k := i) rfl (List.getElem?_eq_getElem hi')
        have hrow' := hrow rs[i] (List.drop_eq_getElem_cons hi')
        have hsm : rs[i] ∈ sgn := hs _ (List.getElem_mem _)
        revert hse hrow' hsm
        generalize rs[i] = sg
        intro hit hrow' hsm
        clear hrow
        obtain ⟨ee, te, hve, hee⟩ := hv i hi
        have hel : (tx ee).length ≤ 4 := by rw [tx_len]; exact endOk_len hee
        have hll : (encp st).length ≤ 600 := encp_le (fun p hp => (pm p hp).2) (Nat.le_trans (Nat.le_add_left _ _) pl5)
        try k_fold
        walk_at "go"
        (rename Fr _ L' _ _ => lF'); (rename News _ L' _ _ => lN')
        exact fg_end (lN' _ (.head _)).1 (.mk _ ((sg, ee) :: st) o _ _ _ _ (by assumption) lF' (fun p hp => lN' p (.tail _ hp)) (by unfold pn; rw [← push_encp2, ← hit]; kst_all) ⟨fun p hp => (List.mem_cons.mp hp).elim (fun e => by rw [e]; exact ⟨hsm, hee⟩) (pm p), Nat.succ_le_succ pl, Nat.le_trans (Nat.succ_le_succ pl) hi, hrow'⟩ (fun h => absurd hi (by omega)) (lN' _ (.head _)).2.2 (lN' _ (.head _)).2.1.symm)
      · obtain ⟨rfl, rfl, hr5⟩ := h5 hi
        obtain rfl : i = 5 := Nat.le_antisymm (Nat.le_of_lt_succ hi6) (Nat.le_of_not_lt hi)
        try k_fold
        walk_at "go"
        (rename Fr _ L' _ _ => lF'); (rename News _ L' _ _ => lN')
        exact fg_end (lN' _ (.head _)).1 (.mk _ [] o _ _ _ _ (by assumption) lF' (fun p hp => lN' p (.tail _ hp)) (by unfold pn; kst_all) ⟨pm, Nat.le_succ_of_le pl, pl5, (by rw [List.drop_eq_nil_of_le (Nat.le_succ_of_le (Nat.le_of_eq hl))]; rw [List.drop_eq_nil_of_le (Nat.le_of_eq hl)] at hr5; exact hr5)⟩ (fun _ => ⟨rfl, (by with_unfolding_all rfl)⟩) (lN' _ (.head _)).2.2 (lN' _ (.head _)).2.1.symm)
    refine While_H (J := PW q9 l9 w mean mg mb dp un gd envL base g' L' hR.objs.size news rs t R i t5) (n₀ := st.length) (.mk _ st o _ _ _ _ _ lG' lF' lN' (by unfold pn; kst_all) P lV' rfl) ?_
    try clear lF'
    try clear lN'
    try clear lG'
    try clear lV'
    try clear F9
    try clear N8
    try clear G
    try clear hX
    try clear hT
    try clear pm
    try clear pl
    try clear pl5
    try clear hst5
    try clear P
    intro n h tk Q6 hq6 J
    obtain ⟨g, st, o, m₂, t2, t3, t4, v, G, F9, N9, hnm, P, hv8, hn⟩ := J
    replace F9 := fr_names hnm F9
    clear hnm
    have hX := G.inn
    have hT := G.top
    have hlo : (tx o).length ≤ 5 := by rw [tx_len]; exact Nat.le_trans (Nat.le_add_right _ _) P.len5
    rcases st with _ | ⟨⟨c, ec⟩, st⟩
    · obtain rfl : v = .none := hv8
      have F8 := F9
      dsimp only [pn, kstB] at F8
      clear F9
      try k_fold
      walk_at "goT"
      exact after _ [] o _ _ _ _ _ _ _ G (by assumption) (by assumption) P.mem P.len P.len5 (fun d hd => by rw [← P.row, hd]; exact (pile_push0 _ _ _).symm) (fun hi => ⟨rfl, rfl, P.row⟩)
    · obtain ⟨tv, rfl⟩ := hv8
      dsimp only [pn, kstB] at F9
      have hst4 : st.length ≤ 4 := Nat.le_of_succ_le_succ (Nat.le_trans (Nat.le_add_left _ _) P.len5)
      have hst5 : st.length ≤ 5 := Nat.le_succ_of_le hst4
      have pm4 : ∀ p ∈ st, p.1 ∈ sgn ∧ endOk p.2 := fun p hp => P.mem p (.tail _ hp)
      have hll4 : (encp st).length ≤ 600 := encp_le (fun p hp => (pm4 p hp).2) hst5
      have hcs : c ∈ sgn := (P.mem _ (.head _)).1
      have hrest := told_rest c (encp st)
      have hitem : tx [c] = Txt.item (tx (c :: encp st)) 0 := (told_item c (encp st)).symm
      have hlen : o.length + (st.length + 1) ≤ 5 := P.len5
      have hleni : o.length + (st.length + 1) ≤ i := P.len
      try k_fold
      walk_at "goI"
      (rename Nx _ _ _ _ _ _ _ => nxI); (rename (Flow → Shared → Prop) => QI)
      have tail : ∀ h tk, pileF (st.map (·.1)) (o ++ [c]) (rs.drop i) = pileF [] [] rs → Fr g L' h (kstB m₂ ((Str.ofString "k", Value.int (i : Int) t5) :: (Str.ofString "name", .str (tx (c :: encp st)) tv) :: pn rs t R ((c, ec) :: st) o t2 t3 t4)) → News g L' h ((hR.objs.size, riObj 6 (i + 1)) :: news) → QI .next { s with heap := h, toks := tk } := by
        try clear F9
        try clear N9
        try clear after
        intro h tk hrow F9 N9
        dsimp only [pn, kstB] at F9
        refine Nx.next nxI ?_
        try k_fold
        walk_at "go"
        (rename Fr _ L' _ _ => lF'); (rename News _ L' _ _ => lN')
        exact wg_end (n' := st.length) (by rw [hn]; exact Nat.lt_succ_self _) (.mk _ st (o ++ [c]) _ _ _ _ _ (by assumption) lF' lN' (by unfold pn; rw [← tx_app, hitem, ← hrest]; kst_all) ⟨pm4, by rw [List.length_append, List.length_singleton, Nat.add_assoc, Nat.add_comm 1]; exact hleni, by rw [List.length_append, List.length_singleton, Nat.add_assoc, Nat.add_comm 1]; exact hlen, hrow⟩ (by assumption) rfl)
      by_cases hi : i < 5
      · have hi' : i < rs.length := hl.symm ▸ hi
        have hse : Txt.item (tx rs) (i : Int) = ⟨#[rs[i]]⟩ := item_nat (k := i) rfl (List.getElem?_eq_getElem hi')
        have hrd := List.drop_eq_getElem_cons hi'
        have hsm : rs[i] ∈ sgn := hs _ (List.getElem_mem _)
        revert hse hrd hsm
        generalize rs[i] = sg
        intro hit hrd hsm
        walk_at "goT"
        · have hlt : tokv c < tokv sg := by omega
          exact tail _ _ (by rw [hrd, ← P.row, hrd]; exact (pile_pop hlt _ _ _).symm) (by assumption) (by assumption)
        · have hlt : ¬ tokv c < tokv sg := by omega
          exact after _ ((c, ec) :: st) o _ _ _ _ _ _ _ G (by assumption) (by assumption) P.mem P.len P.len5 (fun d hd => by rw [← P.row, hd]; obtain rfl : d = sg := (List.cons.inj (hd.symm.trans hrd)).1; exact (pile_push hlt _ _ _).symm) (fun h => absurd hi h)
      · obtain rfl : i = 5 := Nat.le_antisymm (Nat.le_of_lt_succ hi6) (Nat.le_of_not_lt hi)
        walk_at "goT"
        exact tail _ _ (by have := P.row; rw [List.drop_eq_nil_of_le (Nat.le_of_eq hl)] at this ⊢; rw [← this]; exact (pile_popE _ _ _).symm) (by assumption) (by assumption)
  case done =>
    clear lF' lN' hrg B' X' T' D'
    intro h tk J
    obtain ⟨g, st, o, m₂, t2, t3, t4, G, F9, N9, hnm, P, h6, hgI, hLI⟩ := J
    obtain ⟨rfl, hnn⟩ := h6 rfl
    have hnm2 : ∀ p ∈ (Str.ofString "name", Value.none) :: pn rs t R [] o t2 t3 t4, m₂ p.1 = some p.2 := fun p hp => (List.mem_cons.mp hp).elim (fun e => by rw [e]; exact hnn) (hnm p)
    replace F9 := fr_names hnm2 F9
    dsimp only [pn, kstB] at F9
    rw [encp_floor.mpr rfl] at F9
    have hfin : o = pileF [] [] rs := by
      have pr := P.row
      rw [List.drop_eq_nil_of_le (by omega)] at pr
      rw [← pr]; exact (pile_end o).symm
    have hX := G.inn
    have hT := G.top
    have pB := G.below
    have pD := G.dicts
    have pT := G.turn
    clear hnm hnm2 hgI hLI
    refine Nx.next nxF ?_
    try k_fold
    walk_at "go"
    rw [hfin]
    exact hret _ _ _ (by assumption) (by assumption)
end Mine
end

section
open PySem PySem.W PyProof.Rows
set_option maxRecDepth 100000
namespace Mine
theorem for_pair3 {prog : Program} {w : World} {A : Around} {s : Shared} {env : Env} {h₀ : Heap} {L : Addr} {m : Str → Option Value} {E : Value → Shared → Prop} {Q : Flow → Shared → Prop} {xi xc : Str} {pk pv pt pos : Pos} {x1 : Nat} {iter : Expr} {body : List Stmt} (_F : Fr h₀ L s.heap m) (hh : A.handled = none)
    (hxi : env.kindOf xi = some .local) (hxc : env.kindOf xc = some .local)
    (hp : (env.scope.kind == .class || (env.scope.kind == .module && env.locals != env.globals)) = false)
    (h : wpAny (model prog w) A (eval iter env) (fun xv s₁ => wpAny (model prog w) A (pyIter xv) (fun it s₂ => PairAt3 prog w A h₀ env xi xc body Q E it s₂) E s₁) E s)
    (hs : ∀ x, foldedSetIterable iter env x = pure x)
    (hE : PassesOwn (model prog w) A env E := by passes_own) :
    wpAny (model prog w) A (exec (.For (.Tuple [.Name xi pk, .Name xc pv] x1 pt) iter body [] pos) env) Q E s := For_pair3 h₀ hh hxi hxc hp h hs hE
structure Cls (i : Nat) (c : List Int) (vs : List Value) : Prop where
  isI : IntsAre vs c
  len5 : c.length = 5
  bnd : ∀ x ∈ c, 0 ≤ x ∧ x ≤ 66 + (i : Int) * 1000000
def CJ (l : Addr) (led : List (Addr × Obj)) (i : Nat) (m : Str → Option Value) (news : List (Addr × Obj)) : Prop :=
  m (Str.ofString "cells") = some (.ref l) ∧ ∃ (c : List Int) (vs : List Value), Cls i c vs ∧ news = (l, listOf vs.toArray 0) :: led
section
variable {prog : Program} {w : World} {A : Around} {s : Shared} {env : Env} {h₀ : Heap} {L : Addr} {m : Str → Option Value} {E : Value → Shared → Prop} {Q : Flow → Shared → Prop}
theorem cells_loop {as : List Int} {xv : Value} {l : Addr} {t0 t1 t2 t3 t4 : Tok} {led : List (Addr × Obj)} {body : List Stmt}
    (S : PairSrcL prog w A E h₀ L ItemKind.int as xv s m ((l, listOf #[.int 33 t0, .int 66 t1, .int 15 t2, .int 26 t3, .int 53 t4] 0) :: led)) (hL : env.locals = L) (hm : m (Str.ofString "cells") = some (.ref l)) (hap : ∀ p ∈ led, p.1 ≠ l)
    (step : ∀ i x t tx c vs m₁ h tk own, (∀ p ∈ led, p.1 ≠ l) → as[i]? = some x → Cls i c vs → m₁ (Str.ofString "cells") = some (.ref l) → (∀ p ∈ own, ∀ q ∈ (l, listOf vs.toArray 0) :: led, p.1 ≠ q.1) →
      Fr h₀ env.locals h (fun y => if y = Str.ofString "x" then some (.int x tx) else if y = Str.ofString "place" then some (.int (i : Int) t) else kstB m₁ [(Str.ofString "cells", .ref l)] y) → News h₀ env.locals h (own ++ (l, listOf vs.toArray 0) :: led) →
      wpAny (model prog w) A (execs body env) (LoopStep3 h₀ env.locals own ((l, listOf vs.toArray 0) :: led) (CJ l led (i + 1)) { s with heap := h, toks := tk } (fun v s' => Q (.ret v) s') fun s' => Q .next s') E { s with heap := h, toks := tk })
    (done : ∀ c vs m' h tk, Cls as.length c vs → Fr h₀ env.locals h (kstB m' [(Str.ofString "cells", .ref l)]) → News h₀ env.locals h ((l, listOf vs.toArray 0) :: led) → Q .next { s with heap := h, toks := tk }) :
    wpAny (model prog w) A (pyIter xv) (fun it s₂ => PairAt3 prog w A h₀ env (Str.ofString "place") (Str.ofString "x") body Q E it s₂) E s := by
  have hk : ∀ {m₁ : Str → Option Value}, m₁ (Str.ofString "cells") = some (.ref l) → m₁ = kstB m₁ [(Str.ofString "cells", .ref l)] := fun {m₁} h =>
    (funext fun z => kstB_eq (by intro p hp; rw [List.mem_singleton.mp hp]; exact h) fun _ => rfl).symm
  refine (S env hL) _ _ _ _ (CJ l led) ⟨hm, _, _, ⟨.cons _ _ (.cons _ _ (.cons _ _ (.cons _ _ (.cons _ _ .nil)))), rfl, by simp⟩, rfl⟩ ?_ ?_
  · rintro i x t v m₁ news₁ s₁ own ⟨hh, tt, rfl⟩ hx hv ⟨hcm, c, vs, hc, rfl⟩ hadr hoff F8 N8
    obtain ⟨tx, rfl⟩ := hv
    rw [hk hcm] at F8
    refine step i x t tx c vs m₁ hh tt own hap hx hc hcm (fun p hp q hq => ?_) F8 N8
    have : q.1 ∈ (((l, listOf vs.toArray 0) :: led).map (·.1)) := List.mem_map_of_mem hq
    rw [hadr] at this
    obtain ⟨q', hq', e⟩ := List.mem_map.mp this
    rw [← e]
    exact hoff p hp q' hq'
  · rintro h' tk' m' news' F8 N8 hadr ⟨hcm, c, vs, hc, rfl⟩
    rw [hk hcm] at F8
    exact done c vs m' h' tk' hc F8 N8
theorem upd_mid {l : Addr} {o o' : Obj} {led : List (Addr × Obj)} (hl : ∀ p ∈ led, p.1 ≠ l) : ∀ {own : List (Addr × Obj)}, (∀ p ∈ own, p.1 ≠ l) → Upd l o o' (own ++ (l, o) :: led) (own ++ (l, o') :: led)
  | [], _ => .head hl
  | p :: r, h => .tail (h p (.head _)) (upd_mid hl fun q hq => h q (.tail _ hq))
theorem cells_set {l : Addr} {led own : List (Addr × Obj)} {c : List Int} {vs : List Value} {n : Nat} {k x : Int} {t u : Tok} {Q : Unit → Shared → Prop} (F : Fr h₀ L s.heap m) (N : News h₀ L s.heap (own ++ (l, listOf vs.toArray n) :: led))
    (hoff : ∀ p ∈ own, ∀ q ∈ (l, listOf vs.toArray n) :: led, p.1 ≠ q.1) (hl : ∀ p ∈ led, p.1 ≠ l) (hi : IntsAre vs c) (h0 : 0 ≤ k) (h1 : k < c.length) (hfit : k < 1000)
    (h : ∀ h', Fr h₀ L h' m → News h₀ L h' (own ++ (l, listOf (vs.set k.toNat (.int x u)).toArray n) :: led) → IntsAre (vs.set k.toNat (.int x u)) (c.set k.toNat x) → Q () { s with heap := h' }) :
    wpAny (model prog w) A (setItem (.ref l) (.int k t) (.int x u)) Q E s :=
  ksa_set F N (upd_mid hl fun p hp => hoff p hp _ (.head _)) hi h0 h1 (by omega) fun h' F' N' hi' _ _ => h h' F' N' hi'
theorem cls_set {i : Nat} {c : List Int} {vs vs' : List Value} {x : Int} {kn : Nat} (hc : Cls i c vs) (h : IntsAre vs' (c.set kn (c.getD kn 0 + x.fmod 1000000))) (hk : kn < 5) : Cls (i + 1) (c.set kn (c.getD kn 0 + x.fmod 1000000)) vs' := by
  obtain ⟨hi, hl, hb⟩ := hc
  refine ⟨h, by rw [List.length_set]; exact hl, fun y hy => ?_⟩
  have e1 : 0 ≤ x.fmod 1000000 := Int.fmod_nonneg_of_pos _ (by decide)
  have e2 : x.fmod 1000000 < 1000000 := Int.fmod_lt_of_pos _ (by decide)
  have hm : c.getD kn 0 ∈ c := by
    rw [List.getD_eq_getElem?_getD, List.getElem?_eq_getElem (by omega)]; exact List.getElem_mem _
  have h3 := hb _ hm
  rcases List.mem_or_eq_of_mem_set hy with h4 | h4
  · have := hb _ h4; omega
  · subst h4; omega
theorem cells_end {l : Addr} {led own : List (Addr × Obj)} {i : Nat} {c' : List Int} {vs vs' : List Value} {m' : Str → Option Value} {Qr : Value → Shared → Prop} {Qb : Shared → Prop} {h' : Heap} {tk : Nat} (F : Fr h₀ L h' m') (N : News h₀ L h' (own ++ (l, listOf vs'.toArray 0) :: led))
    (hm : m' (Str.ofString "cells") = some (.ref l)) (hc : Cls (i + 1) c' vs') : LoopStep3 h₀ L own ((l, listOf vs.toArray 0) :: led) (CJ l led (i + 1)) s Qr Qb .next { s with heap := h', toks := tk } :=
  ⟨rfl, h', tk, m', _, rfl, F, N, rfl, hm, c', vs', hc, rfl⟩
end
theorem cls_open {i : Nat} {c : List Int} {vs : List Value} (h : Cls i c vs) (hi : i ≤ 63) : ∃ c0 c1 c2 c3 c4 t0 t1 t2 t3 t4, vs = [.int c0 t0, .int c1 t1, .int c2 t2, .int c3 t3, .int c4 t4] ∧
    (0 ≤ c0 ∧ c0 ≤ 63000066) ∧ (0 ≤ c1 ∧ c1 ≤ 63000066) ∧ (0 ≤ c2 ∧ c2 ≤ 63000066) ∧ (0 ≤ c3 ∧ c3 ≤ 63000066) ∧ (0 ≤ c4 ∧ c4 ≤ 63000066) := by
  obtain ⟨hi', hl, hb⟩ := h
  obtain ⟨c0, c1, c2, c3, c4, rfl⟩ := five_of hl
  · cases hi' with | cons _ t0 hi' => cases hi' with | cons _ t1 hi' => cases hi' with | cons _ t2 hi' => cases hi' with | cons _ t3 hi' => cases hi' with | cons _ t4 hi' =>
    cases hi'
    have b : ∀ x ∈ [c0, c1, c2, c3, c4], 0 ≤ x ∧ x ≤ 63000066 := fun x hx => by have := hb x hx; omega
    exact ⟨c0, c1, c2, c3, c4, t0, t1, t2, t3, t4, rfl, b _ (by simp), b _ (by simp), b _ (by simp), b _ (by simp), b _ (by simp)⟩
end Mine
end

section
open PySem PySem.W PyProof.Rows LCg LCt
set_option maxRecDepth 100000
namespace Mine
theorem strs_snoc {y : Str} {t : Tok} : ∀ {vs : List Value} {ys : List Str}, StrsAre vs ys → StrsAre (vs ++ [.str y t]) (ys ++ [y])
  | _, _, .nil => .cons y t .nil
  | _, _, .cons z u r => .cons z u (strs_snoc r)
section
variable {prog : Program} {w : World} {A : Around} {h₀ : Heap} {L : Addr} {m : Str → Option Value} {env : Env} {ct elt : Expr} {x : Str} {scope : Scope} {cl : List (Str × Addr)} {s : Shared} {S : List (Addr × Obj) → Prop} {P : Nat → Value → Prop} {Fin : List Value → List (Addr × Obj) → Prop} {news : List (Addr × Obj)}
theorem cg_any {n : Nat} (Elt : Nat → Value → Prop)
    (turn : ∀ i v I oI C oC D m₂ ys h tk (E' : Value → Shared → Prop), i < n → P i v → NsObj oC m₂ → m₂ x = some v → Fr h₀ L h m → News h₀ L h ((I, oI) :: (C, oC) :: (D, LCg.lst ys) :: news) → Off3 I C D news → ((@Ne Nat I C) ∧ (@Ne Nat I D) ∧ (@Ne Nat C D)) →
      wpAny (model prog w) A (eval elt (compEnvC scope cl C env)) (CompEnd h₀ L m { s with heap := h, toks := tk } I oI C oC D (LCg.lst ys) S (fun y news' => news' = news ∧ Elt i y)) E' { s with heap := h, toks := tk })
    (fin : ∀ ys, ys.length = n → (∀ i y, ys[i]? = some y → Elt i y) → Fin ys news) : CompRest prog w A h₀ L m env elt x scope cl s S P Fin n 0 [] news := by
  have key : ∀ (j i : Nat) (ys : List Value), i + j = n → ys.length = i → (∀ i y, ys[i]? = some y → Elt i y) → CompRest prog w A h₀ L m env elt x scope cl s S P Fin j i ys news := by
    intro j
    induction j with
    | zero =>
      intro i ys hi hl hy
      exact CompRest.zero (fin ys (by omega) hy)
    | succ j ih =>
      intro i ys hi hl hy
      refine CompRest.succ ?_
      intro v I oI C oC D m₂ h tk E' hv hC hx F N off ne
      refine wpAny_mono (turn i v I oI C oC D m₂ ys h tk E' (by omega) hv hC hx F N off ne) (fun y s₂ hq => ?_) fun _ _ e => e
      obtain ⟨h', tk', nw, e, F', N', off', hS, rfl, hy'⟩ := hq
      refine ⟨h', tk', _, e, F', N', off', hS, ih (i + 1) _ (by omega) (by simp [hl]) fun k z hk => ?_⟩
      rw [List.getElem?_append] at hk
      split at hk
      · exact hy k z hk
      · rename_i hlt
        have : k = ys.length := by
          have := (List.getElem?_eq_some_iff.mp hk).1
          simp at this
          omega
        subst this
        rw [Nat.sub_self] at hk
        rw [hl]
        exact (Option.some.inj hk) ▸ hy'
  exact key n 0 [] (by omega) rfl (by simp)
theorem ct_texts {n : Nat} (tb : Nat → Bool) (g : Nat → Str)
    (turn : ∀ i v I oI C oC D m₂ ys h tk (E' : Value → Shared → Prop), i < n → P i v → NsObj oC m₂ → m₂ x = some v → Fr h₀ L h m → News h₀ L h ((I, oI) :: (C, oC) :: (D, LCg.lst ys) :: news) → Off3 I C D news → ((@Ne Nat I C) ∧ (@Ne Nat I D) ∧ (@Ne Nat C D)) →
      wpAny (model prog w) A (isTrue ct (compEnvC scope cl C env) (eval ct (compEnvC scope cl C env))) (fun ok s' => if ok = true then tb i = true ∧
        wpAny (model prog w) A (eval elt (compEnvC scope cl C env)) (CompEnd h₀ L m { s with heap := h, toks := tk } I oI C oC D (LCg.lst ys) S (fun y news' => news' = news ∧ ∃ t, y = .str (g i) t)) E' s'
        else tb i = false ∧ CompEnd h₀ L m { s with heap := h, toks := tk } I oI C oC D (LCg.lst ys) S (fun _ news' => news' = news) Value.none s') E' { s with heap := h, toks := tk })
    (fin : ∀ ys, StrsAre ys (((List.range n).filter tb).map g) → Fin ys news) : CompRestT prog w A h₀ L m env ct elt x scope cl s S P Fin n 0 [] news := by
  have key : ∀ (j i : Nat) (ys : List Value), i + j = n → StrsAre ys (((List.range i).filter tb).map g) → CompRestT prog w A h₀ L m env ct elt x scope cl s S P Fin j i ys news := by
    intro j
    induction j with
    | zero =>
      intro i ys hi hy
      obtain rfl : i = n := by omega
      exact CompRestT.zero (fin ys hy)
    | succ j ih =>
      intro i ys hi hy
      refine CompRestT.succ ?_
      intro v I oI C oC D m₂ h tk E' hv hC hx F N off ne
      refine wpAny_mono (turn i v I oI C oC D m₂ ys h tk E' (by omega) hv hC hx F N off ne) (fun ok s₂ hq => ?_) fun _ _ e => e
      cases ok with
      | true =>
        simp only [if_true] at hq ⊢
        refine wpAny_mono hq.2 (fun y s₃ hq3 => ?_) fun _ _ e => e
        obtain ⟨h', tk', nw, e, F', N', off', hS, rfl, t, rfl⟩ := hq3
        refine ⟨h', tk', _, e, F', N', off', hS, ih (i + 1) _ (by omega) ?_⟩
        rw [List.range_succ, List.filter_append, List.map_append]
        simp only [List.filter_cons, hq.1, if_true, List.filter_nil, List.map_cons, List.map_nil]
        exact strs_snoc hy
      | false =>
        simp only [Bool.false_eq_true, if_false] at hq ⊢
        obtain ⟨hf, h', tk', nw, e, F', N', off', hS, rfl⟩ := hq
        refine ⟨h', tk', _, e, F', N', off', hS, ih (i + 1) _ (by omega) ?_⟩
        rw [List.range_succ, List.filter_append, List.map_append]
        simp only [List.filter_cons, hf, Bool.false_eq_true, if_false, List.filter_nil, List.map_nil, List.append_nil]
        exact hy
  exact key n 0 [] (by omega) .nil
end
theorem strs_signs : ∀ {ys : List Value} , (∀ (i : Nat) y, ys[i]? = some y → ∃ d t, d ∈ sgn ∧ y = .str ⟨#[d]⟩ t) → ∃ ds : List Nat, (∀ d ∈ ds, d ∈ sgn) ∧ ds.length = ys.length ∧ StrsAre ys (ds.map fun d => ⟨#[d]⟩)
  | [], _ => ⟨[], by simp, rfl, .nil⟩
  | y :: ys, h => by
    obtain ⟨ds, h1, h2, h3⟩ := strs_signs (ys := ys) fun i z e => h (i + 1) z e
    obtain ⟨d, t, hd, rfl⟩ := h 0 y rfl
    exact ⟨d :: ds, fun e he => (List.mem_cons.mp he).elim (fun q => q ▸ hd) (h1 e), by simp [h2], .cons _ t h3⟩
theorem join_signs : ∀ (ds : List Nat), Str.join (Str.ofString "") (ds.map fun d => ⟨#[d]⟩) = tx ds
  | [] => rfl
  | [d] => rfl
  | d :: e :: r => by
    have ih := join_signs (e :: r)
    rw [List.map_cons, List.map_cons, join_cons_cons, ← List.map_cons (f := fun d => (⟨#[d]⟩ : Str)), ih, lit_nil]
    exact str_ext (by rw [app_cps, app_cps]; rfl)
section
variable {prog : Program} {w : World} {A : Around} {E : Value → Shared → Prop} {s : Shared}
theorem call_join_signs {D : Addr} {ys : List Value} {ds : List Nat} {t : Tok} {Q : Value → Shared → Prop} (hl : s.heap.IsList D ys.toArray) (hy : StrsAre ys (ds.map fun d => ⟨#[d]⟩)) (hn : ds.length ≤ 100)
    (h : ∀ t' k, Q (.str (tx ds) t') { s with toks := k }) : wpAny (model prog w) A (call (.builtin "str.join") [.str (Str.ofString "") t, .ref D]) Q E s := by
  have hsum : ∀ ds : List Nat, ((ds.map fun d => (⟨#[d]⟩ : Str)).map (·.length)).sum = ds.length := by
    intro ds
    induction ds with
    | nil => rfl
    | cons d r ih =>
      rw [List.map_cons, List.map_cons, List.sum_cons, ih, List.length_cons]
      show 1 + _ = _
      omega
  refine join_listW hl (by simpa using hy) (by decide +kernel) (by rw [hsum, List.length_map]; omega) fun t' k => ?_
  have e : Txt.join (Str.ofString "") (ds.map fun d => ⟨#[d]⟩) = tx ds := by
    rw [← join_signs ds]; exact eq_of_beq (join_plain_closes _ _)
  rw [e]
  exact h t' k
end
end Mine
end

section
open PySem PySem.W PyProof.Rows
set_option maxRecDepth 100000
namespace Mine
theorem signs_cps : (Str.ofString "()[]:,;+-*/|&<>=%{}~^@!").cps.toList = sgn := by decide +kernel
theorem item_signs {k : Int} (h0 : 0 ≤ k) (h1 : k < 23) : ∃ d, d ∈ sgn ∧ Txt.item (Str.ofString "()[]:,;+-*/|&<>=%{}~^@!") k = ⟨#[d]⟩ := by
  obtain ⟨n, rfl⟩ := Int.eq_ofNat_of_zero_le h0
  have hn : n < sgn.length := by show n < 23; omega
  exact ⟨sgn[n], List.getElem_mem _, item_nat (k := n) rfl (by rw [signs_cps]; exact List.getElem?_eq_getElem hn)⟩
theorem five_ints {c0 c1 c2 c3 c4 : Int} {t0 t1 t2 t3 t4 : Tok} {i : Nat} {v : Value} (h : (#[Value.int c0 t0, .int c1 t1, .int c2 t2, .int c3 t3, .int c4 t4] : Array Value)[i]? = some v)
    (hc0 : 0 ≤ c0 ∧ c0 ≤ 63000066) (hc1 : 0 ≤ c1 ∧ c1 ≤ 63000066) (hc2 : 0 ≤ c2 ∧ c2 ≤ 63000066) (hc3 : 0 ≤ c3 ∧ c3 ≤ 63000066) (hc4 : 0 ≤ c4 ∧ c4 ≤ 63000066) : ∃ k t, v = .int k t ∧ 0 ≤ k ∧ k ≤ 63000066 := by
  exact at5 (P := fun _ v => ∃ k t, v = .int k t ∧ 0 ≤ k ∧ k ≤ 63000066) h ⟨_, _, rfl, hc0⟩ ⟨_, _, rfl, hc1⟩ ⟨_, _, rfl, hc2⟩ ⟨_, _, rfl, hc3⟩ ⟨_, _, rfl, hc4⟩
def SgnEl (y : Value) : Prop := ∃ d t, d ∈ sgn ∧ y = .str ⟨#[d]⟩ t
def EndEl (y : Value) : Prop := ∃ e t, endOk e ∧ y = .str (tx e) t
theorem sgn_el {k : Int} {t : Tok} (h0 : 0 ≤ k.fmod 23) (h1 : k.fmod 23 < 23) : SgnEl (.str (Txt.item (Str.ofString "()[]:,;+-*/|&<>=%{}~^@!") (k.fmod 23)) t) := by
  obtain ⟨d, hd, e⟩ := item_signs h0 h1
  exact ⟨d, t, hd, congrArg (fun z => Value.str z t) e⟩
theorem end_el0 {t : Tok} : EndEl (.str (Str.ofString "") t) := ⟨[], t, .inl rfl, congrArg (fun z => Value.str z t) lit_nil⟩
theorem end_el1 {t : Tok} : EndEl (.str (Str.ofString "\"") t) := ⟨[34], t, .inr (.inl rfl), congrArg (fun z => Value.str z t) (by decide +kernel)⟩
theorem end_el2 {t : Tok} : EndEl (.str (Str.ofString "\" up") t) := ⟨[34, 32, 117, 112], t, .inr (.inr rfl), congrArg (fun z => Value.str z t) (by decide +kernel)⟩
section
variable {h₀ : Heap} {L I C D : Addr} {m : Str → Option Value} {s₁ : Shared} {oI oC oD : Obj} {S : List (Addr × Obj) → Prop} {y : Value} {h' : Heap} {tk : Nat} {all news : List (Addr × Obj)}
theorem comp_end {R : Value → Prop} (F : Fr h₀ L h' m) (N : News h₀ L h' all) (sub : ∀ p ∈ (I, oI) :: (C, oC) :: (D, oD) :: news, p ∈ all) (off : LCg.Off3 I C D news) (hS : S news) (r : R y) :
    LCg.CompEnd h₀ L m s₁ I oI C oC D oD S (fun y news' => news' = news ∧ R y) y { s₁ with heap := h', toks := tk } := LCg.CompEnd.intro F N news sub off hS ⟨rfl, r⟩
theorem comp_endF (F : Fr h₀ L h' m) (N : News h₀ L h' all) (sub : ∀ p ∈ (I, oI) :: (C, oC) :: (D, oD) :: news, p ∈ all) (off : LCg.Off3 I C D news) (hS : S news) :
    LCg.CompEnd h₀ L m s₁ I oI C oC D oD S (fun _ news' => news' = news) y { s₁ with heap := h', toks := tk } := LCg.CompEnd.intro F N news sub off hS rfl
end
end Mine
end

section
open PySem PySem.W PyProof.Rows
set_option maxRecDepth 100000
namespace Mine
def FrontOk (f : List Nat) : Prop := f = [50, 53, 55, 45, 34] ∨ f = [50, 53, 55, 34] ∨ f = [50, 53, 55, 32] ∨ f = [50, 53, 55, 32, 32, 34] ∨ f = [50, 53, 55, 32, 117, 112, 32, 34]
theorem five_fronts {t0 t1 t2 t3 t4 : Tok} {i : Nat} {v : Value} (h : (#[Value.str (Str.ofString "257-\"") t0, .str (Str.ofString "257\"") t1, .str (Str.ofString "257 ") t2, .str (Str.ofString "257  \"") t3, .str (Str.ofString "257 up \"") t4] : Array Value)[i]? = some v) :
    ∃ f t, v = .str (tx f) t ∧ FrontOk f ∧ (tx f).length ≤ 8 := by
  exact at5 (P := fun _ v => ∃ f t, v = Value.str (tx f) t ∧ FrontOk f ∧ (tx f).length ≤ 8) h
    ⟨_, t0, congrArg (fun z => Value.str z t0) (show Str.ofString "257-\"" = tx [50, 53, 55, 45, 34] from by decide +kernel), .inl rfl, by decide⟩
    ⟨_, t1, congrArg (fun z => Value.str z t1) (show Str.ofString "257\"" = tx [50, 53, 55, 34] from by decide +kernel), .inr (.inl rfl), by decide⟩
    ⟨_, t2, congrArg (fun z => Value.str z t2) (show Str.ofString "257 " = tx [50, 53, 55, 32] from by decide +kernel), .inr (.inr (.inl rfl)), by decide⟩
    ⟨_, t3, congrArg (fun z => Value.str z t3) (show Str.ofString "257  \"" = tx [50, 53, 55, 32, 32, 34] from by decide +kernel), .inr (.inr (.inr (.inl rfl))), by decide⟩
    ⟨_, t4, congrArg (fun z => Value.str z t4) (show Str.ofString "257 up \"" = tx [50, 53, 55, 32, 117, 112, 32, 34] from by decide +kernel), .inr (.inr (.inr (.inr rfl))), by decide⟩
theorem con_front {w : World} {f rs : List Nat} (hf : FrontOk f) (hrs : ∀ d ∈ rs, d ∈ sgn) (hl : rs.length = 5) (t : Tok) : Con 2 w 77 [.str (tx f ++ tx rs) t] (fun _ => True) (fun v => ∃ t, v = .str (Str.ofString "") t) := by
  rw [tx_app]
  obtain ⟨r0, r1, r2, r3, r4, rfl⟩ := five_of hl
  · have h0 := sgn_ne (hrs r0 (by simp))
    refine con_told ?_
    rcases hf with rfl | rfl | rfl | rfl | rfl
    all_goals
      refine con_parse0 w _ t (by rw [tx_len]; simp) ?_ ?_
      · rw [sl_to (j := 3) (k := 3) rfl (by rw [tx_len]; simp), lit_257']; rfl
      · rw [sl_mid (i := 3) (j := 5) (k := 3) (n := 2) rfl rfl (by rw [tx_len]; simp), lit_sq]
        intro h
        have h := congrArg (fun z : Str => z.cps.toList) h
        simp at h
        try omega
theorem con_blank {w : World} {rs : List Nat} {y : Str} (e : y = Str.ofString "257 \" " ++ tx rs ++ Str.ofString " ") (hrs : ∀ d ∈ rs, d ∈ sgn) (hl : rs.length = 5) (t : Tok) : Con 2 w 77 [.str y t] (fun _ => True) (fun v => ∃ t, v = .str (Str.ofString " " ++ tx rs ++ Str.ofString " ") t) := by
  subst e
  obtain ⟨r0, r1, r2, r3, r4, rfl⟩ := five_of hl
  · have q : ∀ d ∈ [r0, r1, r2, r3, r4], ¬ d = 34 := fun d hd => (sgn_ne (hrs d hd)).1
    have e1 : Str.ofString "257 \" " ++ tx [r0, r1, r2, r3, r4] ++ Str.ofString " " = tx [50, 53, 55, 32, 34, 32, r0, r1, r2, r3, r4, 32] := by
      rw [show Str.ofString "257 \" " = tx [50, 53, 55, 32, 34, 32] from by decide +kernel, show Str.ofString " " = tx [32] from by decide +kernel, tx_app, tx_app]; rfl
    have e2 : Str.ofString " " ++ tx [r0, r1, r2, r3, r4] ++ Str.ofString " " = tx [32, r0, r1, r2, r3, r4, 32] := by
      rw [show Str.ofString " " = tx [32] from by decide +kernel, tx_app, tx_app]; rfl
    rw [e1, e2]
    refine con_told ?_
    have C := con_parse w (tx [50, 53, 55, 32, 34, 32, r0, r1, r2, r3, r4, 32]) t (by rw [tx_len]; simp) (by rw [sl_to (j := 3) (k := 3) rfl (by rw [tx_len]; simp), lit_257']; rfl)
      (by rw [sl_mid (i := 3) (j := 5) (k := 3) (n := 2) rfl rfl (by rw [tx_len]; simp), lit_sq]; rfl) (by rw [tx_len]; simp)
    have e3 : pq ((tx [50, 53, 55, 32, 34, 32, r0, r1, r2, r3, r4, 32]).cps.toList.drop 5) = [32, r0, r1, r2, r3, r4, 32] := by
      show pq [32, r0, r1, r2, r3, r4, 32] = _
      rw [pq_cons (by decide), pq_cons (q r0 (by simp)), pq_cons (q r1 (by simp)), pq_cons (q r2 (by simp)), pq_cons (q r3 (by simp)), pq_cons (q r4 (by simp)), pq_cons (by decide)]
      simp [pq]
    rw [e3] at C
    exact C
end Mine
end

section
open PySem PySem.W PyProof.Rows PySem.Spec PySem.Calls PyProof.V
set_option maxRecDepth 100000
namespace Mine
inductive BoolsList : List Value → List Bool → Prop
  | nil : BoolsList [] []
  | cons (b : Bool) {vs bs} : BoolsList vs bs → BoolsList (.bool b :: vs) (b :: bs)
theorem strs_carried : ∀ {vs : List Value} {ss : List Str}, StrsAre vs ss → CarriedAll vs (ss.map PyData.str)
  | _, _, .nil => .nil
  | _, _, .cons _ t r => .cons (.str _ t) (strs_carried r)
theorem bools_carried : ∀ {vs : List Value} {bs : List Bool}, BoolsList vs bs → CarriedAll vs (bs.map PyData.bool)
  | _, _, .nil => .nil
  | _, _, .cons _ r => .cons (.bool _) (bools_carried r)
theorem strs_lay0 : ∀ ns : List Str, (∀ s ∈ ns, PyData.strOk s = true) → PyData.canLayAll0 (ns.map PyData.str) = true
  | [], _ => rfl
  | _ :: r, h => by simp [PyData.canLayAll0, PyData.canLay0, strs_lay0 r fun s hs => h s (.tail _ hs), h _ (.head _)]
theorem strs_depth : ∀ ns : List Str, PyData.depthAll (ns.map PyData.str) = 0
  | [] => rfl
  | _ :: r => by simp [PyData.depthAll, PyData.depth, strs_depth r]
theorem strs_shaped (ns : List Str) (h : ∀ s ∈ ns, PyData.strOk s = true) : SeqAt.shaped (.list (ns.map PyData.str)) = true := by
  simp [SeqAt.shaped, PyData.canLay0, PyData.depth, strs_lay0 ns h, strs_depth]
theorem strs_same : ∀ ns ms : List Str, PySem.Spec.sameAll (ns.map PyData.str) (ms.map PyData.str) = decide (ns = ms)
  | [], [] => by simp [PySem.Spec.sameAll]
  | [], _ :: _ => by simp [PySem.Spec.sameAll]
  | _ :: _, [] => by simp [PySem.Spec.sameAll]
  | a :: r, b :: t => by
    simp only [List.map_cons, PySem.Spec.sameAll, PySem.Spec.same, strs_same r t]
    by_cases h : a = b <;> by_cases h' : r = t <;> simp [h, h']
theorem bools_lay0 : ∀ ns : List Bool, PyData.canLayAll0 (ns.map PyData.bool) = true
  | [] => rfl
  | _ :: r => by simp [PyData.canLayAll0, PyData.canLay0, bools_lay0 r]
theorem bools_depth : ∀ ns : List Bool, PyData.depthAll (ns.map PyData.bool) = 0
  | [] => rfl
  | _ :: r => by simp [PyData.depthAll, PyData.depth, bools_depth r]
theorem bools_shaped (ns : List Bool) : SeqAt.shaped (.list (ns.map PyData.bool)) = true := by
  simp [SeqAt.shaped, PyData.canLay0, PyData.depth, bools_lay0, bools_depth]
theorem bools_same : ∀ ns ms : List Bool, PySem.Spec.sameAll (ns.map PyData.bool) (ms.map PyData.bool) = decide (ns = ms)
  | [], [] => by simp [PySem.Spec.sameAll]
  | [], _ :: _ => by simp [PySem.Spec.sameAll]
  | _ :: _, [] => by simp [PySem.Spec.sameAll]
  | a :: r, b :: t => by
    simp only [List.map_cons, PySem.Spec.sameAll, PySem.Spec.same, bools_same r t]
    by_cases h : a = b <;> by_cases h' : r = t <;> simp [h, h']
section
variable {prog : Program} {w : World} {A : Around} {E : Value → Shared → Prop} {s : Shared} {a b : Addr} {xs ys : List Value} {Q : Value → Shared → Prop}
theorem ne_strs {ns ms : List Str} (ha : s.heap.IsList a xs.toArray) (hb : s.heap.IsList b ys.toArray) (hi : StrsAre xs ns) (hj : StrsAre ys ms) (hn : ∀ s ∈ ns, PyData.strOk s = true) (hm : ∀ s ∈ ms, PyData.strOk s = true) (hu : A.units + 64 < cLine) (h : Q (.bool (!decide (ns = ms))) s) :
    wpAny (model prog w) A (compareOp .NotEq (.ref a) (.ref b)) Q E s :=
  ne_dataH_same (reads_newData ha (strs_carried hi)) (reads_newData hb (strs_carried hj)) (strs_shaped _ hn) (strs_shaped _ hm) hu (SeqAt.noMix_of_shape (.list .str) rfl _ _ (list_map_has fun _ => rfl) (list_map_has fun _ => rfl)) (by
    have : PySem.Spec.same (.list (ns.map PyData.str)) (.list (ms.map PyData.str)) = decide (ns = ms) := by simp only [PySem.Spec.same]; exact strs_same ns ms
    rw [this]; exact h)
theorem ne_bools {ns ms : List Bool} (ha : s.heap.IsList a xs.toArray) (hb : s.heap.IsList b ys.toArray) (hi : BoolsList xs ns) (hj : BoolsList ys ms) (hu : A.units + 64 < cLine) (h : Q (.bool (!decide (ns = ms))) s) :
    wpAny (model prog w) A (compareOp .NotEq (.ref a) (.ref b)) Q E s :=
  ne_dataH_same (reads_newData ha (bools_carried hi)) (reads_newData hb (bools_carried hj)) (bools_shaped _) (bools_shaped _) hu (SeqAt.noMix_of_shape (.list .bool) rfl _ _ (list_map_has fun _ => rfl) (list_map_has fun _ => rfl)) (by
    have : PySem.Spec.same (.list (ns.map PyData.bool)) (.list (ms.map PyData.bool)) = decide (ns = ms) := by simp only [PySem.Spec.same]; exact bools_same ns ms
    rw [this]; exact h)
end
theorem strs_none {n : Nat} {g : Nat → Str} {ys : List Value} (h : StrsAre ys (((List.range n).filter fun _ => false).map g)) : ys = [] := by
  have e : ((List.range n).filter fun _ => false).map g = [] := by simp
  rw [e] at h
  cases h
  rfl
end Mine
end

section
open PySem PySem.W PyProof.Rows PySem.Spec PySem.Calls
set_option maxRecDepth 100000
namespace Mine
theorem strs_of_items {x : Str} {acc : Array Value} (h : ItemsOf (SignAt x) acc x.cps.size) : StrsAre acc.toList (PyProof.Rows.signs x) := by
  have key : ∀ (vs : List Value) (cs : List Nat), vs.length = cs.length → (∀ (j : Nat) v, vs[j]? = some v → ∃ c u, cs[j]? = some c ∧ v = Value.str ⟨#[c]⟩ u) → StrsAre vs (cs.map fun n => ⟨#[n]⟩) := by
    intro vs
    induction vs with
    | nil =>
      intro cs hl _
      cases cs with
      | nil => exact .nil
      | cons _ _ => simp at hl
    | cons v vs ih =>
      intro cs hl hv
      cases cs with
      | nil => simp at hl
      | cons c cs =>
        obtain ⟨c', u, e, rfl⟩ := hv 0 v rfl
        have e : c = c' := Option.some.inj e
        subst e
        exact .cons _ u (ih cs (by simpa using hl) fun j z hz => hv (j + 1) z hz)
  refine key acc.toList x.cps.toList (by simpa using h.1) fun j v hj => ?_
  obtain ⟨c, u, hc, hv⟩ := h.2 j v (by simpa using hj)
  exact ⟨c, u, by simpa using hc, hv⟩
section
variable {prog : Program} {w : World} {A : Around} {E : Value → Shared → Prop} {s : Shared} {h₀ : Heap} {L : Addr} {m : Str → Option Value} {news : List (Addr × Obj)}
theorem sorted_text {x : Str} {t : Tok} {Q : Value → Shared → Prop} (hh : A.handled = none) (F : Fr h₀ L s.heap m) (N : News h₀ L s.heap news) (hx : x.cps.size < 64)
    (h : ∀ (h' : Heap) (vs' : List Value) (ss' : List Str) (e : Nat) (D : Addr) (tk : Nat), Fr h₀ L h' m → News h₀ L h' ((D, listOf vs'.toArray e) :: news) → (∀ p ∈ news, p.1 ≠ D) → StrsAre vs' ss' → ss'.Perm (PyProof.Rows.signs x) → sortedS ss' = true → Q (.ref D) { s with heap := h', toks := tk }) :
    wpAny (model prog w) A (call (.builtin "sorted") [.str x t]) Q E s := by
  refine Calls.call_function_entry kind_sorted plain_sorted entry_sorted (args_sorted1 _) ?_
  unfold Builtin.«sorted»
  refine wpAny_bind (m := checkCount "sorted" 1 1 _) (wpAny_pure ?_)
  refine wpAny_bind (wpAny_collect_str (A := A.in1) hh x t (fun s' acc hk hg hd ho hacc => ?_) (by rw [sizeLine_eq]; omega))
  have hS := strs_of_items hacc
  generalize acc.toList = vs at hS
  have hlen : vs.length < 64 := by
    have : vs.length = (PyProof.Rows.signs x).length := hS.length
    rw [this]; simpa [PyProof.Rows.signs] using hx
  obtain ⟨h1, g1, d1, t1, o1⟩ := s'
  dsimp only at hk hg hd ho
  subst hg hd ho
  refine wpAny_bind (wpAny_newList ?_)
  have hoL : (h1.push (seqObj "list" vs.toArray 0)).get? h1.objs.size = some (seqObj "list" vs.toArray 0) := Heap.get?_push_size _ rfl
  refine wpAny_bind (wpAny_holding (wpAny_call_entry slot_list_sort ⟨_, hoL, rfl⟩ entry_list_sort (list_sort_treeK strKind_oneLt hoL hS.keysOf (fun v₁ v₂ rest e => keyKind_strs (by rw [← e]; exact hS)) hlen fun st' a1 a2 => ⟨_, rfl, ?_⟩) (args_list_sort _)))
  obtain ⟨ss', q1, q2, q3⟩ := sorted_out_str hS a1 a2
  obtain ⟨e, he⟩ := sortedHeap_at (out := (arrOf st').map (·.2)) hoL
  have old : ∀ b o, s.heap.get? b = some o → (sortedHeap (h1.push (seqObj "list" vs.toArray 0)) h1.objs.size vs ((arrOf st').map (·.2))).get? b = some o := fun b o hb => by
    have h2 := hk b o hb
    have hlt := Heap.lt_size h2
    rw [sortedHeap_old (Nat.ne_of_lt hlt) (by rw [size_push']; exact Nat.lt_succ_of_lt hlt), Heap.get?_push_ne _ _ _ (Nat.ne_of_lt hlt)]
    exact h2
  have hL1 : L < h1.objs.size := by
    obtain ⟨oL, _, _, e, _⟩ := F.ns
    exact Heap.lt_size (hk _ _ e)
  have hD0 : h₀.get? h1.objs.size = none := by
    cases q : h₀.get? h1.objs.size with
    | none => rfl
    | some o => exact absurd (Nat.lt_of_lt_of_le (Heap.lt_size q) F.above) (Nat.not_lt.mpr (Nat.le_of_lt hL1))
  have hne : ∀ p ∈ news, p.1 ≠ h1.objs.size := fun p hp => Nat.ne_of_lt (Heap.lt_size (hk _ _ (N p hp).1))
  refine wpAny_pure ⟨_, rfl, h _ ((arrOf st').map (·.2)).toList ss' e h1.objs.size t1 (F.kept old) (fun p hp => ?_) hne q1 q2 q3⟩
  rcases List.mem_cons.mp hp with rfl | hp
  · exact ⟨he, Nat.ne_of_gt hL1, hD0⟩
  · exact ⟨old _ _ (N p hp).1, (N p hp).2⟩
end
theorem ends_at {es : List Value} {n : Nat} (hn : n = 5) (hl : es.length = n) (h : ∀ (i : Nat) y, es[i]? = some y → EndEl y) : ∀ i < 5, ∃ e t, es[i]? = some (.str (tx e) t) ∧ endOk e := fun i hi => by
  have hi' : i < es.length := by omega
  obtain ⟨e, t, he, hy⟩ := h i es[i] (List.getElem?_eq_getElem hi')
  exact ⟨e, t, by rw [List.getElem?_eq_getElem hi', hy], he⟩
end Mine
end

section
open PySem PySem.W PyProof.Rows PySem.Spec PySem.Calls
set_option maxRecDepth 100000
namespace Mine
def handR : List Nat → List Nat
  | [] => []
  | c :: r => handG c r
theorem con_hand5 {w : World} {rs : List Nat} {t : Tok} (hs : ∀ d ∈ rs, d ∈ sgn) (hl : rs.length = 5) : Con 3 w 112 [.str (tx rs) t] (fun _ => True) (fun v => ∃ t, v = .str (tx (handR rs)) t) := by
  cases rs with
  | nil => cases hl
  | cons c r => exact con_hand hs (by simp only [List.length_cons] at hl; omega)
end Mine
end

section
open PySem PySem.W PyProof.Rows PySem.Spec PySem.Calls
set_option maxRecDepth 100000
namespace Mine
abbrev one (n : Nat) : Str := ⟨#[n]⟩
theorem ones_of_perm {ss : List Str} {l : List Nat} (h : ss.Perm (l.map one)) : ∃ ds : List Nat, ss = ds.map one ∧ ds.Perm l := by
  let g : Str → Nat := fun s => s.cps.toList.headD 0
  have hg : ∀ n, g (one n) = n := fun _ => rfl
  refine ⟨ss.map g, ?_, ?_⟩
  · have : ∀ s ∈ ss, one (g s) = s := fun s hs => by
      obtain ⟨n, _, rfl⟩ := List.mem_map.mp (h.mem_iff.mp hs)
      rfl
    rw [List.map_map]
    exact (List.map_id ss).symm.trans (List.map_congr_left fun s hs => (this s hs).symm)
  · have := h.map g
    rwa [List.map_map, show (g ∘ one) = id from funext hg, List.map_id] at this
theorem rising_codes : ∀ (r : List Nat) (d : Nat), risingS (one d) (r.map one) = true → (d :: r).Pairwise (· ≤ ·)
  | [], _, _ => by simp
  | x :: r, d, h => by
    simp only [List.map_cons, risingS, Bool.and_eq_true] at h
    have h1 := h.1
    have ih := rising_codes r x h.2
    have hd : d ≤ x := by
      have h1 : (!ltCps [x] [d]) = true := h1
      simp [ltCps] at h1
      omega
    refine List.Pairwise.cons (fun y hy => ?_) ih
    rcases List.mem_cons.mp hy with rfl | hy
    · exact hd
    · exact Nat.le_trans hd ((List.pairwise_cons.mp ih).1 y hy)
theorem sorted_codes {ds : List Nat} (h : sortedS (ds.map one) = true) : ds.Pairwise (· ≤ ·) := by
  cases ds with
  | nil => exact .nil
  | cons d r => exact rising_codes r d h
theorem sorted_same {ss tt : List Str} {a b : List Nat} (h1 : ss.Perm (a.map one)) (h2 : tt.Perm (b.map one)) (hab : a.Perm b) (s1 : sortedS ss = true) (s2 : sortedS tt = true) : ss = tt := by
  obtain ⟨ds, rfl, p1⟩ := ones_of_perm h1
  obtain ⟨es, rfl, p2⟩ := ones_of_perm h2
  have q1 := sorted_codes s1
  have q2 := sorted_codes s2
  have : ds = es := List.Perm.eq_of_pairwise (fun _ _ _ _ h h' => Nat.le_antisymm h h') q1 q2 (p1.trans (hab.trans p2.symm))
  rw [this]
theorem ones_ok {ss : List Str} {a : List Nat} (h : ss.Perm (a.map one)) (ha : ∀ d ∈ a, d ∈ sgn) : ∀ s ∈ ss, PyData.strOk s = true := fun s hs => by
  obtain ⟨n, hn, rfl⟩ := List.mem_map.mp (h.mem_iff.mp hs)
  exact (by decide +kernel : ∀ d ∈ sgn, PyData.strOk (one d) = true) n (ha n hn)
section
variable {prog : Program} {w : World} {A : Around} {E : Value → Shared → Prop} {s : Shared} {a b : Addr} {xs ys : List Value} {Q : Value → Shared → Prop}
theorem ne_sorted {ss tt : List Str} {o rs : List Nat} (ha : s.heap.IsList a xs.toArray) (hb : s.heap.IsList b ys.toArray) (hi : StrsAre xs ss) (hj : StrsAre ys tt) (h1 : ss.Perm (PyProof.Rows.signs (tx o))) (h2 : tt.Perm (PyProof.Rows.signs (tx rs))) (s1 : sortedS ss = true) (s2 : sortedS tt = true)
    (hor : o.Perm rs) (hrs : ∀ d ∈ rs, d ∈ sgn) (hu : A.units + 64 < cLine) (h : Q (.bool false) s) : wpAny (model prog w) A (compareOp .NotEq (.ref a) (.ref b)) Q E s := by
  have e : ss = tt := sorted_same h1 h2 hor s1 s2
  refine ne_strs ha hb hi hj (ones_ok h1 fun d hd => hrs d (hor.mem_iff.mp hd)) (ones_ok h2 hrs) hu ?_
  rw [e, decide_eq_true rfl]
  exact h
end
theorem three_outs {rs : List Nat} {t0 t1 t2 : Tok} {i : Nat} {v : Value} (h : (#[Value.str (tx (pileF [] [] rs)) t0, .str (tx (lineG [] [] rs)) t1, .str (tx (handR rs)) t2] : Array Value)[i]? = some v) (hl : rs.length = 5) :
    ∃ o t, v = .str (tx o) t ∧ o.Perm rs ∧ (tx o).cps.size < 64 := by
  have key : ∀ o : List Nat, o.Perm rs → (tx o).cps.size < 64 := fun o p => by
    have := p.length_eq
    show o.toArray.size < 64
    rw [List.size_toArray]; omega
  refine at3 (P := fun _ v => ∃ o t, v = Value.str (tx o) t ∧ o.Perm rs ∧ (tx o).cps.size < 64) h ?_ ?_ ?_
  · have p : (pileF [] [] rs).Perm rs := by simpa using pile_perm rs [] []
    exact ⟨_, t0, rfl, p, key _ p⟩
  · have p : (lineG [] [] rs).Perm rs := by simpa using line_perm rs [] []
    exact ⟨_, t1, rfl, p, key _ p⟩
  · have p : (handR rs).Perm rs := by
      cases rs with
      | nil => cases hl
      | cons c r => exact hand_perm r c
    exact ⟨_, t2, rfl, p, key _ p⟩
end Mine
end

section
open PySem PySem.W PyProof.Rows PySem.Spec PySem.Calls LCg LCt
set_option maxRecDepth 100000
namespace Mine
section
variable {prog : Program} {w : World} {A : Around} {E : Value → Shared → Prop} {R : Result → Shared → Prop} {s : Shared}
theorem turn_outer (elt t0 iter0 t1 iter1 : Expr) (ifs1 : List Expr) (scope : Scope) (pos : Pos) (it acc : Value) (env : Env) :
    compTurn (.ListComp elt [⟨t0, iter0, [], 0⟩, ⟨t1, iter1, ifs1, 0⟩] scope pos) 0 it acc env = (standAt iter0.pos >>= fun _ => pyNext it >>= fun r => match r with
      | none => pure (.done .next)
      | some v => letOwnedTupleGo t0 it v >>= fun _ => assign t0 env v >>= fun _ =>
        eval iter1 env >>= fun x => standAt iter1.pos >>= fun _ => foldedSetIterable iter1 env x >>= fun x => holding [x] (pyIter x) >>= fun it1 =>
          runOwn (.compStart (.ListComp elt [⟨t0, iter0, [], 0⟩, ⟨t1, iter1, ifs1, 0⟩] scope pos) 1 it1 acc env) env >>= fun _ =>
          again (.compLoop (.ListComp elt [⟨t0, iter0, [], 0⟩, ⟨t1, iter1, ifs1, 0⟩] scope pos) 0 it acc env)) := by rfl
theorem turn_inner (elt t0 iter0 t1 iter1 : Expr) (ifs1 : List Expr) (scope : Scope) (pos : Pos) (it acc : Value) (env : Env) :
    compTurn (.ListComp elt [⟨t0, iter0, [], 0⟩, ⟨t1, iter1, ifs1, 0⟩] scope pos) 1 it acc env = (do
      standAt iter1.pos
      match ← pyNext it with
      | none => pure (.done .next)
      | some v =>
        letOwnedTupleGo t1 it v
        assign t1 env v
        let mut ok := true
        for c in ifs1 do
          if ok then ok ← isTrue c env (eval c env)
        if ok then
          (do let _ ← call (.builtin "list.append") [acc, ← eval elt env])
        again (.compLoop (.ListComp elt [⟨t0, iter0, [], 0⟩, ⟨t1, iter1, ifs1, 0⟩] scope pos) 1 it acc env)) := by rfl
theorem compStart1 {elt t0 iter0 t1 iter1 : Expr} {ifs1 : List Expr} {scope : Scope} {pos : Pos} {it acc : Value} {env : Env}
    (h0 : codeAny (model prog w) A (.compLoop (.ListComp elt [⟨t0, iter0, [], 0⟩, ⟨t1, iter1, ifs1, 0⟩] scope pos) 1 it acc env) R s)
    (h : wpAny (model prog w) A (pyIter it) (fun it' s' => codeAny (model prog w) A (.compLoop (.ListComp elt [⟨t0, iter0, [], 0⟩, ⟨t1, iter1, ifs1, 0⟩] scope pos) 1 it' acc env) R s')
      (notedBy (model prog w) A env fun x s' => R (.error x) s') s) :
    codeAny (model prog w) A (.compStart (.ListComp elt [⟨t0, iter0, [], 0⟩, ⟨t1, iter1, ifs1, 0⟩] scope pos) 1 it acc env) R s := by
  refine codeAny_of_tree ?_
  show wpAny _ _ ((compStart (.ListComp elt [⟨t0, iter0, [], 0⟩, ⟨t1, iter1, ifs1, 0⟩] scope pos) 1 it acc env).onRaise (fun x => do noteFrame x env; standAt theWindowsPlace)) _ _ s
  refine wpAny_notedAt ?_
  unfold compStart
  show wpAny _ _ (ask >>= _) _ _ s
  refine wpAny_bind (wpAny_askSetting (wpAny_ite ?_))
  split
  · first
      | exact wpAny_bind (wpAny_pure (wpAny_pure (And.intro rfl h0)))
      | exact wpAny_pure (And.intro rfl h0)
  · first
      | exact wpAny_bind (wpAny_rule (wpAny_bind (wpAny_standAt (wpAny_bind (wpAny_mono h (fun it' s' h' => wpAny_pure (And.intro rfl h')) fun _ _ x => x)))))
      | (refine wpAny_bind (wpAny_rule ?_); show wpAny _ _ (standAt iter1.pos >>= _) _ _ s; exact wpAny_bind (wpAny_standAt (wpAny_bind (wpAny_mono h (fun it' s' h' => wpAny_pure (And.intro rfl h')) fun _ _ x => x))))
theorem compLoop1 {elt t0 iter0 t1 iter1 : Expr} {ifs : List Expr} {scope : Scope} {pos : Pos} {it acc : Value} {env : Env} (I : Nat → Shared → Prop)
    (turn : ∀ n s, I n s → wpAny (model prog w) A (pyNext it) (fun r s₁ => match r with
      | none => R (.ok .next) s₁
      | some v => wpAny (model prog w) A (assign t1 env v) (fun _ s₂ =>
          wpAny (model prog w) A (forIn ifs true fun c r => if r = true then do let ok ← isTrue c env (eval c env); pure (ForInStep.yield ok) else pure (ForInStep.yield r)) (fun ok s₃ =>
            if ok = true then wpAny (model prog w) A (eval elt env) (fun x s₄ =>
              wpAny (model prog w) A (call (.builtin "list.append") [acc, x]) (fun _ s₅ => ∃ m, m < n ∧ I m s₅) (notedBy (model prog w) A env fun e s' => R (.error e) s') s₄) (notedBy (model prog w) A env fun e s' => R (.error e) s') s₃
            else ∃ m, m < n ∧ I m s₃) (notedBy (model prog w) A env fun e s' => R (.error e) s') s₂) (notedBy (model prog w) A env fun e s' => R (.error e) s') s₁) (notedBy (model prog w) A env fun e s' => R (.error e) s') s)
    (n : Nat) (h : I n s) (ht : ∀ v, letOwnedTupleGo t1 it v = pure () := by intro _; rfl) :
    codeAny (model prog w) A (.compLoop (.ListComp elt [⟨t0, iter0, [], 0⟩, ⟨t1, iter1, ifs, 0⟩] scope pos) 1 it acc env) R s := by
  refine codeAny_loop rfl I (fun n s hI => ?_) n h
  show wpAny _ A ((compTurn (.ListComp elt [⟨t0, iter0, [], 0⟩, ⟨t1, iter1, ifs, 0⟩] scope pos) 1 it acc env).onRaise (fun x => do noteFrame x env; theTreesLotGoes x)) _ _ s
  refine wpAny_noted ?_
  rw [turn_inner]
  refine wpAny_bind (wpAny_standAt (wpAny_bind (wpAny_mono (turn n s hI) (fun r s₁ h₁ => ?_) fun _ _ h' => h')))
  cases r with
  | none => exact wpAny_pure h₁
  | some v =>
    refine wpAny_bind (wpAny_of_eq (ht v) ?_)
    refine wpAny_bind (wpAny_mono h₁ (fun _ s₂ h₂ => wpAny_bind (wpAny_mono h₂ (fun ok s₃ h₃ => ?_) fun _ _ h' => h')) fun _ _ h' => h')
    cases ok with
    | false => exact wpAny_pure ⟨rfl, h₃⟩
    | true =>
      exact wpAny_bind (wpAny_bind (wpAny_mono h₃ (fun x s₄ h₄ => wpAny_bind (wpAny_mono h₄ (fun _ s₅ h₅ => wpAny_pure (wpAny_pure ⟨rfl, h₅⟩)) fun _ _ h' => h')) fun _ _ h' => h'))
theorem compLoop0 {elt t0 iter0 t1 iter1 : Expr} {ifs : List Expr} {scope : Scope} {pos : Pos} {it acc : Value} {env : Env} (I : Nat → Shared → Prop)
    (turn : ∀ n s, I n s → wpAny (model prog w) A (pyNext it) (fun r s₁ => match r with
      | none => R (.ok .next) s₁
      | some v => wpAny (model prog w) A (assign t0 env v) (fun _ s₂ => wpAny (model prog w) A (eval iter1 env) (fun x s₃ => wpAny (model prog w) A (pyIter x) (fun it1 s₄ =>
          codeAny (model prog w) A (.compStart (.ListComp elt [⟨t0, iter0, [], 0⟩, ⟨t1, iter1, ifs, 0⟩] scope pos) 1 it1 acc env) (fun r s' => match r with | .ok _ => ∃ m, m < n ∧ I m s' | .error x => cameBackBy (model prog w) A env (notedBy (model prog w) A env fun e s' => R (.error e) s') x s') s₄)
          (notedBy (model prog w) A env fun e s' => R (.error e) s') s₃) (notedBy (model prog w) A env fun e s' => R (.error e) s') s₂) (notedBy (model prog w) A env fun e s' => R (.error e) s') s₁) (notedBy (model prog w) A env fun e s' => R (.error e) s') s)
    (n : Nat) (h : I n s) (ht : ∀ v, letOwnedTupleGo t0 it v = pure () := by intro _; rfl) (hs : ∀ x, foldedSetIterable iter1 env x = pure x := by intro _; rfl) :
    codeAny (model prog w) A (.compLoop (.ListComp elt [⟨t0, iter0, [], 0⟩, ⟨t1, iter1, ifs, 0⟩] scope pos) 0 it acc env) R s := by
  refine codeAny_loop rfl I (fun n s hI => ?_) n h
  show wpAny _ A ((compTurn (.ListComp elt [⟨t0, iter0, [], 0⟩, ⟨t1, iter1, ifs, 0⟩] scope pos) 0 it acc env).onRaise (fun x => do noteFrame x env; theTreesLotGoes x)) _ _ s
  refine wpAny_noted ?_
  rw [turn_outer]
  refine wpAny_bind (wpAny_standAt (wpAny_bind (wpAny_mono (turn n s hI) (fun r s₁ h₁ => ?_) fun _ _ h' => h')))
  cases r with
  | none => exact wpAny_pure h₁
  | some v =>
    refine wpAny_bind (wpAny_of_eq (ht v) ?_)
    refine wpAny_bind (wpAny_mono h₁ (fun _ s₂ h₂ => wpAny_bind (wpAny_mono h₂ (fun x s₃ h₃ => wpAny_bind (wpAny_standAt (wpAny_bind (wpAny_of_eq (hs x) (wpAny_bind (wpAny_holding (wpAny_mono h₃ (fun it1 s₄ h₄ => ?_) fun _ _ h' => h'))))))) fun _ _ h' => h')) fun _ _ h' => h')
    refine wpAny_bind (wpAny_runOwn (codeAny_mono (by rw [Around.mark_none]; exact h₄) fun r s' hr => ?_))
    cases r with
    | ok f => exact wpAny_pure ⟨rfl, hr⟩
    | error e => exact hr
end
end Mine
end

section
open PySem PySem.W PyProof.Rows PySem.Spec PySem.Calls LCg LCt
set_option maxRecDepth 100000
namespace Mine
section
variable {prog : Program} {w : World} {A : Around} {E : Value → Shared → Prop} {R : Result → Shared → Prop} {s : Shared} {h₀ : Heap} {L : Addr} {m : Str → Option Value} {env : Env}
def InTurn (prog : Program) (w : World) (A : Around) (h₀ : Heap) (L : Addr) (m : Str → Option Value) (env : Env) (ct elt : Expr) (xn xc : Str) (scope : Scope) (cl : List (Str × Addr)) (s : Shared) (vi : Value) (its : Array Value) (tb : Nat → Bool) (g : Nat → Str) (nw : List (Addr × Obj)) : Prop :=
  ∀ j v I oI C oC D m₂ ys J oJ h tk (E' : Value → Shared → Prop), its[j]? = some v → NsObj oC m₂ → m₂ xc = some v → m₂ xn = some vi → Fr h₀ L h m → News h₀ L h ((I, oI) :: (C, oC) :: (D, lst ys) :: (J, oJ) :: nw) → Off3 I C D ((J, oJ) :: nw) → ((@Ne Nat I C) ∧ (@Ne Nat I D) ∧ (@Ne Nat C D)) →
    wpAny (model prog w) A (isTrue ct (compEnvC scope cl C env) (eval ct (compEnvC scope cl C env))) (fun ok s' => if ok = true then tb j = true ∧
      wpAny (model prog w) A (eval elt (compEnvC scope cl C env)) (CompEnd h₀ L m { s with heap := h, toks := tk } I oI C oC D (lst ys) (fun _ => True) (fun y news' => news' = (J, oJ) :: nw ∧ ∃ t, y = .str (g j) t)) E' s'
      else tb j = false ∧ CompEnd h₀ L m { s with heap := h, toks := tk } I oI C oC D (lst ys) (fun _ => True) (fun _ news' => news' = (J, oJ) :: nw) Value.none s') E' { s with heap := h, toks := tk }
theorem range_succ_t (tb : Nat → Bool) (g : Nat → Str) (j : Nat) (h : tb j = true) : ((List.range (j + 1)).filter tb).map g = ((List.range j).filter tb).map g ++ [g j] := by
  rw [List.range_succ, List.filter_append, List.map_append]
  simp [h]
theorem range_succ_f (tb : Nat → Bool) (g : Nat → Str) (j : Nat) (h : tb j = false) : ((List.range (j + 1)).filter tb).map g = ((List.range j).filter tb).map g := by
  rw [List.range_succ, List.filter_append, List.map_append]
  simp [h]
inductive InSt (h₀ : Heap) (L : Addr) (m : Str → Option Value) (xn : Str) (vi : Value) (I D S J C : Addr) (oI : Obj) (its : Array Value) (nw : List (Addr × Obj)) (tb : Nat → Bool) (g : Nat → Str) (base : List Str) (n0 : Nat) (s : Shared) (n : Nat) (s' : Shared) : Prop
  | mk (h' : Heap) (tk' j : Nat) (ys : List Value) (m' : Str → Option Value) (e : s' = { s with heap := h', toks := tk' }) (hj : j ≤ its.size) (hn : n = its.size + 1 - j) (hys : StrsAre ys (base ++ ((List.range j).filter tb).map g)) (hyl : ys.length ≤ n0 + j)
      (hst : h'.IsListIter J S j ∧ h'.IsList S its) (F' : Fr h₀ L h' m) (hn' : h'.Ns C m') (hxi' : m' xn = some vi) (N' : News h₀ L h' ((I, oI) :: (D, lst ys) :: nw))
theorem inner_loop {ct elt iter0 iter1 : Expr} {xn xc : Str} {px pc : Pos} {scope : Scope} {cl : List (Str × Addr)} {pos : Pos} {I C D S : Addr} {oI : Obj} {its : Array Value} {k : Nat} {nw : List (Addr × Obj)} {h : Heap} {tk : Nat} {ys0 : List Value} {base : List Str} {m₁ : Str → Option Value} {vi : Value} {tb : Nat → Bool} {g : Nat → Str}
    (hh : A.handled = none) (hkind : scope.kind = .function) (hxc : scope.names.lookup xc = some .local) (hnc : xn ≠ xc) (hsz : ys0.length + its.size ≤ sizeLine) (hy : StrsAre ys0 base)
    (F : Fr h₀ L h m) (N : News h₀ L h ((I, oI) :: (D, lst ys0) :: nw)) (hC : h.Ns C m₁) (hC₀ : h₀.get? C = none) (hCL : C ≠ L) (off : Off3 I C D nw) (ne : (@Ne Nat I C) ∧ (@Ne Nat I D) ∧ (@Ne Nat C D))
    (hS : (S, ({ cls := .type "list", data := .seq its k } : Obj)) ∈ nw) (hxi : m₁ xn = some vi)
    (turn : InTurn prog w A h₀ L m env ct elt xn xc scope cl s vi its tb g nw)
    (fin : ∀ h' tk' ys m', StrsAre ys (base ++ ((List.range its.size).filter tb).map g) → ys.length ≤ ys0.length + its.size → Fr h₀ L h' m → h'.Ns C m' → News h₀ L h' ((I, oI) :: (D, lst ys) :: nw) → R (.ok .next) { s with heap := h', toks := tk' }) :
    wpAny (model prog w) A (pyIter (.ref S)) (fun it1 s₄ => codeAny (model prog w) A (.compStart (.ListComp elt [⟨.Name xn px, iter0, [], 0⟩, ⟨.Name xc pc, iter1, [ct], 0⟩] scope pos) 1 it1 (.ref D) (compEnvC scope cl C env)) R s₄) E { s with heap := h, toks := tk } := by
  have hSo := (N _ (.tail _ (.tail _ hS))).1
  have hl : h.IsList S its := ⟨_, hSo, rfl, k, rfl⟩
  have hlt : S < h.objs.size := Heap.lt_size hSo
  obtain ⟨oC₀, heC₀, _⟩ := ns_obj hC
  refine wpAny_pyIter_list hl ?_
  have up : ∀ b o, h.get? b = some o → (h.push { cls := .type "list_iterator", data := .fields #[.ref S, .int 0 0] }).get? b = some o := fun b o e => Heap.get?_push_of_some _ e
  have W := Walks.list (prog := prog) (w := w) hh h.objs.size S (Nat.ne_of_lt hlt) its
  have hJL : L ≠ h.objs.size := Nat.ne_of_lt F.ns.lt
  have hJ₀ : h₀.get? h.objs.size = none := next_is_new F
  have hJn : ∀ p ∈ nw, p.1 ≠ h.objs.size := fun p hp => Nat.ne_of_lt (Heap.lt_size (N p (.tail _ (.tail _ hp))).1)
  have hJI : I ≠ h.objs.size := Nat.ne_of_lt (Heap.lt_size (N (I, oI) (.head _)).1)
  have hJD : D ≠ h.objs.size := Nat.ne_of_lt (Heap.lt_size (N (D, lst ys0) (.tail _ (.head _))).1)
  have hJC : C ≠ h.objs.size := Nat.ne_of_lt (Heap.lt_size heC₀)
  have off₀ := off.mem
  have offJ : ∀ oJ, Off3 I C D ((h.objs.size, oJ) :: nw) := fun oJ => ⟨⟨Ne.symm hJI, Ne.symm hJC, Ne.symm hJD⟩, off⟩
  have hIL := (N (I, oI) (.head _)).2.1
  have hI₀ := (N (I, oI) (.head _)).2.2
  have hDL := (N (D, lst ys0) (.tail _ (.head _))).2.1
  have hD₀ := (N (D, lst ys0) (.tail _ (.head _))).2.2
  have loop : codeAny (model prog w) A (.compLoop (.ListComp elt [⟨.Name xn px, iter0, [], 0⟩, ⟨.Name xc pc, iter1, [ct], 0⟩] scope pos) 1 (.ref h.objs.size) (.ref D) (compEnvC scope cl C env)) R
      { s with heap := h.push { cls := .type "list_iterator", data := .fields #[.ref S, .int 0 0] }, toks := tk } := by
    refine compLoop1 (InSt h₀ L m xn vi I D S h.objs.size C oI its nw tb g base ys0.length s) ?_ (its.size + 1)
      (.mk _ tk 0 ys0 m₁ rfl (Nat.zero_le _) rfl (by simpa using hy) (Nat.le_refl _) ⟨⟨_, Heap.get?_push_size _ rfl, rfl, rfl⟩, hl.push _⟩ (F.keeps up) (hC.at' fun o e => up _ o e) hxi (N.grown up))
    rintro n s' ⟨h', tk', j, ys, m', rfl, hj, rfl, hys, hyl, hst, F', hn', hxi', N'⟩
    by_cases hlt2 : j < its.size
    · refine W.item j _ _ _ hlt2 hst fun v h₂ tk₂ hPv hst₂ hk₂ => ?_
      refine wpAny_assign_Name (wpAny_storeName_local (lookup_relabel_local hxc) (hn'.at' fun o e => hk₂ _ o (by simpa using hJC) e) (fun h₃ hn₃ hs₃ => ?_) (by simp [compEnvC, relabel, hkind]))
      refine wpAny_tests_one ?_
      have hst₃ := W.frame _ _ _ hst₂ fun b hb o e => hs₃.extBut b o (fun q => by
        have q' : b = C := q
        subst q'
        rcases List.mem_cons.mp hb with h1 | h1
        · exact hJC h1
        · rw [List.mem_singleton.mp h1] at off₀
          exact (off₀ _ hS).2.1 rfl) e
      obtain ⟨oJ, heJ, hoJ⟩ := id hst₃.1
      obtain ⟨oC, heC, hoC⟩ := ns_obj hn₃
      have F₃ : Fr h₀ L h₃ m := (fr_but F' hk₂ hJL hJ₀).change hs₃ hCL hC₀
      have N₂ : News h₀ L h₂ ((I, oI) :: (D, lst ys) :: nw) := news_but N' hk₂ fun p hp => by
        rcases List.mem_cons.mp hp with rfl | hp
        · exact hJI
        · rcases List.mem_cons.mp hp with rfl | hp
          · exact hJD
          · exact hJn p hp
      have N₃ : News h₀ L h₃ ((I, oI) :: (C, oC) :: (D, lst ys) :: (h.objs.size, oJ) :: nw) := fun p hp => by
        rcases List.mem_cons.mp hp with rfl | hp
        · exact ⟨hs₃.extBut _ _ ne.1 (N₂ (I, oI) (.head _)).1, hIL, hI₀⟩
        · rcases List.mem_cons.mp hp with rfl | hp
          · exact ⟨heC, hCL, hC₀⟩
          · rcases List.mem_cons.mp hp with rfl | hp
            · exact ⟨hs₃.extBut _ _ (Ne.symm ne.2.2) (N₂ (D, lst ys) (.tail _ (.head _))).1, hDL, hD₀⟩
            · rcases List.mem_cons.mp hp with rfl | hp
              · exact ⟨heJ, Ne.symm hJL, hJ₀⟩
              · have z := N₂ p (.tail _ (.tail _ hp))
                exact ⟨hs₃.extBut _ _ (off₀ p hp).2.1 z.1, z.2⟩
      refine wpAny_mono (turn j v I oI C oC D _ ys h.objs.size oJ h₃ _ _ hPv hoC (by simp) (by show (if xn = xc then some v else m' xn) = some vi; rw [if_neg hnc]; exact hxi') F₃ N₃ (offJ oJ) ne) (fun ok s₄ h₄ => ?_) fun _ _ e => e
      cases ok with
      | true =>
        simp only [if_true] at h₄ ⊢
        refine wpAny_mono h₄.2 (fun y s₅ h₅ => ?_) fun _ _ e => e
        obtain ⟨h₄', tk₄, news₄, rfl, F₄, N₄, off₄, _, rfl, t, rfl⟩ := h₅
        have zC := (N₄ (C, oC) (.tail _ (.head _))).1
        have zD := (N₄ (D, lst ys) (.tail _ (.tail _ (.head _)))).1
        have zJ := (N₄ (h.objs.size, oJ) (.tail _ (.tail _ (.tail _ (.head _))))).1
        have zS := (N₄ _ (.tail _ (.tail _ (.tail _ (.tail _ hS))))).1
        refine append_at (hsz := by show ys.toArray.size ≤ sizeLine; rw [List.size_toArray]; omega) zD fun h₅ hs₅ hD₅ => ?_
        have dif : ∀ {b : Addr}, b ≠ D → ∀ o, h₄'.get? b = some o → h₅.get? b = some o := fun hb o e => hs₅.extBut _ o hb e
        refine ⟨its.size + 1 - (j + 1), by omega, .mk h₅ tk₄ (j + 1) (ys ++ [.str (g j) t]) _ rfl hlt2 rfl ?_ (by rw [List.length_append, List.length_singleton]; omega) ⟨?_, ⟨_, dif (fun q => (off₀ _ hS).2.2 q) _ zS, rfl, k, rfl⟩⟩ (F₄.change hs₅ hDL hD₀) ((hoC.ns zC).sameBut hs₅ ne.2.2) ?_ fun p hp => ?_⟩
        · rw [range_succ_t tb g j h₄.1, ← List.append_assoc]
          exact strs_snoc hys
        · obtain ⟨o', q, r⟩ := hst₃.1
          rw [heJ] at q
          cases q
          exact ⟨oJ, dif (Ne.symm hJD) _ zJ, r⟩
        · show (if xn = xc then some v else m' xn) = some vi
          rw [if_neg hnc]; exact hxi'
        · rcases List.mem_cons.mp hp with rfl | hp
          · exact ⟨dif ne.2.1 _ (N₄ (I, oI) (.head _)).1, hIL, hI₀⟩
          · rcases List.mem_cons.mp hp with rfl | hp
            · exact ⟨hD₅.trans (congrArg some (lst_snoc ys _)), hDL, hD₀⟩
            · have z := N₄ p (.tail _ (.tail _ (.tail _ (.tail _ hp))))
              exact ⟨dif (off₀ p hp).2.2 _ z.1, z.2⟩
      | false =>
        simp only [Bool.false_eq_true, if_false] at h₄ ⊢
        obtain ⟨htb, h₄', tk₄, news₄, rfl, F₄, N₄, off₄, _, rfl⟩ := h₄
        have zC := (N₄ (C, oC) (.tail _ (.head _))).1
        have zJ := (N₄ (h.objs.size, oJ) (.tail _ (.tail _ (.tail _ (.head _))))).1
        have zS := (N₄ _ (.tail _ (.tail _ (.tail _ (.tail _ hS))))).1
        refine ⟨its.size + 1 - (j + 1), by omega, .mk h₄' tk₄ (j + 1) ys _ rfl hlt2 rfl ?_ (Nat.le_succ_of_le hyl) ⟨?_, ⟨_, zS, rfl, k, rfl⟩⟩ F₄ (hoC.ns zC) ?_ fun p hp => ?_⟩
        · rw [range_succ_f tb g j htb]
          exact hys
        · obtain ⟨o', q, r⟩ := hst₃.1
          rw [heJ] at q
          cases q
          exact ⟨oJ, zJ, r⟩
        · show (if xn = xc then some v else m' xn) = some vi
          rw [if_neg hnc]; exact hxi'
        · rcases List.mem_cons.mp hp with rfl | hp
          · exact N₄ (I, oI) (.head _)
          · rcases List.mem_cons.mp hp with rfl | hp
            · exact N₄ (D, lst ys) (.tail _ (.tail _ (.head _)))
            · exact N₄ p (.tail _ (.tail _ (.tail _ (.tail _ hp))))
    · obtain rfl : j = its.size := Nat.le_antisymm hj (Nat.not_lt.mp hlt2)
      refine W.done _ _ _ hst fun h₂ tk₂ hk₂ => ?_
      refine fin h₂ tk₂ ys m' hys hyl (fr_but F' hk₂ hJL hJ₀) (hn'.at' fun o e => hk₂ _ o (by simpa using hJC) e) (news_but N' hk₂ fun p hp => ?_)
      rcases List.mem_cons.mp hp with rfl | hp
      · exact hJI
      · rcases List.mem_cons.mp hp with rfl | hp
        · exact hJD
        · exact hJn p hp
  exact compStart1 loop (W.self 0 _ _ _ ⟨⟨_, Heap.get?_push_size _ rfl, rfl, rfl⟩, hl.push _⟩ loop)
end
end Mine
end

section
open PySem PySem.W PyProof.Rows PySem.Spec PySem.Calls LCg LCt
set_option maxRecDepth 100000
namespace Mine
section
variable {prog : Program} {w : World} {A : Around} {E : Value → Shared → Prop} {s : Shared} {h₀ : Heap} {L : Addr} {m : Str → Option Value} {env : Env}
inductive SliceAt (prog : Program) (w : World) (A : Around) (h₀ : Heap) (L : Addr) (m : Str → Option Value) (env : Env) (ct elt : Expr) (xn xc : Str) (scope : Scope) (cl : List (Str × Addr)) (s : Shared) (vi : Value) (tb : Nat → Bool) (g : Nat → Str) (cnt : Nat) (news : List (Addr × Obj))
    (I : Addr) (oI : Obj) (C : Addr) (oC : Obj) (D : Addr) (ys : List Value) (xv : Value) (s₃ : Shared) : Prop
  | mk (S : Addr) (its : Array Value) (k : Nat) (nw : List (Addr × Obj)) (h' : Heap) (tk' : Nat) (c0 : xv = .ref S) (c1 : s₃ = { s with heap := h', toks := tk' }) (c2 : Fr h₀ L h' m) (c3 : News h₀ L h' ((I, oI) :: (C, oC) :: (D, lst ys) :: nw)) (c4 : Off3 I C D nw) (c5 : (S, ({ cls := .type "list", data := .seq its k } : Obj)) ∈ nw) (c6 : (∀ p ∈ news, p ∈ nw)) (c7 : its.size = cnt) (c8 : InTurn prog w A h₀ L m env ct elt xn xc scope cl s vi its tb g nw)
def OutTurn (prog : Program) (w : World) (A : Around) (h₀ : Heap) (L : Addr) (m : Str → Option Value) (env : Env) (iter1 ct elt : Expr) (xn xc : Str) (scope : Scope) (cl : List (Str × Addr)) (s : Shared) (n : Nat) (tb : Nat → Nat → Bool) (g : Nat → Nat → Str) (cnt : Nat → Nat) (news : List (Addr × Obj)) : Prop :=
  ∀ i t I oI C oC D m₂ ys h tk (E' : Value → Shared → Prop), i < n → NsObj oC m₂ → m₂ xn = some (.int (i : Int) t) → Fr h₀ L h m → News h₀ L h ((I, oI) :: (C, oC) :: (D, lst ys) :: news) → Off3 I C D news → ((@Ne Nat I C) ∧ (@Ne Nat I D) ∧ (@Ne Nat C D)) →
    wpAny (model prog w) A (eval iter1 (compEnvC scope cl C env)) (SliceAt prog w A h₀ L m env ct elt xn xc scope cl s (.int (i : Int) t) (tb i) (g i) (cnt i) news I oI C oC D ys) E' { s with heap := h, toks := tk }
def twoS (tb : Nat → Nat → Bool) (g : Nat → Nat → Str) (cnt : Nat → Nat) (n : Nat) : List Str := (List.range n).flatMap fun i => ((List.range (cnt i)).filter (tb i)).map (g i)
theorem twoS_succ (tb : Nat → Nat → Bool) (g : Nat → Nat → Str) (cnt : Nat → Nat) (n : Nat) : twoS tb g cnt (n + 1) = twoS tb g cnt n ++ ((List.range (cnt n)).filter (tb n)).map (g n) := by
  unfold twoS
  rw [List.range_succ, List.flatMap_append]
  simp
inductive OutSt (h₀ : Heap) (L : Addr) (m : Str → Option Value) (I C D : Addr) (n : Nat) (tb : Nat → Nat → Bool) (g : Nat → Nat → Str) (cnt : Nat → Nat) (news : List (Addr × Obj)) (s₂ : Shared) (k : Nat) (s' : Shared) : Prop
  | mk (h' : Heap) (tk i : Nat) (ys : List Value) (m' : Str → Option Value) (e : s' = { s₂ with heap := h', toks := tk }) (hi : i ≤ n) (hk : k = n + 1 - i) (hys : StrsAre ys (twoS tb g cnt i)) (hyl : ys.length ≤ 23 * i) (hst : IsRangeIter h' I ((0 : Int) + (i : Nat) * 1) ((n : Int) - (i : Nat)) 1)
      (F : Fr h₀ L h' m) (hn : h'.Ns C m') (N : News h₀ L h' ((D, lst ys) :: news))
theorem block_two {ct elt iter0 iter1 : Expr} {xn xc : Str} {px pc : Pos} {scope : Scope} {cl : List (Str × Addr)} {pos : Pos} {s₂ : Shared} {I : Addr} {n : Nat} {news : List (Addr × Obj)} {tb : Nat → Nat → Bool} {g : Nat → Nat → Str} {cnt : Nat → Nat} {RR : Value → Addr → Result → Shared → Prop}
    (hh : A.handled = none) (hn23 : n ≤ 23) (hcnt : ∀ i, i < n → cnt i ≤ 23)
    (hcell : ∀ y ∈ scope.names, y.2 ≠ .cell) (hkind : scope.kind = .function) (hxn : scope.names.lookup xn = some .local) (hxc : scope.names.lookup xc = some .local) (hnc : xn ≠ xc) (hst : IsRangeIter s₂.heap I ((0 : Int) + (0 : Nat) * 1) ((n : Int) - (0 : Nat)) 1) (hIlt : I < s₂.heap.objs.size)
    (F : Fr h₀ L s₂.heap m) (N : News h₀ L s₂.heap news) (hIL : L ≠ I) (hI₀ : h₀.get? I = none) (off : ∀ p ∈ news, p.1 ≠ I)
    (turn : OutTurn prog w A h₀ L m env iter1 ct elt xn xc scope cl s₂ n tb g cnt news) (hs1 : ∀ x, foldedSetIterable iter1 (compEnvC scope cl (s₂.heap.objs.size + 1) env) x = pure x)
    (hRR : ∀ D C h tk m' ys, Fr h₀ L h m → News h₀ L h ((D, lst ys) :: news) → Off1 D news → h.Ns C m' → h₀.get? C = none → h₀.get? D = none → C ≠ L → D ≠ L → C ≠ D → (∀ p ∈ news, p.1 ≠ C) → StrsAre ys (twoS tb g cnt n) → RR (.ref D) C (.ok .next) { s₂ with heap := h, toks := tk }) :
    wpAny (model prog w) A (newList []) (fun acc s₃ => wpAny (model prog w) A (newFunctionEnv scope env.globals cl [] env.qual none .none (some env)) (fun cenv s₄ =>
      codeAny (model prog w) A (.compStart (.ListComp elt [⟨.Name xn px, iter0, [], 0⟩, ⟨.Name xc pc, iter1, [ct], 0⟩] scope pos) 0 (.ref I) acc { cenv with scope := relabel scope env }) (RR acc cenv.locals) s₄) E s₃) E s₂ := by
  have W := range_walks (prog := prog) (w := w) (I := I) hh 0 n
  refine wpAny_newObj_type (wpAny_newFunctionEnv hcell (by intro y hy; simp at hy) (fun h₁ hns₁ hsb₁ => ?_) hkind)
  dsimp only at hns₁ hsb₁ ⊢
  generalize hH2 : s₂.heap.push { cls := .type "list", dict := none, data := .seq ([] : List Value).toArray } = H2 at hns₁ hsb₁ ⊢
  have hC : H2.objs.size = s₂.heap.objs.size + 1 := by rw [← hH2, Heap.size_push]
  rw [← hC] at hs1
  have hDC : s₂.heap.objs.size ≠ H2.objs.size := by rw [hC]; exact Nat.ne_of_lt (Nat.lt_succ_self _)
  have below : ∀ b, b < s₂.heap.objs.size → b ≠ H2.objs.size ∧ b ≠ s₂.heap.objs.size := fun b hb => ⟨by rw [hC]; exact Nat.ne_of_lt (Nat.lt_succ_of_lt hb), Nat.ne_of_lt hb⟩
  have old : ∀ b o, s₂.heap.get? b = some o → h₁.get? b = some o := fun b o e => hsb₁.extBut b o (below b (Heap.lt_size e)).1 (Heap.get?_push_of_some _ (hH2 ▸ Heap.get?_push_of_some _ e))
  have hacc : h₁.get? s₂.heap.objs.size = some (lst []) := hsb₁.extBut _ _ hDC (Heap.get?_push_of_some _ (hH2 ▸ Heap.get?_push_size _ rfl))
  have hst₁ : IsRangeIter h₁ I ((0 : Int) + (0 : Nat) * 1) ((n : Int) - (0 : Nat)) 1 := W.frame 0 _ _ hst fun b _ o e => old b o e
  have fresh : ∀ a, s₂.heap.objs.size ≤ a → s₂.heap.get? a = none := fun a ha => by
    cases e : s₂.heap.get? a with
    | none => rfl
    | some o' => exact absurd (Heap.lt_size e) (Nat.not_lt.mpr ha)
  have fresh₀ : ∀ a, s₂.heap.objs.size ≤ a → h₀.get? a = none := fun a ha => by
    cases e : h₀.get? a with
    | none => rfl
    | some o' => have := F.keep a o' e; rw [fresh a ha] at this; cases this
  have hD₀ : h₀.get? s₂.heap.objs.size = none := fresh₀ _ (Nat.le_refl _)
  have hC₀ : h₀.get? H2.objs.size = none := fresh₀ _ (by rw [hC]; exact Nat.le_succ _)
  have hLlt : L < s₂.heap.objs.size := F.ns.lt
  have hDL : s₂.heap.objs.size ≠ L := Ne.symm (below L hLlt).2
  have hCL : H2.objs.size ≠ L := Ne.symm (below L hLlt).1
  have hCI : I ≠ H2.objs.size := (below I hIlt).1
  have hDI : I ≠ s₂.heap.objs.size := (below I hIlt).2
  have off₀ : Off3 I H2.objs.size s₂.heap.objs.size news := Off3.of fun p hp => ⟨off p hp, (below _ (Heap.lt_size (N p hp).1)).1, (below _ (Heap.lt_size (N p hp).1)).2⟩
  have off3 := off₀.mem
  have loop : ∀ s₃ : Shared, s₃ = { s₂ with heap := h₁, toks := s₂.toks + ([] : List (Str × Value)).length } →
      codeAny (model prog w) A (.compLoop (.ListComp elt [⟨.Name xn px, iter0, [], 0⟩, ⟨.Name xc pc, iter1, [ct], 0⟩] scope pos) 0 (.ref I) (.ref s₂.heap.objs.size) (compEnvC scope cl H2.objs.size env))
        (RR (.ref s₂.heap.objs.size) H2.objs.size) s₃ := by
    rintro s₃ rfl
    refine compLoop0 (hs := hs1)
      (OutSt h₀ L m I H2.objs.size s₂.heap.objs.size n tb g cnt news s₂) ?_ (n + 1)
      (.mk h₁ _ 0 [] _ rfl (Nat.zero_le _) rfl .nil (Nat.le_refl _) hst₁ (F.keeps old) hns₁ fun p hp => ?_)
    · rintro k s' ⟨h', tk, i, ys, m', rfl, hi, rfl, hys, hyl, hst', F', hn', N'⟩
      by_cases hlt : i < n
      · refine W.item i _ _ _ hlt hst' fun v h₂ tk₂ hPv hst₂ hk₂ => ?_
        obtain ⟨t, rfl⟩ := hPv
        have e0 : (0 : Int) + (i : Int) = (i : Int) := Int.zero_add _
        rw [e0]
        refine wpAny_assign_Name (wpAny_storeName_local (lookup_relabel_local hxn) (hn'.at' fun o e => hk₂ _ o (by simpa using Ne.symm hCI) e) (fun h₃ hn₃ hs₃ => ?_) (by simp [compEnvC, relabel, hkind]))
        have hst₃ := W.frame (i + 1) _ _ hst₂ fun b hb o e => hs₃.extBut b o (fun q => by
          have q' : b = H2.objs.size := q
          rw [q'] at hb
          exact hCI (List.mem_singleton.mp hb).symm) e
        obtain ⟨oI, hst₃'⟩ : ∃ oI, h₃.get? I = some oI := ⟨_, hst₃⟩
        obtain ⟨oC, heC, hoC⟩ := ns_obj hn₃
        have F₃ : Fr h₀ L h₃ m := (fr_but F' hk₂ hIL hI₀).change hs₃ hCL hC₀
        have N₂ : News h₀ L h₂ ((s₂.heap.objs.size, lst ys) :: news) := news_but N' hk₂ fun p hp => by
          rcases List.mem_cons.mp hp with rfl | hp
          · exact Ne.symm hDI
          · exact (off3 p hp).1
        have N₃ : News h₀ L h₃ ((I, oI) :: (H2.objs.size, oC) :: (s₂.heap.objs.size, lst ys) :: news) := fun p hp => by
          rcases List.mem_cons.mp hp with rfl | hp
          · exact ⟨hst₃', Ne.symm hIL, hI₀⟩
          · rcases List.mem_cons.mp hp with rfl | hp
            · exact ⟨heC, hCL, hC₀⟩
            · have z := N₂ p hp
              refine ⟨hs₃.extBut _ _ ?_ z.1, z.2⟩
              rcases List.mem_cons.mp hp with rfl | hp
              · exact hDC
              · exact (off3 p hp).2.1
        refine wpAny_mono (turn i t I oI H2.objs.size oC s₂.heap.objs.size _ ys h₃ _ _ hlt hoC (by simp) F₃ N₃ off₀ ⟨hCI, hDI, Ne.symm hDC⟩) (fun xv s₄ h₄ => ?_) fun _ _ e => e
        obtain ⟨S, its, ks, nw, h₅, tk₅, rfl, rfl, F₅, N₅, off₅, hS, hsub, hcn, hin⟩ := h₄
        have zC := (N₅ (H2.objs.size, oC) (.tail _ (.head _))).1
        have hc := hcnt i hlt
        have hbig : (1000 : Nat) ≤ sizeLine := by rw [sizeLine_eq]; exact Nat.le_of_ble_eq_true rfl
        have hmul : 23 * i ≤ 23 * 23 := Nat.mul_le_mul_left 23 (by omega)
        refine inner_loop (oI := oI) hh hkind hxc hnc (by omega) hys F₅ (fun p hp => ?_) (hoC.ns zC) hC₀ hCL off₅ ⟨hCI, hDI, Ne.symm hDC⟩ hS (by simp) hin fun h₆ tk₆ ys₆ m₆ hys₆ hyl₆ F₆ hn₆ N₆ => ?_
        · rcases List.mem_cons.mp hp with rfl | hp
          · exact N₅ _ (.head _)
          · exact N₅ p (.tail _ (.tail _ hp))
        · refine ⟨n + 1 - (i + 1), by omega, .mk h₆ tk₆ (i + 1) ys₆ m₆ rfl hlt rfl ?_ (by omega) ?_ F₆ hn₆ fun p hp => ?_⟩
          · rw [twoS_succ, ← hcn]
            exact hys₆
          · exact range_st (h₀ := h₀) (L := L) (i + 1) h₃ h₆ oI [] hst₃ hst₃' (N₆ (I, oI) (.head _)).1 F₆.keep (fun _ h => absurd h List.not_mem_nil) trivial
          · rcases List.mem_cons.mp hp with rfl | hp
            · exact N₆ _ (.tail _ (.head _))
            · exact N₆ p (.tail _ (.tail _ (hsub p hp)))
      · obtain rfl : i = n := Nat.le_antisymm hi (Nat.not_lt.mp hlt)
        refine W.done _ _ _ hst' fun h₂ tk₂ hk₂ => ?_
        exact hRR _ _ h₂ tk₂ _ ys (fr_but F' hk₂ hIL hI₀) (news_but N' hk₂ fun p hp => by
          rcases List.mem_cons.mp hp with rfl | hp
          · exact Ne.symm hDI
          · exact (off3 p hp).1) off₀.one (hn'.at' fun o e => hk₂ _ o (by simpa using Ne.symm hCI) e) hC₀ hD₀ hCL hDL (Ne.symm hDC) (fun p hp => (off3 p hp).2.1) hys
    · rcases List.mem_cons.mp hp with rfl | hp
      · exact ⟨hacc, hDL, hD₀⟩
      · exact ⟨old _ _ (N p hp).1, (N p hp).2⟩
  exact codeAny_compStart_list (loop _ rfl) (W.self 0 _ _ _ hst₁ (loop _ rfl))
end
end Mine
end

section
open PySem PySem.W PyProof.Rows PySem.Spec PySem.Calls LCg LCt
set_option maxRecDepth 100000
namespace Mine
section
variable {prog : Program} {w : World} {A : Around} {E : Value → Shared → Prop} {s : Shared} {h₀ : Heap} {L : Addr} {m : Str → Option Value} {env : Env}
inductive TwoSrc (prog : Program) (w : World) (A : Around) (h₀ : Heap) (L : Addr) (m : Str → Option Value) (env : Env) (iter1 ct elt : Expr) (xn xc : Str) (scope : Scope) (cl : List (Str × Addr)) (y : Str) (Q : Flow → Shared → Prop) (xv : Value) (s₁ : Shared) : Prop
  | mk (r : Addr) (t u v : Tok) (n : Nat) (news : List (Addr × Obj)) (tb : Nat → Nat → Bool) (g : Nat → Nat → Str) (cnt : Nat → Nat) (c0 : xv = .ref r) (c1 : A.handled = none) (c2 : Fr h₀ L s₁.heap m) (c3 : News h₀ L s₁.heap news) (c4 : IsRange s₁.heap r 0 (n : Int) 1 t u v) (c5 : Builtin.Range.small 0 (n : Int) 1 = true) (c6 : Builtin.Range.rangeSize 0 (n : Int) 1 = ((n : Nat) : Int)) (c7 : n ≤ 23) (c8 : (∀ i, i < n → cnt i ≤ 23)) (c9 : ∀ h₂, OutTurn prog w A h₀ L m env iter1 ct elt xn xc scope cl { s₁ with heap := h₂ } n tb g cnt news ∧ ∀ ys, StrsAre ys (twoS tb g cnt n) → FinA h₀ L m { s₁ with heap := h₂ } y Q ys news)
theorem Assign_two {ct elt iter0 iter1 : Expr} {xn xc y : Str} {px pc py : Pos} {scope : Scope} {cl : List (Str × Addr)} {pos spos : Pos} {Q : Flow → Shared → Prop} (F₀ : Fr h₀ L s.heap m) (hLe : env.locals = L)
    (hsw : swapsWith (.ListComp elt [⟨.Name xn px, iter0, [], 0⟩, ⟨.Name xc pc, iter1, [ct], 0⟩] scope pos) (some (.Name y py)) spos.line env = pure true)
    (hclos : closureFor scope env = pure cl) (hcell : ∀ z ∈ scope.names, z.2 ≠ .cell) (hkind : scope.kind = .function)
    (hnames : ∀ z ∈ scope.names, z.2 = .local → scope.names.lookup z.1 = some .local) (hxn : scope.names.lookup xn = some .local) (hxc : scope.names.lookup xc = some .local) (hnc : xn ≠ xc)
    (hy : env.kindOf y = some .local) (hp : (env.scope.kind == .class || (env.scope.kind == .module && env.locals != env.globals)) = false)
    (h : wpAny (model prog w) A (eval iter0 env) (TwoSrc prog w A h₀ L m env iter1 ct elt xn xc scope cl y Q) E s)
    (hs : ∀ x, foldedSetIterable iter0 env x = pure x := by intro _; rfl) (hs1 : ∀ C x, foldedSetIterable iter1 (compEnvC scope cl C env) x = pure x := by intro _ _; rfl) :
    wpAny (model prog w) A (exec (.Assign [.Name y py] (.ListComp elt [⟨.Name xn px, iter0, [], 0⟩, ⟨.Name xc pc, iter1, [ct], 0⟩] scope pos) spos) env) Q E s := by
  subst hLe
  rw [exec_Assign_Name_used _ _ _ _ hsw]
  refine wpAny_bind (wpAny_standAt (wpAny_bind ?_))
  show wpAny _ A (do let _ ← comprehension (.ListComp elt [⟨.Name xn px, iter0, [], 0⟩, ⟨.Name xc pc, iter1, [ct], 0⟩] scope pos) scope env _ (newList []) false (eval iter0 env) (some (assign (.Name y py) env))) _ _ s
  refine wpAny_bind (wpAny_mono (wpAny_comprehension_free (use := some (assign (.Name y py) env)) (Q := fun _ s' => Q .next s') rfl hs hclos hkind hnames
    (wpAny_mono h (fun xv s₁ h₁ => ?_) fun _ _ e => e)) (fun _ s' hq => wpAny_pure (wpAny_pure hq)) fun _ _ e => e)
  obtain ⟨r, t, u, v, n, news, tb, g, cnt, rfl, hh, F, N, hr, hsm, hn, hn23, hcnt, R⟩ := h₁
  refine wpAny_pyIter_range hr hsm ?_
  refine block_two hh hn23 hcnt hcell hkind hxn hxc hnc (by show IsRangeIter _ _ _ _ _; rw [hn]; simpa using Heap.get?_push_size _ rfl) (by show s₁.heap.objs.size < (s₁.heap.push _).objs.size; rw [Heap.size_push]; exact Nat.lt_succ_self _)
    (F.keeps fun _ _ e => Heap.get?_push_of_some _ e) (N.grown fun _ _ e => Heap.get?_push_of_some _ e) (Nat.ne_of_lt F.ns.lt) (next_is_new F) (fun p hp => Nat.ne_of_lt (Heap.lt_size (N p hp).1)) (R _).1 (hs1 _) ?_
  intro D C h' tk m' ys F' N' o1 hn hC₀ hD₀ hCL hDL hCD offC fin
  show wpAny _ A (assign (.Name y py) env (.ref D)) _ _ _
  refine wpAny_assign_Name (wpAny_storeName_local hy F'.ns (fun h₂ hn₂ hs₂ => ?_) hp)
  have hL₀ : h₀.get? env.locals = none := Heap.get?_none_of_le F'.above
  have F₂ : Fr h₀ env.locals h₂ (fun z => if z = y then some (.ref D) else m z) := ⟨hn₂, fun b o e => hs₂.extBut b o (fun q => by rw [q, hL₀] at e; cases e) (F'.keep b o e), F'.above⟩
  refine ⟨m', hn.sameBut hs₂ hCL, fun h'' hs'' => (R s₁.heap).2 ys fin D h'' _ (F₂.change hs'' hCL hC₀) (fun p hp => ?_) o1⟩
  have z : h₂.get? p.1 = some p.2 := hs₂.extBut _ _ (N' p hp).2.1 (N' p hp).1
  refine ⟨hs''.extBut _ _ ?_ z, (N' p hp).2⟩
  rcases List.mem_cons.mp hp with rfl | hp
  · exact Ne.symm hCD
  · exact offC p hp
inductive SrcST (prog : Program) (w : World) (A : Around) (h₀ : Heap) (L : Addr) (m : Str → Option Value) (env : Env) (ct elt : Expr) (x : Str) (scope : Scope) (cl : List (Str × Addr)) (Fin : Shared → List Value → List (Addr × Obj) → Prop) (xv : Value) (s₁ : Shared) : Prop
  | mk (z : Str) (t : Tok) (news : List (Addr × Obj)) (c0 : xv = .str z t) (c1 : z.cps.all (· < 128) = true) (c2 : A.handled = none) (c3 : Fr h₀ L s₁.heap m) (c4 : News h₀ L s₁.heap news) (c5 : z.cps.size ≤ sizeLine) (c6 : ∀ g, CompRestT prog w A h₀ L m env ct elt x scope cl { s₁ with heap := g } (fun _ => True) (SignAt z) (Fin { s₁ with heap := g }) z.cps.size 0 [] news)
theorem Assign_S {ct elt iter : Expr} {x y : Str} {px py : Pos} {scope : Scope} {cl : List (Str × Addr)} {pos spos : Pos} {Q : Flow → Shared → Prop} (F₀ : Fr h₀ L s.heap m) (hLe : env.locals = L)
    (hsw : swapsWith (.ListComp elt [⟨.Name x px, iter, [ct], 0⟩] scope pos) (some (.Name y py)) spos.line env = pure true)
    (hclos : closureFor scope env = pure cl) (hcell : ∀ z ∈ scope.names, z.2 ≠ .cell) (hkind : scope.kind = .function)
    (hnames : ∀ z ∈ scope.names, z.2 = .local → scope.names.lookup z.1 = some .local) (hx : scope.names.lookup x = some .local)
    (hy : env.kindOf y = some .local) (hp : (env.scope.kind == .class || (env.scope.kind == .module && env.locals != env.globals)) = false)
    (h : wpAny (model prog w) A (eval iter env) (SrcST prog w A h₀ L m env ct elt x scope cl (fun s₂ => FinA h₀ L m s₂ y Q)) E s)
    (hs : ∀ x, foldedSetIterable iter env x = pure x := by intro _; rfl) :
    wpAny (model prog w) A (exec (.Assign [.Name y py] (.ListComp elt [⟨.Name x px, iter, [ct], 0⟩] scope pos) spos) env) Q E s := by
  subst hLe
  rw [exec_Assign_Name_used _ _ _ _ hsw]
  refine wpAny_bind (wpAny_standAt (wpAny_bind ?_))
  show wpAny _ A (do let _ ← comprehension (.ListComp elt [⟨.Name x px, iter, [ct], 0⟩] scope pos) scope env _ (newList []) false (eval iter env) (some (assign (.Name y py) env))) _ _ s
  refine wpAny_bind (wpAny_mono (wpAny_comprehension_free (use := some (assign (.Name y py) env)) (Q := fun _ s' => Q .next s') rfl hs hclos hkind hnames
    (wpAny_mono h (fun xv s₁ h₁ => ?_) fun _ _ e => e)) (fun _ s' hq => wpAny_pure (wpAny_pure hq)) fun _ _ e => e)
  obtain ⟨z, t, news, rfl, ha, hh, F, N, hsz, R⟩ := h₁
  refine wpAny_pyIter_ascii ha ?_
  refine block_T (Walks.strAscii hh s₁.heap.objs.size z t) hsz (fun i h st => by obtain ⟨o, e, _⟩ := st; exact ⟨o, e⟩) (fun i h h' o nw st e e' _ _ _ => by obtain ⟨o', q, r⟩ := st; rw [e] at q; cases q; exact ⟨o, e', r⟩) hcell hkind hx ⟨_, Heap.get?_push_size _ rfl, rfl, rfl⟩ (fun b hb => ?_)
    (F.keeps fun _ _ e => Heap.get?_push_of_some _ e) (N.grown fun _ _ e => Heap.get?_push_of_some _ e) (Nat.ne_of_lt F.ns.lt) (next_is_new F) (fun p hp => Nat.ne_of_lt (Heap.lt_size (N p hp).1)) trivial (R _) ?_
  · rw [List.mem_singleton.mp hb]
    show s₁.heap.objs.size < (s₁.heap.push _).objs.size
    rw [Heap.size_push]; exact Nat.lt_succ_self _
  · intro D C h' tk m' ys news' F' N' o1 hn hC₀ hD₀ hCL hDL hCD offC fin
    show wpAny _ A (assign (.Name y py) env (.ref D)) _ _ _
    refine wpAny_assign_Name (wpAny_storeName_local hy F'.ns (fun h₂ hn₂ hs₂ => ?_) hp)
    have hL₀ : h₀.get? env.locals = none := Heap.get?_none_of_le F'.above
    have F₂ : Fr h₀ env.locals h₂ (fun z => if z = y then some (.ref D) else m z) := ⟨hn₂, fun b o e => hs₂.extBut b o (fun q => by rw [q, hL₀] at e; cases e) (F'.keep b o e), F'.above⟩
    refine ⟨m', hn.sameBut hs₂ hCL, fun h'' hs'' => fin D h'' _ (F₂.change hs'' hCL hC₀) (fun p hp => ?_) o1⟩
    have z : h₂.get? p.1 = some p.2 := hs₂.extBut _ _ (N' p hp).2.1 (N' p hp).1
    refine ⟨hs''.extBut _ _ ?_ z, (N' p hp).2⟩
    rcases List.mem_cons.mp hp with rfl | hp
    · exact Ne.symm hCD
    · exact offC p hp
end
end Mine
end

section
open PySem PySem.W PyProof.Rows PySem.Spec PySem.Calls LCg LCt
set_option maxRecDepth 100000
namespace Mine
section
variable {prog : Program} {w : World} {A : Around} {E : Value → Shared → Prop} {s : Shared} {h₀ : Heap} {L : Addr} {m : Str → Option Value} {env : Env} {Q : Flow → Shared → Prop} {x : Str} {px pos : Pos} {iter : Expr} {body : List Stmt}
inductive ForRAt (prog : Program) (w : World) (A : Around) (h₀ : Heap) (L : Addr) (env : Env) (x : Str) (body : List Stmt) (Q : Flow → Shared → Prop) (E : Value → Shared → Prop) (xv : Value) (s₁ : Shared) : Prop
  | mk (r : Addr) (t u v : Tok) (n : Nat) (news : List (Addr × Obj)) (m : Str → Option Value) (J : Nat → (Str → Option Value) → List (Addr × Obj) → Prop) (c0 : xv = .ref r) (c1 : A.handled = none) (c2 : IsRange s₁.heap r 0 (n : Int) 1 t u v) (c3 : Builtin.Range.small 0 (n : Int) 1 = true) (c4 : Builtin.Range.rangeSize 0 (n : Int) 1 = ((n : Nat) : Int)) (c5 : Fr h₀ L s₁.heap m) (c6 : News h₀ L s₁.heap news) (c7 : J 0 m news) (c8 : LTurn prog w A h₀ L env x body Q E s₁ n (fun i v => ∃ t, v = .int (i : Int) t) J) (c9 : ∀ m₁ nx h tk, J n m₁ nx → Fr h₀ L h m₁ → News h₀ L h nx → Q .next { s₁ with heap := h, toks := tk })
theorem For_R (h : wpAny (model prog w) A (eval iter env) (ForRAt prog w A h₀ L env x body Q E) E s)
    (hs : ∀ x, foldedSetIterable iter env x = pure x := by intro _; rfl)
    (hE : PassesOwn (model prog w) A env E := by passes_own) :
    wpAny (model prog w) A (exec (.For (.Name x px) iter body [] pos) env) Q E s := by
  refine wpAny_For (wpAny_mono h (fun xv s₁ h₁ => ?_) fun _ _ e => e) hs
  obtain ⟨r, t, u, v, n, news, m, J, rfl, hh, hr, hsm, hn, F, N, hj, turn, done⟩ := h₁
  refine wpAny_pyIter_range hr hsm ?_
  exact loop_any (s := { s₁ with heap := s₁.heap.push _ }) (J := J) (S := fun _ => True) (range_walks hh 0 n) (fun i h st => ⟨_, st⟩) range_st (fun _ _ _ _ => trivial) (by show IsRangeIter _ _ _ _ _; rw [hn]; simpa using Heap.get?_push_size _ rfl) (F.push _) (N.grown fun _ _ e => Heap.get?_push_of_some _ e)
    (Nat.ne_of_lt F.ns.lt) (next_is_new F) (fun p hp => Nat.ne_of_lt (Heap.lt_size (N p hp).1)) hj (fun i v m₁ nx I oI h tk hi hP => by
      obtain ⟨t, rfl⟩ := hP
      rw [Int.zero_add]
      exact turn i _ m₁ nx I oI h tk hi ⟨t, rfl⟩) done hE
end
end Mine
end

section
open PySem PySem.W PyProof.Rows PySem.Spec PySem.Calls LCg LCt
set_option maxRecDepth 100000
namespace Mine
def lawParts : List Stmt × Scope := match Challenge.pw_ux0019_01.main.body.getLast? with
  | some (.FunctionDef _ _ b _ _ _ sc _ _ _) => (b, sc)
  | _ => ([], { kind := .function, names := [], isGenerator := false, isCoroutine := false, more := [] })
def lawEnd : List Stmt := lawParts.1.drop 11
def lawScope : Scope := lawParts.2
def kindsG (rs : List Nat) : List Nat := sgn.filter fun d => decide (d ∈ rs)
theorem sign_at {i : Nat} {v : Value} (h : SignAt (Str.ofString "()[]:,;+-*/|&<>=%{}~^@!") i v) : ∃ t, v = .str (one (sgn.getD i 0)) t ∧ i < 23 := by
  obtain ⟨c, u, hc, rfl⟩ := h
  have e : sgn[i]? = some c := by rw [← signs_cps]; simpa using hc
  obtain ⟨hi, hc'⟩ := List.getElem?_eq_some_iff.mp e
  refine ⟨u, ?_, hi⟩
  rw [List.getD_eq_getElem?_getD, e]
  rfl
theorem kinds_of {rs : List Nat} {ys : List Value} (h : StrsAre ys (((List.range 23).filter fun i => decide (sgn.getD i 0 ∈ rs)).map fun i => one (sgn.getD i 0))) : StrsAre ys ((kindsG rs).map one) := by
  have e : (((List.range 23).filter fun i => decide (sgn.getD i 0 ∈ rs)).map fun i => one (sgn.getD i 0)) = (kindsG rs).map one := by
    have : sgn = (List.range 23).map fun i => sgn.getD i 0 := by decide +kernel
    unfold kindsG
    conv => rhs; rw [this]
    rw [List.filter_map, List.map_map]
    rfl
  rw [← e]
  exact h
theorem getD_pick (l : List Nat) (p : Nat → Bool) : (((List.range l.length).filter fun i => p (l.getD i 0)).map fun i => one (l.getD i 0)) = (l.filter p).map one := by
  have : l = (List.range l.length).map fun i => l.getD i 0 := by
    refine List.ext_getElem (by simp) fun i h1 h2 => ?_
    simp [List.getD_eq_getElem?_getD, List.getElem?_eq_getElem h1]
  conv => rhs; rw [this]
  rw [List.filter_map, List.map_map]
  rfl
theorem in_row {rs : List Nat} {c : Nat} : (Builtin.Str.occurrences (tx rs) (one c) 0 (tx rs).length 1).isEmpty = !decide (c ∈ rs) := by
  have e := occ_fnd rs [c] 0 rs.length
  rw [tx_len]
  have e2 : (Builtin.Str.occurrences (tx rs) (one c) 0 rs.length 1).isEmpty = (fnd rs [c] 0 rs.length).isNone := by
    rw [← e]
    show (Builtin.Str.occurrences (tx rs) (tx [c]) 0 rs.length 1).isEmpty = _
    cases Builtin.Str.occurrences (tx rs) (tx [c]) 0 rs.length 1 <;> rfl
  rw [e2]
  by_cases hc : c ∈ rs
  · obtain ⟨i, ei, hi, _⟩ := find_one hc
    cases h : fnd rs [c] 0 rs.length with
    | some k => simp [hc]
    | none =>
      have e3 : Txt.find (tx rs) (tx [c]) = fndI rs [c] 0 rs.length := by
        unfold Txt.find fndI
        rw [← occ_fnd, show (tx rs).length = rs.length from tx_len rs]
        cases Builtin.Str.occurrences (tx rs) (tx [c]) 0 rs.length 1 <;> rfl
      rw [e3] at ei
      unfold fndI at ei
      rw [h] at ei
      dsimp only at ei
      omega
  · cases h : fnd rs [c] 0 rs.length with
    | none => simp [hc]
    | some k =>
      unfold fnd at h
      have h0 := List.find?_some h
      have h1 := at_one.mp ((at_iff rs [c] rs.length k).mpr h0)
      exact absurd (List.mem_of_getElem? h1) hc
theorem ones_take {vs : List Value} {ds : List Nat} (h : StrsAre vs (ds.map one)) : ∀ k : Nat, StrsAre (vs.take k) ((ds.take k).map one) := by
  induction ds generalizing vs with
  | nil => cases h; intro k; simp; exact .nil
  | cons d ds ih =>
    cases h with
    | cons _ t h =>
      intro k
      cases k with
      | zero => exact .nil
      | succ k => exact .cons _ t (ih h k)
theorem ones_drop {vs : List Value} {ds : List Nat} (h : StrsAre vs (ds.map one)) : ∀ k : Nat, StrsAre (vs.drop k) ((ds.drop k).map one) := by
  induction ds generalizing vs with
  | nil => cases h; intro k; simp; exact .nil
  | cons d ds ih =>
    intro k
    cases k with
    | zero => exact h
    | succ k =>
      cases h with
      | cons _ t h => exact ih h k
theorem ones_app {vs us : List Value} {a b : List Str} (h : StrsAre vs a) (h' : StrsAre us b) : StrsAre (vs ++ us) (a ++ b) := by
  induction h with
  | nil => exact h'
  | cons x t _ ih => exact .cons x t ih
theorem ones_get {vs : List Value} {ds : List Nat} (h : StrsAre vs (ds.map one)) {k : Nat} (hk : k < ds.length) : ∃ t, vs[k]? = some (.str (one (ds.getD k 0)) t) := by
  induction ds generalizing vs k with
  | nil => exact absurd hk (Nat.not_lt_zero _)
  | cons d ds ih =>
    cases h with
    | cons _ t h =>
      cases k with
      | zero => exact ⟨t, rfl⟩
      | succ k => exact ih h (by simpa using hk)
theorem ones_len {vs : List Value} {ds : List Nat} (h : StrsAre vs (ds.map one)) : vs.length = ds.length := by rw [StrsAre.length h, List.length_map]
section
variable {prog : Program} {w : World} {A : Around} {E : Value → Shared → Prop} {s : Shared} {h₀ : Heap} {L l : Addr} {m : Str → Option Value} {news : List (Addr × Obj)} {value slice : Expr} {vs us : List Value} {ds : List Nat} {nn k : Nat} {vl vu : Value} {Q : Value → Shared → Prop}
theorem item_ones {i : Int} {u : Tok} (N : News h₀ L s.heap news) (hm : (l, listOf vs.toArray nn) ∈ news) (hv : StrsAre vs (ds.map one)) (hi : i = (k : Int)) (hk : k < ds.length) (hs23 : ds.length ≤ 23) (h : ∀ t, Q (.str (one (ds.getD k 0)) t) s)
    (hs : subscripted slice false (.ref l) (.int i u) = operate [.ref l, .int i u] (getItem (.ref l) (.int i u)) := by with_unfolding_all rfl) (hg : ∀ r, letTemporaryGo value (.ref l) r = pure () := by intro _; with_unfolding_all rfl) :
    wpAny (model prog w) A (subscriptTail value slice (.ref l) (.int i u)) Q E s := by
  subst hi
  obtain ⟨t, e⟩ := ones_get hv hk
  exact kim_list N hm rfl rfl (by omega) (by omega) (by rw [Int.toNat_natCast]; exact e) (h t) hs hg
theorem slice_from {x : Int} {t : Tok} (F : Fr h₀ L s.heap m) (N : News h₀ L s.heap news) (hm : (l, listOf vs.toArray nn) ∈ news) (hv : StrsAre vs (ds.map one)) (hx : x = (k : Int)) (h23 : ds.length ≤ 23)
    (h : ∀ D us h', Fr h₀ L h' m → News h₀ L h' ((D, listOf (List.toArray us) 0) :: news) → (∀ p ∈ news, p.1 < D) → StrsAre us ((ds.drop k).map one) → us.length = ds.length - k → Q (.ref D) { s with heap := h' })
    (hs : subscripted slice false (.ref l) (.ref s.heap.objs.size) = operate [.ref s.heap.objs.size, .ref l] (getItem (.ref l) (.ref s.heap.objs.size)) := by with_unfolding_all rfl) (ht : ∀ r, letTemporaryGo value (.ref l) r = pure () := by intro _; with_unfolding_all rfl) :
    wpAny (model prog w) A (subscriptTail value slice (.ref l) (.ref s.heap.objs.size)) Q E { s with heap := s.heap.push { cls := .type "slice", data := .fields #[.int x t, .none, .none] } } := by
  subst hx
  have hsz : vs.toArray.size ≤ sizeLine := by rw [List.size_toArray, ones_len hv, sizeLine_eq]; exact Nat.le_trans h23 (Nat.le_of_ble_eq_true rfl)
  refine kms_slice_lit (zs := vs.drop k) F N (N.isList hm) (IsPart.int _ _) IsPart.none ?_ (fun D h' F' N' l1 => h D _ h' F' N' l1 (ones_drop hv k) (by rw [List.length_drop, ones_len hv])) hs ht hsz
  unfold kms_pick kms_lo kms_hi
  dsimp only
  rw [if_neg (by omega), Int.toNat_natCast, kmk_drop_min, List.take_of_length_le (by rw [List.length_drop]; omega)]
theorem slice_upto {x : Int} {t : Tok} (F : Fr h₀ L s.heap m) (N : News h₀ L s.heap news) (hm : (l, listOf vs.toArray nn) ∈ news) (hv : StrsAre vs (ds.map one)) (hx : x = (k : Int)) (h23 : ds.length ≤ 23)
    (h : ∀ D us h', Fr h₀ L h' m → News h₀ L h' ((D, listOf (List.toArray us) 0) :: news) → (∀ p ∈ news, p.1 < D) → StrsAre us ((ds.take k).map one) → us.length = min k ds.length → Q (.ref D) { s with heap := h' })
    (hs : subscripted slice false (.ref l) (.ref s.heap.objs.size) = operate [.ref s.heap.objs.size, .ref l] (getItem (.ref l) (.ref s.heap.objs.size)) := by with_unfolding_all rfl) (ht : ∀ r, letTemporaryGo value (.ref l) r = pure () := by intro _; with_unfolding_all rfl) :
    wpAny (model prog w) A (subscriptTail value slice (.ref l) (.ref s.heap.objs.size)) Q E { s with heap := s.heap.push { cls := .type "slice", data := .fields #[.none, .int x t, .none] } } := by
  subst hx
  have hsz : vs.toArray.size ≤ sizeLine := by rw [List.size_toArray, ones_len hv, sizeLine_eq]; exact Nat.le_trans h23 (Nat.le_of_ble_eq_true rfl)
  refine kms_slice_lit (zs := vs.take k) F N (N.isList hm) IsPart.none (IsPart.int _ _) ?_ (fun D h' F' N' l1 => h D _ h' F' N' l1 (ones_take hv k) (by rw [List.length_take, ones_len hv])) hs ht hsz
  unfold kms_pick kms_lo kms_hi
  dsimp only
  rw [if_neg (by omega), Int.toNat_natCast, List.drop_zero, Nat.sub_zero, kmk_take_min]
theorem add_strs {b : Addr} {n2 : Nat} {x y : List Str} (F : Fr h₀ L s.heap m) (N : News h₀ L s.heap news) (hl : (l, listOf vs.toArray nn) ∈ news) (hb : (b, listOf us.toArray n2) ∈ news) (hx : StrsAre vs x) (hy : StrsAre us y) (hsz : x.length + y.length ≤ 1000)
    (h : ∀ D zs h', Fr h₀ L h' m → News h₀ L h' ((D, listOf (List.toArray zs) 0) :: news) → (∀ p ∈ news, p.1 < D) → StrsAre zs (x ++ y) → Q (.ref D) { s with heap := h' }) :
    wpAny (model prog w) A (binaryOp .Add (.ref l) (.ref b)) Q E s := by
  refine add_arrays (hsz := ?_) F N (N.isList hl) (N.isList hb) fun h' F' N' => h _ (vs ++ us) h' F' (by simpa using N') (fun p hp => Heap.lt_size (N p hp).1) (ones_app hx hy)
  rw [List.size_toArray, List.size_toArray, hx.length, hy.length, sizeLine_eq]
  exact Nat.le_trans hsz (Nat.le_of_ble_eq_true rfl)
theorem ne_bools_same {b : Addr} {n2 : Nat} {bs cs : List Bool} (N : News h₀ L s.heap news) (hl : (l, listOf vs.toArray nn) ∈ news) (hb : (b, listOf us.toArray n2) ∈ news) (hi : BoolsList vs bs) (hj : BoolsList us cs) (e : bs = cs) (hu : A.units + 64 < cLine) (h : Q (.bool false) s) :
    wpAny (model prog w) A (compareOp .NotEq (.ref l) (.ref b)) Q E s := by
  refine ne_bools (N.isList hl) (N.isList hb) hi hj hu ?_
  rw [decide_eq_true e]
  exact h
theorem ne_empty {b : Addr} {n2 : Nat} {x : List Str} (N : News h₀ L s.heap news) (hl : (l, listOf vs.toArray nn) ∈ news) (hb : (b, listOf #[] n2) ∈ news) (hi : StrsAre vs x) (hok : ∀ s ∈ x, PyData.strOk s = true) (hu : A.units + 64 < cLine) (h : Q (.bool (!x.isEmpty)) s) :
    wpAny (model prog w) A (compareOp .NotEq (.ref l) (.ref b)) Q E s := by
  refine ne_strs (ys := []) (N.isList hl) (N.isList hb) hi .nil hok (List.forall_mem_nil _) hu ?_
  have : (!decide (x = [])) = !x.isEmpty := by cases x <;> simp
  rw [this]
  exact h
end
theorem one_ok {d : Nat} (h : d ∈ sgn) : PyData.strOk (one d) = true :=
  (by decide +kernel : ∀ d ∈ sgn, PyData.strOk (one d) = true) d h
end Mine
end

section
open PySem PySem.W PyProof.Rows PySem.Spec PySem.Calls
set_option maxRecDepth 100000
namespace Mine
local macro_rules | `(tactic| k_ne) => `(tactic| walk_at "kne")
theorem words_f1 : True := by
  w_top off
  first | walk1 | skip
  k_with_none
  k_with "kmem" => (first | exact List.mem_cons_self | (refine List.mem_cons_of_mem _ ?_; k_mem) | assumption)
  trivial
variable {q9 : Program} {l9 : List Str}
set_option maxHeartbeats 40000000
theorem words_f1_a : True := by
  k_with "kne" => ((refine neN ?_; (try dsimp only); first | assumption | (refine Ne.symm ?_; assumption) | exact Nat.ne_of_lt (by assumption) | exact Nat.ne_of_gt (by assumption) | omega))
  k_with "conArgs" => (((case k2 => k_asm); (case k3 => k_asm); (case k4 => k_asm); (case k5 => k_asm); (case k6 => first | trivial | assumption); (case k7 => ktr_room); (case k8 => ktr_units)))
  k_with "eval ListComp" => ((k_here; first
  | ((with_reducible show wpAny _ _ (eval (Expr.ListComp _ [Comprehension.mk _ _ [] _] _ _) _) _ _ _); k_dflt (refine LCg.ListComp_U (F₀ := by k_asm) (by with_unfolding_all rfl) (by decide) (by rfl) (by decide) (by rfl) ?_))
  | ((with_reducible show wpAny _ _ (eval (Expr.ListComp _ [Comprehension.mk _ _ [_] _] _ _) _) _ _ _); k_dflt (refine LCt.ListComp_T (F₀ := by k_asm) (by with_unfolding_all rfl) (by decide) (by rfl) (by decide) (by rfl) ?_))))
  k_with "exec Assign cons ListComp" => ((k_here; first
  | ((with_reducible show wpAny _ _ (exec (Stmt.Assign _ (Expr.ListComp _ [Comprehension.mk _ _ [] _] _ _) _) _) _ _ _); k_dflt (refine LCg.Assign_ListComp_U (F₀ := by k_asm) (by rfl) (by with_unfolding_all rfl) (by with_unfolding_all rfl) (by decide) (by rfl) (by decide) (by rfl) (by rfl) (by rfl) ?_))
  | ((with_reducible show wpAny _ _ (exec (Stmt.Assign _ (Expr.ListComp _ [Comprehension.mk _ _ [_] _] _ _) _) _) _ _ _); k_dflt (refine LCt.Assign_ListComp_T (F₀ := by k_asm) (by rfl) (by with_unfolding_all rfl) (by with_unfolding_all rfl) (by decide) (by rfl) (by decide) (by rfl) (by rfl) (by rfl) ?_))))
  k_with "CompEnd" => (first
  | (refine comp_end (by assumption) (by assumption) (by kcf_all) (by first | assumption | (simp only [LCg.Off3, and_true]; assumption)) (by first | lcg_src | assumption) ?_)
  | (exact comp_endF (by assumption) (by assumption) (by kcf_all) (by first | assumption | (simp only [LCg.Off3, and_true]; assumption)) (by first | lcg_src | assumption)))
  k_with "call builtin:len" => ((k_here; (with_reducible show wpAny _ _ (call _ [Value.ref _]) _ _ _); k_dflt (refine' kst_len ?w8N ?w8hm ?w8e ?w8hf ?_; (case w8N => k_asm); (case w8hm => k_mem); (case w8e => assumption); (case w8hf => omega))))
  k_with "subscriptTail Name Slice ref ref" => ((k_here; first
  | ((with_reducible show wpAny _ _ (subscriptTail _ (PySem.Expr.Slice (some _) none none _) (Value.ref _) (Value.ref _)) _ _ _); k_dflt (refine' slice_from ?w8F ?w8N ?w8hm ?w8hv ?w8hx ?w8h23 ?_; (case w8F => k_asm); (case w8N => k_asm); (case w8hm => k_mem); (case w8hv => assumption); (case w8hx => exact (Int.natCast_succ _).symm); (case w8h23 => omega); k_whole; intro w8D' w8us' w8h' w8F' w8N' l1 w8hS' w8hL'; (try k_lt l1)))
  | ((with_reducible show wpAny _ _ (subscriptTail _ (PySem.Expr.Slice none (some _) none _) (Value.ref _) (Value.ref _)) _ _ _); k_dflt (refine' slice_upto ?w8F ?w8N ?w8hm ?w8hv ?w8hx ?w8h23 ?_; (case w8F => k_asm); (case w8N => k_asm); (case w8hm => k_mem); (case w8hv => assumption); (case w8hx => exact rfl); (case w8h23 => omega); k_whole; intro w8D' w8us' w8h' w8F' w8N' l1 w8hS' w8hL'; (try k_lt l1)))))
  k_with "subscriptTail Name Name ref int" => ((k_here; (with_reducible show wpAny _ _ (subscriptTail _ _ (Value.ref _) (Value.int _ _)) _ _ _); k_dflt (refine' item_ones ?w8N ?w8hm ?w8hv ?w8hi ?w8hk ?w8h23 ?_; (case w8N => k_asm); (case w8hm => k_mem); (case w8hv => assumption); (case w8hi => exact rfl); (case w8hk => omega); (case w8h23 => omega); k_whole; intro w8t')))
  k_with "go" => (repeat' (first | (fail_if_success (first | (with_reducible show wpAny _ _ (exec (Stmt.While _ _ _ _) _) _ _ _) | (with_reducible show wpAny _ _ (exec (Stmt.For _ _ _ _ _) _) _ _ _) | (with_reducible show wpAny _ _ (pyIter _) _ _ _) | (with_reducible show InvEndN _ _ _ _ _ _ _) | (with_reducible show wpAny _ _ (exec (Stmt.Assign _ (Expr.ListComp _ (Comprehension.mk _ _ _ _ :: Comprehension.mk _ _ _ _ :: _) _ _) _) _) _ _ _) | (with_reducible show ForRAt _ _ _ _ _ _ _ _ _ _ _ _) | (with_reducible show ForLAt _ _ _ _ _ _ _ _ _ _ _ _) | (with_reducible show TEnd _ _ _ _ _ _ _) | (with_reducible show TPost _ _ _ _ _ _ _ _ _) | (with_reducible show TwoSrc _ _ _ _ _ _ _ _ _ _ _ _ _ _ _ _ _ _) | (with_reducible show SliceAt _ _ _ _ _ _ _ _ _ _ _ _ _ _ _ _ _ _ _ _ _ _ _ _ _ _) | (with_reducible show wpAny _ _ (call (Value.ref _) _) _ _ _) | (with_reducible show LCg.CompSrc _ _ _ _ _ _ _ _ _ _ _ _ _ _) | (with_reducible show LCt.CompSrcT _ _ _ _ _ _ _ _ _ _ _ _ _ _ _) | (with_reducible show KswEnd _ _ _ _ _ _ _ _ _ _ _ _)));  first | ((fail_if_success (with_reducible show wpAny _ _ _ _ _ _)); (with_reducible refine Hid.use (by assumption) ?_); (try dsimp only)) | (k_unfold; (try dsimp only)) | (k_end; wrow_close) | walk1 | (dsimp only; walk1) | (leave1; walk_say "STEP leave1"; try dsimp only) | fail "no step"))
  k_with "goD" => (repeat' (first | (fail_if_success (first | (with_reducible show wpAny _ _ (exec (Stmt.While _ _ _ _) _) _ _ _) | (with_reducible show wpAny _ _ (exec (Stmt.For _ _ _ _ _) _) _ _ _) | (with_reducible show wpAny _ _ (pyIter _) _ _ _) | (with_reducible show InvEndN _ _ _ _ _ _ _) | (with_reducible show wpAny _ _ (exec (Stmt.Assign _ (Expr.ListComp _ (Comprehension.mk _ _ _ _ :: Comprehension.mk _ _ _ _ :: _) _ _) _) _) _ _ _) | (with_reducible show ForRAt _ _ _ _ _ _ _ _ _ _ _ _) | (with_reducible show ForLAt _ _ _ _ _ _ _ _ _ _ _ _) | (with_reducible show TEnd _ _ _ _ _ _ _) | (with_reducible show TPost _ _ _ _ _ _ _ _ _) | (with_reducible show TwoSrc _ _ _ _ _ _ _ _ _ _ _ _ _ _ _ _ _ _) | (with_reducible show SliceAt _ _ _ _ _ _ _ _ _ _ _ _ _ _ _ _ _ _ _ _ _ _ _ _ _ _) | (with_reducible show wpAny _ _ (call (Value.ref _) _) _ _ _) | (with_reducible show LCg.CompSrc _ _ _ _ _ _ _ _ _ _ _ _ _ _) | (with_reducible show LCt.CompSrcT _ _ _ _ _ _ _ _ _ _ _ _ _ _ _) | (with_reducible show KswEnd _ _ _ _ _ _ _ _ _ _ _ _)));  first | ((fail_if_success (with_reducible show wpAny _ _ _ _ _ _)); (with_reducible refine Hid.use (by assumption) ?_); (try dsimp only)) | (k_unfold; (try dsimp only)) | (k_end; wrow_close) | walk1 | (dsimp only; walk1) | (leave1; walk_say "STEP leave1"; try dsimp only) | fail "no step"))
  k_with "goU" => (repeat' (first | (fail_if_success (first | (with_reducible show wpAny _ _ (exec (Stmt.While _ _ _ _) _) _ _ _) | (with_reducible show wpAny _ _ (exec (Stmt.For _ _ _ _ _) _) _ _ _) | (with_reducible show wpAny _ _ (pyIter _) _ _ _) | (with_reducible show InvEndN _ _ _ _ _ _ _) | (with_reducible show wpAny _ _ (exec (Stmt.Assign _ (Expr.ListComp _ (Comprehension.mk _ _ _ _ :: Comprehension.mk _ _ _ _ :: _) _ _) _) _) _ _ _) | (with_reducible show wpAny _ _ (execs (Stmt.Assign _ (Expr.List _ _) _ :: _) _) _ _ _) | (with_reducible show ForRAt _ _ _ _ _ _ _ _ _ _ _ _) | (with_reducible show ForLAt _ _ _ _ _ _ _ _ _ _ _ _) | (with_reducible show TEnd _ _ _ _ _ _ _) | (with_reducible show TPost _ _ _ _ _ _ _ _ _) | (with_reducible show TwoSrc _ _ _ _ _ _ _ _ _ _ _ _ _ _ _ _ _ _) | (with_reducible show SliceAt _ _ _ _ _ _ _ _ _ _ _ _ _ _ _ _ _ _ _ _ _ _ _ _ _ _) | (with_reducible show wpAny _ _ (call (Value.ref _) _) _ _ _) | (with_reducible show LCg.CompSrc _ _ _ _ _ _ _ _ _ _ _ _ _ _) | (with_reducible show LCt.CompSrcT _ _ _ _ _ _ _ _ _ _ _ _ _ _ _) | (with_reducible show KswEnd _ _ _ _ _ _ _ _ _ _ _ _)));  first | ((fail_if_success (with_reducible show wpAny _ _ _ _ _ _)); (with_reducible refine Hid.use (by assumption) ?_); (try dsimp only)) | (k_unfold; (try dsimp only)) | (k_end; wrow_close) | walk1 | (dsimp only; walk1) | (leave1; walk_say "STEP leave1"; try dsimp only) | fail "no step"))
  k_with "goE" => (repeat' (first | (fail_if_success (first | (with_reducible show wpAny _ _ (exec (Stmt.While _ _ _ _) _) _ _ _) | (with_reducible show wpAny _ _ (exec (Stmt.For _ _ _ _ _) _) _ _ _) | (with_reducible show wpAny _ _ (pyIter _) _ _ _) | (with_reducible show InvEndN _ _ _ _ _ _ _) | (with_reducible show wpAny _ _ (exec (Stmt.Assign _ (Expr.ListComp _ (Comprehension.mk _ _ _ _ :: Comprehension.mk _ _ _ _ :: _) _ _) _) _) _ _ _) | (with_reducible show wpAny _ _ (execs (Stmt.Assign _ (Expr.ListComp _ _ _ _) _ :: _) _) _ _ _) | (with_reducible show wpAny _ _ (execs (Stmt.For _ _ _ _ _ :: _) _) _ _ _) | (with_reducible show ForRAt _ _ _ _ _ _ _ _ _ _ _ _) | (with_reducible show ForLAt _ _ _ _ _ _ _ _ _ _ _ _) | (with_reducible show TEnd _ _ _ _ _ _ _) | (with_reducible show TPost _ _ _ _ _ _ _ _ _) | (with_reducible show TwoSrc _ _ _ _ _ _ _ _ _ _ _ _ _ _ _ _ _ _) | (with_reducible show SliceAt _ _ _ _ _ _ _ _ _ _ _ _ _ _ _ _ _ _ _ _ _ _ _ _ _ _) | (with_reducible show wpAny _ _ (call (Value.ref _) _) _ _ _) | (with_reducible show LCg.CompSrc _ _ _ _ _ _ _ _ _ _ _ _ _ _) | (with_reducible show LCt.CompSrcT _ _ _ _ _ _ _ _ _ _ _ _ _ _ _) | (with_reducible show KswEnd _ _ _ _ _ _ _ _ _ _ _ _)));  first | ((fail_if_success (with_reducible show wpAny _ _ _ _ _ _)); (with_reducible refine Hid.use (by assumption) ?_); (try dsimp only)) | (k_unfold; (try dsimp only)) | (k_end; wrow_close) | walk1 | (dsimp only; walk1) | (leave1; walk_say "STEP leave1"; try dsimp only) | fail "no step"))
  trivial

theorem and2 {p0 p1 g : Prop} (h : p0 ∧ p1) (k : p0 → p1 → g) : g := k h.1 h.2
theorem and3 {p0 p1 p2 g : Prop} (h : p0 ∧ p1 ∧ p2) (k : p0 → p1 → p2 → g) : g := k h.1 h.2.1 h.2.2
theorem and4 {p0 p1 p2 p3 g : Prop} (h : p0 ∧ p1 ∧ p2 ∧ p3) (k : p0 → p1 → p2 → p3 → g) : g := k h.1 h.2.1 h.2.2.1 h.2.2.2
theorem and5 {p0 p1 p2 p3 p4 g : Prop} (h : p0 ∧ p1 ∧ p2 ∧ p3 ∧ p4) (k : p0 → p1 → p2 → p3 → p4 → g) : g := k h.1 h.2.1 h.2.2.1 h.2.2.2.1 h.2.2.2.2
theorem and6 {p0 p1 p2 p3 p4 p5 g : Prop} (h : p0 ∧ p1 ∧ p2 ∧ p3 ∧ p4 ∧ p5) (k : p0 → p1 → p2 → p3 → p4 → p5 → g) : g := k h.1 h.2.1 h.2.2.1 h.2.2.2.1 h.2.2.2.2.1 h.2.2.2.2.2
theorem and8 {p0 p1 p2 p3 p4 p5 p6 p7 g : Prop} (h : p0 ∧ p1 ∧ p2 ∧ p3 ∧ p4 ∧ p5 ∧ p6 ∧ p7) (k : p0 → p1 → p2 → p3 → p4 → p5 → p6 → p7 → g) : g := k h.1 h.2.1 h.2.2.1 h.2.2.2.1 h.2.2.2.2.1 h.2.2.2.2.2.1 h.2.2.2.2.2.2.1 h.2.2.2.2.2.2.2
theorem and9 {p0 p1 p2 p3 p4 p5 p6 p7 p8 g : Prop} (h : p0 ∧ p1 ∧ p2 ∧ p3 ∧ p4 ∧ p5 ∧ p6 ∧ p7 ∧ p8) (k : p0 → p1 → p2 → p3 → p4 → p5 → p6 → p7 → p8 → g) : g := k h.1 h.2.1 h.2.2.1 h.2.2.2.1 h.2.2.2.2.1 h.2.2.2.2.2.1 h.2.2.2.2.2.2.1 h.2.2.2.2.2.2.2.1 h.2.2.2.2.2.2.2.2
def forBody : Stmt → List Stmt
  | .For _ _ b _ _ => b
  | _ => []
def forA : Stmt := (forBody (lawEnd.getD 0 (.Pass ⟨0, 0, 0, 0⟩))).getD 2 (.Pass ⟨0, 0, 0, 0⟩)
theorem range_23 : ∀ n : Nat, n < 24 → Builtin.Range.small 0 (n : Int) 1 = true ∧ Builtin.Range.rangeSize 0 (n : Int) 1 = (n : Int) := by decide +kernel
theorem ones_arr {us : List Value} {over : List Nat} {i : Nat} {v : Value} (h : StrsAre us (over.map one)) (hv : us.toArray[i]? = some v) : ∃ t, v = .str (one (over.getD i 0)) t ∧ i < over.length := by
  have hv' : us[i]? = some v := by simpa using hv
  have hi : i < us.length := (List.getElem?_eq_some_iff.mp hv').1
  rw [ones_len h] at hi
  obtain ⟨t, e⟩ := ones_get h hi
  rw [hv'] at e
  exact ⟨t, Option.some.inj e, hi⟩
theorem con_takes3' {w : World} {r0 r1 r2 r3 r4 : Nat} {a b c : Nat} {y : Str} {t u : Tok} (ha : a ∈ sgn) (hb : b ∈ sgn) (hc : c ∈ sgn) (e : y = tx [a, b, c]) :
    Con 3 w 119 [.str (tx [r0, r1, r2, r3, r4]) t, .str y u] (fun _ => True) (fun v => v = .bool (takesG [r0, r1, r2, r3, r4] r0 r4 a [[b]] c)) := by
  subst e
  exact con_takes3 (sgn_ne ha).2.2 (sgn_ne hb).2.2 (sgn_ne hc).2.2
theorem con_takes4' {w : World} {r0 r1 r2 r3 r4 : Nat} {a b c d : Nat} {y : Str} {t u : Tok} (ha : a ∈ sgn) (hb : b ∈ sgn) (hc : c ∈ sgn) (hd : d ∈ sgn) (e : y = tx [a, b, c, d]) :
    Con 3 w 119 [.str (tx [r0, r1, r2, r3, r4]) t, .str y u] (fun _ => True) (fun v => v = .bool (takesG [r0, r1, r2, r3, r4] r0 r4 a [[b], [c]] d)) := by
  subst e
  exact con_takes4 (sgn_ne ha).2.2 (sgn_ne hb).2.2 (sgn_ne hc).2.2 (sgn_ne hd).2.2
theorem pick_of {us ws : List Value} {over : List Nat} (hul : us.length = over.length) (p : Nat → Bool) (h : StrsAre ws (((List.range us.toArray.size).filter fun j => p (over.getD j 0)).map fun j => one (over.getD j 0))) : ∃ W, W = over.filter p ∧ StrsAre ws (W.map one) := by
  rw [List.size_toArray, hul, getD_pick] at h
  exact ⟨_, rfl, h⟩
theorem news_rot {h₀ h : Heap} {L : Addr} {p0 p1 p2 p3 : Addr × Obj} {rest : List (Addr × Obj)} (N : News h₀ L h (p0 :: p1 :: p2 :: p3 :: rest)) : News h₀ L h (p1 :: p2 :: p3 :: p0 :: rest) := fun p hp => N p (by
  simp only [List.mem_cons] at hp ⊢
  rcases hp with h | h | h | h | h <;> simp [h])
theorem drop_getD (l : List Nat) (i j : Nat) : (l.drop i).getD j 0 = l.getD (i + j) 0 := by
  rw [List.getD_eq_getElem?_getD, List.getElem?_drop, List.getD_eq_getElem?_getD]
theorem twoS_len {tb : Nat → Nat → Bool} {g : Nat → Nat → Str} {cnt : Nat → Nat} : ∀ {n : Nat}, (∀ i, i < n → cnt i ≤ 23) → (twoS tb g cnt n).length ≤ 23 * n
  | 0, _ => Nat.le_refl _
  | n + 1, h => by
    rw [twoS_succ, List.length_append, List.length_map]
    have h1 := twoS_len (tb := tb) (g := g) (n := n) fun i hi => h i (Nat.lt_succ_of_lt hi)
    have h2 := List.length_filter_le (tb n) (List.range (cnt n))
    rw [List.length_range] at h2
    have h3 := h n (Nat.lt_succ_self _)
    omega
theorem twoS_all {tb : Nat → Nat → Bool} {g : Nat → Nat → Str} {cnt : Nat → Nat} {n : Nat} {P : Str → Prop} (h : ∀ i j, i < n → j < cnt i → P (g i j)) : ∀ s ∈ twoS tb g cnt n, P s := fun s hs => by
  unfold twoS at hs
  obtain ⟨i, hi, hs⟩ := List.mem_flatMap.mp hs
  obtain ⟨j, hj, rfl⟩ := List.mem_map.mp hs
  exact h i j (List.mem_range.mp hi) (List.mem_range.mp (List.mem_filter.mp hj).1)
theorem two_any {over : List Nat} (hinc : over.Pairwise fun c d => tokv c < tokv d) (p : Nat → Nat → Bool) :
    (!(twoS (fun i j => p (over.getD (i.succ + j) 0) (over.getD i 0)) (fun i j => one (over.getD (i.succ + j) 0)) (fun i => over.length - i.succ) over.length).isEmpty) = over.any fun c => (over.filter fun s => decide (tokv s < tokv c)).any fun s => p c s := by
  have gd : ∀ {k : Nat} (hk : k < over.length), over.getD k 0 = over[k] := fun hk => by rw [List.getD_eq_getElem?_getD, List.getElem?_eq_getElem hk]; rfl
  rw [Bool.eq_iff_iff, List.any_eq_true, Bool.not_eq_true', List.isEmpty_eq_false_iff_exists_mem]
  unfold twoS
  constructor
  · rintro ⟨x, hx⟩
    obtain ⟨i, hi, hx⟩ := List.mem_flatMap.mp hx
    obtain ⟨j, hj, rfl⟩ := List.mem_map.mp hx
    obtain ⟨hj1, hj2⟩ := List.mem_filter.mp hj
    have hi := List.mem_range.mp hi
    have hj1 := List.mem_range.mp hj1
    dsimp only at hj1 hj2 ⊢
    have hk : i.succ + j < over.length := by omega
    rw [gd hk, gd hi] at hj2
    refine ⟨_, List.getElem_mem hk, List.any_eq_true.mpr ⟨_, List.mem_filter.mpr ⟨List.getElem_mem hi, ?_⟩, hj2⟩⟩
    exact decide_eq_true (List.pairwise_iff_getElem.mp hinc i (i.succ + j) hi hk (by omega))
  · rintro ⟨c, hc, h⟩
    obtain ⟨s, hs, hp⟩ := List.any_eq_true.mp h
    obtain ⟨hs1, hs2⟩ := List.mem_filter.mp hs
    have hs2 := of_decide_eq_true hs2
    obtain ⟨k, hk, rfl⟩ := List.mem_iff_getElem.mp hc
    obtain ⟨i, hi, rfl⟩ := List.mem_iff_getElem.mp hs1
    have hik : i < k := by
      rcases Nat.lt_trichotomy i k with q | q | q
      · exact q
      · subst q; exact absurd hs2 (Int.lt_irrefl _)
      · have := List.pairwise_iff_getElem.mp hinc k i hk hi q
        omega
    refine ⟨_, List.mem_flatMap.mpr ⟨i, List.mem_range.mpr hi, List.mem_map.mpr ⟨k - i.succ, List.mem_filter.mpr ⟨List.mem_range.mpr (by dsimp only; omega), ?_⟩, rfl⟩⟩⟩
    dsimp only
    have e : i.succ + (k - i.succ) = k := by omega
    rw [e, gd hk, gd hi]
    exact hp
theorem any_pick (over : List Nat) (p : Nat → Bool) : (over.any p) = !((over.filter p).map one).isEmpty := by
  rw [Bool.eq_iff_iff, List.any_eq_true, Bool.not_eq_true', List.isEmpty_eq_false_iff_exists_mem]
  constructor
  · rintro ⟨c, hc, hp⟩
    exact ⟨_, List.mem_map_of_mem (List.mem_filter.mpr ⟨hc, hp⟩)⟩
  · rintro ⟨x, hx⟩
    obtain ⟨c, hc, rfl⟩ := List.mem_map.mp hx
    exact ⟨c, (List.mem_filter.mp hc).1, (List.mem_filter.mp hc).2⟩
theorem bools_three {ys : List Value} {d : Nat → Bool} (hl : ys.length = 3) (h : ∀ (i : Nat) y, ys[i]? = some y → y = .bool (d i)) : BoolsList ys [d 0, d 1, d 2] := by
  obtain ⟨x, y, z, rfl⟩ := three_of hl
  · rw [h 0 x rfl, h 1 y rfl, h 2 z rfl]
    exact .cons _ (.cons _ (.cons _ .nil))
theorem isEmpty_app (a b : List Str) : (a ++ b).isEmpty = (a.isEmpty && b.isEmpty) := by cases a <;> simp
def outs (p l h : List Nat) : Nat → List Nat
  | 0 => p
  | 1 => l
  | _ => h
theorem outs_at {p l h : List Nat} {t0 t1 t2 : Tok} {i : Nat} {v : Value} (hv : (#[Value.str (tx p) t0, .str (tx l) t1, .str (tx h) t2] : Array Value)[i]? = some v) : ∃ t, v = .str (tx (outs p l h i)) t := by
  exact at3 (P := fun i v => ∃ t, v = Value.str (tx (outs p l h i)) t) hv ⟨t0, rfl⟩ ⟨t1, rfl⟩ ⟨t2, rfl⟩
theorem words_f1_b : True := by
  k_with "compareOp NotEq ref ref" => ((k_here; (with_reducible show wpAny _ _ (compareOp _ (Value.ref _) (Value.ref _)) _ _ _); k_dflt (refine' ne_empty ?w8N ?w8hl ?w8hb ?w8hi ?w8hok ?w8hu ?_; (case w8N => k_asm); (case w8hl => k_mem); (case w8hb => k_mem); (case w8hi => assumption); (case w8hok => first | assumption | exact List.forall_mem_append.mpr ⟨by assumption, by assumption⟩); (case w8hu => first | ktr_units | decide +kernel))))
  k_with "compareOp NotEq ref ref" => ((k_here; (with_reducible show wpAny _ _ (compareOp _ (Value.ref _) (Value.ref _)) _ _ _); (with_reducible rename BoolsList _ _ => hB9); k_dflt (refine' ne_bools_same ?w8N ?w8hl ?w8hb hB9 ?w8hj ?w8e ?w8hu ?_; (case w8N => k_asm); (case w8hl => k_mem); (case w8hb => k_mem); (case w8hj => exact .cons _ (.cons _ (.cons _ .nil))); (case w8e => assumption); (case w8hu => first | ktr_units | decide +kernel))))
  k_with "binaryOp Add ref ref" => ((k_here; (with_reducible show wpAny _ _ (binaryOp _ (Value.ref _) (Value.ref _)) _ _ _); k_dflt (refine' add_strs ?w8F ?w8N ?w8hl ?w8hb ?w8hx ?w8hy ?w8hsz ?_; (case w8F => k_asm); (case w8N => k_asm); (case w8hl => k_mem); (case w8hb => k_mem); (case w8hx => assumption); (case w8hy => assumption); (case w8hsz => first | omega | (simp only [List.length_map]; omega)); k_whole; intro w8D' w8zs' w8h' w8F' w8N' l1 w8hS'; (try k_lt l1))))
  trivial

theorem three_ones (a b c : Nat) : one a ++ one b ++ one c = tx [a, b, c] := rfl
theorem four_ones (a b c d : Nat) : one a ++ one b ++ one c ++ one d = tx [a, b, c, d] := rfl
theorem words_f1_c : True := by
  k_with "callTakes4" => ((k_here; k_dflt (refine' con_use (con_takes4' ?w8ha ?w8hb ?w8hc ?w8hd (four_ones _ _ _ _)) ?k2 ?k3 ?k4 ?k5 ?k6 ?k7 ?k8 ?_; (case w8ha => assumption); (case w8hb => assumption); (case w8hc => assumption); (case w8hd => assumption); walk_at "conArgs"; k_whole; intro w8v' w8h' w8tk' w8hv' w8F' w8N'; subst w8hv'; (try dsimp only); (try k_fold))))
  k_with "callTakes3" => ((k_here; k_dflt (refine' con_use (con_takes3' ?w8ha ?w8hb ?w8hc (three_ones _ _ _)) ?k2 ?k3 ?k4 ?k5 ?k6 ?k7 ?k8 ?_; (case w8ha => assumption); (case w8hb => assumption); (case w8hc => assumption); walk_at "conArgs"; k_whole; intro w8v' w8h' w8tk' w8hv' w8F' w8N'; subst w8hv'; (try dsimp only); (try k_fold))))
  trivial

theorem body_law {w : World} {mean : ExcName → Option Value} {mg mb : Str → Option Value} {h₀ : Heap} {L f : Addr} {cdv : Value} {m : Str → Option Value} {aK aR D : Addr} {us : List Value} {NW : List (Addr × Obj)} {oR ob oo oa : Obj} {nn n3 : Nat} {tr t0 t1 t2 tb ta : Tok} {r0 r1 r2 r3 r4 b a : Nat} {rs over : List Nat} {s : Shared} {Q : Flow → Shared → Prop} {E : Value → Shared → Prop}
    (hrl : rs = [r0, r1, r2, r3, r4]) (F : Fr h₀ L s.heap m) (X : (K9 w.params).In h₀) (T : Top q9 l9 mean mg mb h₀)
    (N : News h₀ L s.heap NW) (mD : (D, listOf us.toArray n3) ∈ NW) (mA : (aR, listOf #[.str (tx (pileF [] [] rs)) t0, .str (tx (lineG [] [] rs)) t1, .str (tx (handR rs)) t2] nn) ∈ NW)
    (mR : (L + 1 + 1, oR) ∈ NW) (mB : (L + 1 + 1 + 1, ob) ∈ NW) (mO : (L + 1 + 1 + 1 + 1, oo) ∈ NW) (mC : (L + 1 + 1 + 1 + 1 + 1, oa) ∈ NW)
    (hmk : m (Str.ofString "kinds") = some (.ref aK)) (hmr : m (Str.ofString "rows") = some (.ref aR))
    (hoR : oR.data = .cell (some (.str (tx rs) tr))) (hob : ob.data = .cell (some (.str (one b) tb))) (hoo : oo.data = .cell (some (.ref D))) (hoa : oa.data = .cell (some (.str (one a) ta)))
    (hrs : ∀ d ∈ rs, d ∈ sgn) (hS : StrsAre us (over.map one)) (hover : ∀ c, c ∈ over ↔ c ∈ rs ∧ tokv b < tokv c) (hinc : over.Pairwise fun c d => tokv c < tokv d) (hv23 : over.length ≤ 23) (hb : b ∈ rs) (ha : a ∈ rs) (hab : tokv a < tokv b)
    (hE : PassesOwn (model Challenge.rw_ux0019_01.row.prog w) (callerA.deeper (envOfC (Str.ofString "law") lawScope L f cdv)) (envOfC (Str.ofString "law") lawScope L f cdv) E)
    (hdone : ∀ h' tk' m', Fr h₀ L h' m' → m' (Str.ofString "kinds") = some (.ref aK) → m' (Str.ofString "rows") = some (.ref aR) →
      News h₀ L h' NW →
      Q .next { s with heap := h', toks := tk' }) :
    wpAny (model Challenge.rw_ux0019_01.row.prog w) (callerA.deeper (envOfC (Str.ofString "law") lawScope L f cdv)) (execs (forBody forA) (envOfC (Str.ofString "law") lawScope L f cdv)) Q E s := by
  refine (show wpAny _ (callerA.deeper (envOfC _ ⟨_, _, _, _, _⟩ _ _ _)) (execs (_ :: _ :: _ :: _ :: _ :: []) (envOfC _ ⟨_, _, _, _, _⟩ _ _ _)) _ _ _ from ?_)
  subst hrl
  have hms : ∀ {m₁ : Str → Option Value}, m₁ (Str.ofString "kinds") = some (.ref aK) → m₁ (Str.ofString "rows") = some (.ref aR) → m₁ = kstB m₁ [(Str.ofString "kinds", .ref aK), (Str.ofString "rows", .ref aR)] := fun {m₁} h1 h2 =>
    (funext fun z => kstB_eq (by intro p hp; simp only [List.mem_cons, List.not_mem_nil, or_false] at hp; rcases hp with rfl | rfl <;> assumption) fun _ => rfl).symm
  rw [hms hmk hmr] at F
  dsimp only [kstB] at F
  have hul : us.length = over.length := ones_len hS
  have hbs := hrs b hb
  have has := hrs a ha
  have hos : ∀ i, i < over.length → over.getD i 0 ∈ sgn := fun i hi => by
    rw [List.getD_eq_getElem?_getD, List.getElem?_eq_getElem hi]
    exact hrs _ ((hover _).mp (List.getElem_mem hi)).1
  generalize hP0 : pileF [] [] [r0, r1, r2, r3, r4] = P0 at mA
  generalize hL0 : lineG [] [] [r0, r1, r2, r3, r4] = L0 at mA
  generalize hH0 : handR [r0, r1, r2, r3, r4] = H0 at mA
  walk_at "goD"
  k_dflt (refine LCt.CompSrcT.ledger (by rfl) (by k_asm) (by k_asm) (by k_mem) (by rw [List.size_toArray, hul, sizeLine_eq]; exact Nat.le_trans hv23 (Nat.le_of_ble_eq_true rfl)) ?_); intro g'
  refine' ct_texts (fun j => takesG [r0, r1, r2, r3, r4] r0 r4 b [[over.getD j 0]] a) (fun j => one (over.getD j 0)) ?turn1 ?fin1
  case turn1 =>
    intro i v I' oI' C' oC' D' m' ys' h' tk' E' hi' hv' hC' hx' F' N' off' ne'
    refine hideQ ?_; intro Q7 hq7
    obtain ⟨t, rfl, hi⟩ := ones_arr hS hv'
    clear hv' hi'
    have hoi := hos i hi
    try simp only [LCg.Off3, and_true] at off'
    walk_at "goD"
    walk_at "callTakes3"
    walk_at "goD"
  case fin1 =>
    intro ws hws
    obtain ⟨W, hW0, hW⟩ := pick_of hul (fun c => takesG [r0, r1, r2, r3, r4] r0 r4 b [[c]] a) hws
    clear hws
    walk_at "goD"
    k_dflt (refine LCt.CompSrcT.ledger (by rfl) (by k_asm) (by k_asm) (by k_mem) (by rw [List.size_toArray, hul, sizeLine_eq]; exact Nat.le_trans hv23 (Nat.le_of_ble_eq_true rfl)) ?_); intro g'
    refine' ct_texts (fun j => takesG [r0, r1, r2, r3, r4] r0 r4 (over.getD j 0) [[b]] a) (fun j => one (over.getD j 0)) ?turn2 ?fin2
    case turn2 =>
      intro i v I' oI' C' oC' D' m' ys' h' tk' E' hi' hv' hC' hx' F' N' off' ne'
      refine hideQ ?_; intro Q7 hq7
      obtain ⟨t, rfl, hi⟩ := ones_arr hS hv'
      clear hv' hi'
      have hoi := hos i hi
      try simp only [LCg.Off3, and_true] at off'
      walk_at "goD"
      walk_at "callTakes3"
      walk_at "goD"
    case fin2 =>
      intro xs hxs
      obtain ⟨V, hV0, hV⟩ := pick_of hul (fun c => takesG [r0, r1, r2, r3, r4] r0 r4 c [[b]] a) hxs
      clear hxs
      walk_at "goD"
      k_dflt (refine Assign_two (F₀ := by k_asm) (by rfl) (by with_unfolding_all rfl) (by with_unfolding_all rfl) (by decide) (by rfl) (by decide) (by rfl) (by rfl) (by decide) (by rfl) (by rfl) ?_)
      walk_at "goD"
      (rename Fr _ _ _ _ => lF'); (rename News _ _ _ _ => lN')
      refine ⟨_, _, _, _, over.length, _, fun i j => takesG [r0, r1, r2, r3, r4] r0 r4 b [[over.getD (i.succ + j) 0], [over.getD i 0]] a, fun i j => one (over.getD (i.succ + j) 0), fun i => over.length - i.succ, rfl, rfl, lF', lN', (by assumption), (range_23 over.length (by omega)).1, (range_23 over.length (by omega)).2, hv23, (fun i _ => Nat.le_trans (Nat.sub_le _ _) hv23), fun g' => ⟨?turn3, ?fin3⟩⟩
      case turn3 =>
        intro i t I' oI' C' oC' D' m₂ ys' h' tk' E' hi hC' hx' F' N' off' ne'
        clear lF' lN'
        try simp only [LCg.Off3, and_true] at off'
        have hoi := hos i hi
        walk_at "goD"
        (with_reducible rename StrsAre _ (List.map one (List.drop _ _)) => hS1); (with_reducible rename List.length _ = List.length _ - Nat.succ _ => hL1)
        refine ⟨_, _, _, _, _, _, rfl, rfl, (by k_asm), news_rot (by k_asm), (by simp only [LCg.Off3, and_true]; refine ⟨⟨?_, ?_, ?_⟩, off'⟩ <;> k_ne), List.mem_cons_self, (fun p hp => .tail _ hp), (by rw [List.size_toArray]; exact hL1), ?_⟩
        clear off' ne' hC' hx'
        intro j v I' oI' C' oC' D' m₂ ys' J' oJ' h' tk' E' hv' hC' hx' hxn' F' N' off' ne'
        refine hideQ ?_; intro Q7 hq7
        obtain ⟨t, rfl, hj⟩ := ones_arr hS1 hv'
        rw [drop_getD] at hx'
        rw [List.length_drop] at hj
        have hoj := hos (i.succ + j) (by omega)
        try simp only [LCg.Off3, and_true] at off'
        walk_at "goD"
        walk_at "callTakes4"
        walk_at "goD"
      case fin3 =>
        intro zs hzs
        clear lF' lN'
        obtain ⟨Z, hZ0, hZ⟩ : ∃ Z, Z = _ ∧ StrsAre zs Z := ⟨_, rfl, hzs⟩
        clear hzs
        have hWl : W.length ≤ 23 := by rw [hW0]; exact Nat.le_trans (List.length_filter_le _ _) hv23
        have hVl : V.length ≤ 23 := by rw [hV0]; exact Nat.le_trans (List.length_filter_le _ _) hv23
        have hZl : Z.length ≤ 23 * 23 := by rw [hZ0]; exact Nat.le_trans (twoS_len fun i _ => Nat.le_trans (Nat.sub_le _ _) hv23) (Nat.mul_le_mul_left 23 hv23)
        have hWk : ∀ s ∈ W.map one, PyData.strOk s = true := fun s hs => by
          obtain ⟨c, hc, rfl⟩ := List.mem_map.mp hs
          rw [hW0] at hc
          exact one_ok (hrs c ((hover c).mp (List.mem_filter.mp hc).1).1)
        have hVk : ∀ s ∈ V.map one, PyData.strOk s = true := fun s hs => by
          obtain ⟨c, hc, rfl⟩ := List.mem_map.mp hs
          rw [hV0] at hc
          exact one_ok (hrs c ((hover c).mp (List.mem_filter.mp hc).1).1)
        have hZk : ∀ s ∈ Z, PyData.strOk s = true := fun s hs => by
          rw [hZ0] at hs
          exact twoS_all (P := fun s => PyData.strOk s = true) (fun i j hi hj => one_ok (hos _ (by omega))) s hs
        have hbP : b ∈ P0 := by rw [← hP0]; exact (show (pileF [] [] [r0, r1, r2, r3, r4]).Perm [r0, r1, r2, r3, r4] by simpa using pile_perm [r0, r1, r2, r3, r4] [] []).mem_iff.mpr hb
        have haP : a ∈ P0 := by rw [← hP0]; exact (show (pileF [] [] [r0, r1, r2, r3, r4]).Perm [r0, r1, r2, r3, r4] by simpa using pile_perm [r0, r1, r2, r3, r4] [] []).mem_iff.mpr ha
        have hbL : b ∈ L0 := by rw [← hL0]; exact (show (lineG [] [] [r0, r1, r2, r3, r4]).Perm [r0, r1, r2, r3, r4] by simpa using line_perm [r0, r1, r2, r3, r4] [] []).mem_iff.mpr hb
        have haL : a ∈ L0 := by rw [← hL0]; exact (show (lineG [] [] [r0, r1, r2, r3, r4]).Perm [r0, r1, r2, r3, r4] by simpa using line_perm [r0, r1, r2, r3, r4] [] []).mem_iff.mpr ha
        have hbH : b ∈ H0 := by rw [← hH0]; exact (show (handR [r0, r1, r2, r3, r4]).Perm [r0, r1, r2, r3, r4] from hand_perm [r1, r2, r3, r4] r0).mem_iff.mpr hb
        have haH : a ∈ H0 := by rw [← hH0]; exact (show (handR [r0, r1, r2, r3, r4]).Perm [r0, r1, r2, r3, r4] from hand_perm [r1, r2, r3, r4] r0).mem_iff.mpr ha
        have hne : ¬ a = b := fun q => by rw [q] at hab; exact Int.lt_irrefl _ hab
        have law := pair_law rfl hrs hb ha hab hover
        rw [hP0, hL0, show handG r0 [r1, r2, r3, r4] = H0 from hH0, ← befo_txt hbP haP hne, ← befo_txt hbL haL hne, ← befo_txt hbH haH hne, ← two_any hinc (fun c s => takesG [r0, r1, r2, r3, r4] r0 r4 b [[c], [s]] a), ← hZ0] at law
        have hW1 : (over.any fun c => takesG [r0, r1, r2, r3, r4] r0 r4 b [[c]] a) = !(W.map one).isEmpty := by rw [hW0]; exact any_pick _ _
        have hV1 : (over.any fun c => takesG [r0, r1, r2, r3, r4] r0 r4 c [[b]] a) = !(V.map one).isEmpty := by rw [hV0]; exact any_pick _ _
        rw [hW1, hV1] at law
        walk_at "goU"
        refine execs_hid ?_
        intro Q9 nx9
        have tail : ∀ (d3 : Bool) (Dd : Addr) (nd : Nat) (nw : List (Addr × Obj)) (m' : Str → Option Value) (h : Heap) (tk : Nat),
            [decide (Txt.find (tx P0) (one b) < Txt.rfind (tx P0) (one a)), decide (Txt.find (tx L0) (one b) < Txt.rfind (tx L0) (one a)), decide (Txt.find (tx H0) (one b) < Txt.rfind (tx H0) (one a))] = [!(W.map one).isEmpty, !(V.map one ++ Z).isEmpty, d3] →
            m' (Str.ofString "due") = some (.ref Dd) → m' (Str.ofString "kinds") = some (.ref aK) → m' (Str.ofString "rows") = some (.ref aR) → Fr h₀ L h m' → News h₀ L h nw →
            (Dd, listOf #[.bool (!(W.map one).isEmpty), .bool (!(V.map one ++ Z).isEmpty), .bool d3] nd) ∈ nw → (∀ p ∈ NW, p ∈ nw) → Q9 .next { s with heap := h, toks := tk } := by
          intro d3 Dd nd nw m' h tk hEq hmd hmk' hmr' F9 N9 mDd hsub
          have mA' := hsub _ mA
          have mB' := hsub _ mB
          have mC' := hsub _ mC
          have F8 := fr_names' (ps := [(Str.ofString "due", .ref Dd), (Str.ofString "kinds", .ref aK), (Str.ofString "rows", .ref aR)]) (by intro p hp; simp only [List.mem_cons, List.not_mem_nil, or_false] at hp; rcases hp with rfl | rfl | rfl <;> assumption) F9
          dsimp only [kstB] at F8
          clear F9 mA mB mC mD mR mO N law hWk hVk hZk hbP haP hbL haL hbH haH
          refine Nx.next nx9 ?_
          walk_at "goD"
          k_dflt (refine LCg.CompSrc.ledger (by rfl) (by k_asm) (by k_asm) (by k_mem) (by rw [sizeLine_eq]; exact Nat.le_of_ble_eq_true rfl) ?_); intro g'
          refine' cg_any (fun i y => y = .bool (decide (Txt.find (tx (outs P0 L0 H0 i)) (one b) < Txt.rfind (tx (outs P0 L0 H0 i)) (one a)))) ?turnA ?finA
          case turnA =>
            intro i v I' oI' C' oC' D' m' ys' h' tk' E' hi' hv' hC' hx' F' N' off' ne'
            refine hideQ ?_; intro Q7 hq7
            obtain ⟨t, rfl⟩ := outs_at hv'
            clear hv'
            try simp only [LCg.Off3, and_true] at off'
            walk_at "goD"
          case finA =>
            intro ys hyl hye
            have hB := bools_three (d := fun i => decide (Txt.find (tx (outs P0 L0 H0 i)) (one b) < Txt.rfind (tx (outs P0 L0 H0 i)) (one a))) hyl hye
            dsimp only [outs] at hB
            clear hye hyl
            walk_at "goD"
            (rename News _ _ _ _ => lN')
            exact hdone _ _ _ (by k_asm) (by with_unfolding_all rfl) (by with_unfolding_all rfl) (by intro p hp; refine lN' p ?_; repeat (first | exact hsub p hp | refine List.mem_cons_of_mem _ ?_))
        walk_at "goD"
        · walk_at "callTakes3"
          walk_at "goD"
          (rename (List.map one W ++ List.map one V).isEmpty = true => hWV)
          (rename News _ _ _ _ => lN'); (rename Fr _ _ _ _ => lF')
          refine tail (takesG [r0, r1, r2, r3, r4] r0 r4 b [[b]] a) _ _ _ _ _ _ ?_ (by with_unfolding_all rfl) (by with_unfolding_all rfl) (by with_unfolding_all rfl) lF' lN' (by k_mem) (by intro p hp; repeat (first | exact hp | refine List.mem_cons_of_mem _ ?_))
          rw [isEmpty_app, Bool.and_eq_true] at hWV
          rw [law.1, law.2.1, law.2.2, isEmpty_app, Bool.not_and, hWV.1, hWV.2]
          rfl
        · (rename (List.map one W ++ List.map one V).isEmpty = false => hWV)
          (rename News _ _ _ _ => lN'); (rename Fr _ _ _ _ => lF')
          refine tail (!(W.map one ++ V.map one).isEmpty) _ _ _ _ _ _ ?_ (by with_unfolding_all rfl) (by with_unfolding_all rfl) (by with_unfolding_all rfl) lF' lN' (by k_mem) (by intro p hp; repeat (first | exact hp | refine List.mem_cons_of_mem _ ?_))
          rw [isEmpty_app] at hWV
          rw [law.1, law.2.1, law.2.2, isEmpty_app, isEmpty_app]
          revert hWV
          cases (W.map one).isEmpty <;> cases (V.map one).isEmpty <;> intro hWV <;> first | rfl | cases hWV
end Mine
end

section
open PySem PySem.W PyProof.Rows PySem.Spec PySem.Calls
set_option maxRecDepth 100000
namespace Mine
local macro_rules | `(tactic| k_ne) => `(tactic| walk_at "kne")
theorem words_f2 : True := by
  w_top off
  first | walk1 | skip
  k_with_none
  k_with "kmem" => (first | exact List.mem_cons_self | (refine List.mem_cons_of_mem _ ?_; k_mem) | assumption)
  trivial
variable {q9 : Program} {l9 : List Str}
set_option maxHeartbeats 40000000
theorem words_f2_a : True := by
  k_with "kne" => ((refine neN ?_; (try dsimp only); first | assumption | (refine Ne.symm ?_; assumption) | exact Nat.ne_of_lt (by assumption) | exact Nat.ne_of_gt (by assumption) | omega))
  k_with "conArgs" => (((case k2 => k_asm); (case k3 => k_asm); (case k4 => k_asm); (case k5 => k_asm); (case k6 => first | trivial | assumption); (case k7 => ktr_room); (case k8 => ktr_units)))
  k_with "eval ListComp" => ((k_here; first
  | ((with_reducible show wpAny _ _ (eval (Expr.ListComp _ [Comprehension.mk _ _ [] _] _ _) _) _ _ _); k_dflt (refine LCg.ListComp_U (F₀ := by k_asm) (by with_unfolding_all rfl) (by decide) (by rfl) (by decide) (by rfl) ?_))
  | ((with_reducible show wpAny _ _ (eval (Expr.ListComp _ [Comprehension.mk _ _ [_] _] _ _) _) _ _ _); k_dflt (refine LCt.ListComp_T (F₀ := by k_asm) (by with_unfolding_all rfl) (by decide) (by rfl) (by decide) (by rfl) ?_))))
  k_with "exec Assign cons ListComp" => ((k_here; first
  | ((with_reducible show wpAny _ _ (exec (Stmt.Assign _ (Expr.ListComp _ [Comprehension.mk _ _ [] _] _ _) _) _) _ _ _); k_dflt (refine LCg.Assign_ListComp_U (F₀ := by k_asm) (by rfl) (by with_unfolding_all rfl) (by with_unfolding_all rfl) (by decide) (by rfl) (by decide) (by rfl) (by rfl) (by rfl) ?_))
  | ((with_reducible show wpAny _ _ (exec (Stmt.Assign _ (Expr.ListComp _ [Comprehension.mk _ _ [_] _] _ _) _) _) _ _ _); k_dflt (refine LCt.Assign_ListComp_T (F₀ := by k_asm) (by rfl) (by with_unfolding_all rfl) (by with_unfolding_all rfl) (by decide) (by rfl) (by decide) (by rfl) (by rfl) (by rfl) ?_))))
  k_with "CompEnd" => (first
  | (refine comp_end (by assumption) (by assumption) (by kcf_all) (by first | assumption | (simp only [LCg.Off3, and_true]; assumption)) (by first | lcg_src | assumption) ?_)
  | (exact comp_endF (by assumption) (by assumption) (by kcf_all) (by first | assumption | (simp only [LCg.Off3, and_true]; assumption)) (by first | lcg_src | assumption)))
  k_with "call builtin:len" => ((k_here; (with_reducible show wpAny _ _ (call _ [Value.ref _]) _ _ _); k_dflt (refine' kst_len ?w8N ?w8hm ?w8e ?w8hf ?_; (case w8N => k_asm); (case w8hm => k_mem); (case w8e => assumption); (case w8hf => omega))))
  k_with "subscriptTail Name Slice ref ref" => ((k_here; first
  | ((with_reducible show wpAny _ _ (subscriptTail _ (PySem.Expr.Slice (some _) none none _) (Value.ref _) (Value.ref _)) _ _ _); k_dflt (refine' slice_from ?w8F ?w8N ?w8hm ?w8hv ?w8hx ?w8h23 ?_; (case w8F => k_asm); (case w8N => k_asm); (case w8hm => k_mem); (case w8hv => assumption); (case w8hx => exact (Int.natCast_succ _).symm); (case w8h23 => omega); k_whole; intro w8D' w8us' w8h' w8F' w8N' l1 w8hS' w8hL'; (try k_lt l1)))
  | ((with_reducible show wpAny _ _ (subscriptTail _ (PySem.Expr.Slice none (some _) none _) (Value.ref _) (Value.ref _)) _ _ _); k_dflt (refine' slice_upto ?w8F ?w8N ?w8hm ?w8hv ?w8hx ?w8h23 ?_; (case w8F => k_asm); (case w8N => k_asm); (case w8hm => k_mem); (case w8hv => assumption); (case w8hx => exact rfl); (case w8h23 => omega); k_whole; intro w8D' w8us' w8h' w8F' w8N' l1 w8hS' w8hL'; (try k_lt l1)))))
  k_with "subscriptTail Name Name ref int" => ((k_here; (with_reducible show wpAny _ _ (subscriptTail _ _ (Value.ref _) (Value.int _ _)) _ _ _); k_dflt (refine' item_ones ?w8N ?w8hm ?w8hv ?w8hi ?w8hk ?w8h23 ?_; (case w8N => k_asm); (case w8hm => k_mem); (case w8hv => assumption); (case w8hi => exact rfl); (case w8hk => omega); (case w8h23 => omega); k_whole; intro w8t')))
  k_with "go" => (repeat' (first | (fail_if_success (first | (with_reducible show wpAny _ _ (exec (Stmt.While _ _ _ _) _) _ _ _) | (with_reducible show wpAny _ _ (exec (Stmt.For _ _ _ _ _) _) _ _ _) | (with_reducible show wpAny _ _ (pyIter _) _ _ _) | (with_reducible show InvEndN _ _ _ _ _ _ _) | (with_reducible show wpAny _ _ (exec (Stmt.Assign _ (Expr.ListComp _ (Comprehension.mk _ _ _ _ :: Comprehension.mk _ _ _ _ :: _) _ _) _) _) _ _ _) | (with_reducible show ForRAt _ _ _ _ _ _ _ _ _ _ _ _) | (with_reducible show ForLAt _ _ _ _ _ _ _ _ _ _ _ _) | (with_reducible show TEnd _ _ _ _ _ _ _) | (with_reducible show TPost _ _ _ _ _ _ _ _ _) | (with_reducible show TwoSrc _ _ _ _ _ _ _ _ _ _ _ _ _ _ _ _ _ _) | (with_reducible show SliceAt _ _ _ _ _ _ _ _ _ _ _ _ _ _ _ _ _ _ _ _ _ _ _ _ _ _) | (with_reducible show wpAny _ _ (call (Value.ref _) _) _ _ _) | (with_reducible show LCg.CompSrc _ _ _ _ _ _ _ _ _ _ _ _ _ _) | (with_reducible show LCt.CompSrcT _ _ _ _ _ _ _ _ _ _ _ _ _ _ _) | (with_reducible show KswEnd _ _ _ _ _ _ _ _ _ _ _ _)));  first | ((fail_if_success (with_reducible show wpAny _ _ _ _ _ _)); (with_reducible refine Hid.use (by assumption) ?_); (try dsimp only)) | (k_unfold; (try dsimp only)) | (k_end; wrow_close) | walk1 | (dsimp only; walk1) | (leave1; walk_say "STEP leave1"; try dsimp only) | fail "no step"))
  k_with "goD" => (repeat' (first | (fail_if_success (first | (with_reducible show wpAny _ _ (exec (Stmt.While _ _ _ _) _) _ _ _) | (with_reducible show wpAny _ _ (exec (Stmt.For _ _ _ _ _) _) _ _ _) | (with_reducible show wpAny _ _ (pyIter _) _ _ _) | (with_reducible show InvEndN _ _ _ _ _ _ _) | (with_reducible show wpAny _ _ (exec (Stmt.Assign _ (Expr.ListComp _ (Comprehension.mk _ _ _ _ :: Comprehension.mk _ _ _ _ :: _) _ _) _) _) _ _ _) | (with_reducible show ForRAt _ _ _ _ _ _ _ _ _ _ _ _) | (with_reducible show ForLAt _ _ _ _ _ _ _ _ _ _ _ _) | (with_reducible show TEnd _ _ _ _ _ _ _) | (with_reducible show TPost _ _ _ _ _ _ _ _ _) | (with_reducible show TwoSrc _ _ _ _ _ _ _ _ _ _ _ _ _ _ _ _ _ _) | (with_reducible show SliceAt _ _ _ _ _ _ _ _ _ _ _ _ _ _ _ _ _ _ _ _ _ _ _ _ _ _) | (with_reducible show wpAny _ _ (call (Value.ref _) _) _ _ _) | (with_reducible show LCg.CompSrc _ _ _ _ _ _ _ _ _ _ _ _ _ _) | (with_reducible show LCt.CompSrcT _ _ _ _ _ _ _ _ _ _ _ _ _ _ _) | (with_reducible show KswEnd _ _ _ _ _ _ _ _ _ _ _ _)));  first | ((fail_if_success (with_reducible show wpAny _ _ _ _ _ _)); (with_reducible refine Hid.use (by assumption) ?_); (try dsimp only)) | (k_unfold; (try dsimp only)) | (k_end; wrow_close) | walk1 | (dsimp only; walk1) | (leave1; walk_say "STEP leave1"; try dsimp only) | fail "no step"))
  k_with "goU" => (repeat' (first | (fail_if_success (first | (with_reducible show wpAny _ _ (exec (Stmt.While _ _ _ _) _) _ _ _) | (with_reducible show wpAny _ _ (exec (Stmt.For _ _ _ _ _) _) _ _ _) | (with_reducible show wpAny _ _ (pyIter _) _ _ _) | (with_reducible show InvEndN _ _ _ _ _ _ _) | (with_reducible show wpAny _ _ (exec (Stmt.Assign _ (Expr.ListComp _ (Comprehension.mk _ _ _ _ :: Comprehension.mk _ _ _ _ :: _) _ _) _) _) _ _ _) | (with_reducible show wpAny _ _ (execs (Stmt.Assign _ (Expr.List _ _) _ :: _) _) _ _ _) | (with_reducible show ForRAt _ _ _ _ _ _ _ _ _ _ _ _) | (with_reducible show ForLAt _ _ _ _ _ _ _ _ _ _ _ _) | (with_reducible show TEnd _ _ _ _ _ _ _) | (with_reducible show TPost _ _ _ _ _ _ _ _ _) | (with_reducible show TwoSrc _ _ _ _ _ _ _ _ _ _ _ _ _ _ _ _ _ _) | (with_reducible show SliceAt _ _ _ _ _ _ _ _ _ _ _ _ _ _ _ _ _ _ _ _ _ _ _ _ _ _) | (with_reducible show wpAny _ _ (call (Value.ref _) _) _ _ _) | (with_reducible show LCg.CompSrc _ _ _ _ _ _ _ _ _ _ _ _ _ _) | (with_reducible show LCt.CompSrcT _ _ _ _ _ _ _ _ _ _ _ _ _ _ _) | (with_reducible show KswEnd _ _ _ _ _ _ _ _ _ _ _ _)));  first | ((fail_if_success (with_reducible show wpAny _ _ _ _ _ _)); (with_reducible refine Hid.use (by assumption) ?_); (try dsimp only)) | (k_unfold; (try dsimp only)) | (k_end; wrow_close) | walk1 | (dsimp only; walk1) | (leave1; walk_say "STEP leave1"; try dsimp only) | fail "no step"))
  k_with "goE" => (repeat' (first | (fail_if_success (first | (with_reducible show wpAny _ _ (exec (Stmt.While _ _ _ _) _) _ _ _) | (with_reducible show wpAny _ _ (exec (Stmt.For _ _ _ _ _) _) _ _ _) | (with_reducible show wpAny _ _ (pyIter _) _ _ _) | (with_reducible show InvEndN _ _ _ _ _ _ _) | (with_reducible show wpAny _ _ (exec (Stmt.Assign _ (Expr.ListComp _ (Comprehension.mk _ _ _ _ :: Comprehension.mk _ _ _ _ :: _) _ _) _) _) _ _ _) | (with_reducible show wpAny _ _ (execs (Stmt.Assign _ (Expr.ListComp _ _ _ _) _ :: _) _) _ _ _) | (with_reducible show wpAny _ _ (execs (Stmt.For _ _ _ _ _ :: _) _) _ _ _) | (with_reducible show ForRAt _ _ _ _ _ _ _ _ _ _ _ _) | (with_reducible show ForLAt _ _ _ _ _ _ _ _ _ _ _ _) | (with_reducible show TEnd _ _ _ _ _ _ _) | (with_reducible show TPost _ _ _ _ _ _ _ _ _) | (with_reducible show TwoSrc _ _ _ _ _ _ _ _ _ _ _ _ _ _ _ _ _ _) | (with_reducible show SliceAt _ _ _ _ _ _ _ _ _ _ _ _ _ _ _ _ _ _ _ _ _ _ _ _ _ _) | (with_reducible show wpAny _ _ (call (Value.ref _) _) _ _ _) | (with_reducible show LCg.CompSrc _ _ _ _ _ _ _ _ _ _ _ _ _ _) | (with_reducible show LCt.CompSrcT _ _ _ _ _ _ _ _ _ _ _ _ _ _ _) | (with_reducible show KswEnd _ _ _ _ _ _ _ _ _ _ _ _)));  first | ((fail_if_success (with_reducible show wpAny _ _ _ _ _ _)); (with_reducible refine Hid.use (by assumption) ?_); (try dsimp only)) | (k_unfold; (try dsimp only)) | (k_end; wrow_close) | walk1 | (dsimp only; walk1) | (leave1; walk_say "STEP leave1"; try dsimp only) | fail "no step"))
  trivial

theorem offs (L : Nat) : (@Ne Nat (L + 1 + 1) (L + 1 + 1 + 1)) ∧ (@Ne Nat (L + 1 + 1) (L + 1 + 1 + 1 + 1)) ∧ (@Ne Nat (L + 1 + 1) (L + 1 + 1 + 1 + 1 + 1)) ∧ (@Ne Nat (L + 1 + 1 + 1) (L + 1 + 1 + 1 + 1)) ∧ (@Ne Nat (L + 1 + 1 + 1) (L + 1 + 1 + 1 + 1 + 1)) ∧ (@Ne Nat (L + 1 + 1 + 1 + 1) (L + 1 + 1 + 1 + 1 + 1)) := by omega
theorem kinds_facts {rs : List Nat} {K : List Nat} (hK : kindsG rs = K) (hrs : ∀ d ∈ rs, d ∈ sgn) : K.length ≤ 23 ∧ K.Pairwise (fun c d => tokv c < tokv d) ∧ ∀ c, c ∈ K ↔ c ∈ rs := by
  subst hK
  refine ⟨Nat.le_trans (List.length_filter_le _ _) (by decide), List.Pairwise.filter _ (by decide +kernel : sgn.Pairwise fun c d => tokv c < tokv d), fun c => ?_⟩
  unfold kindsG
  rw [List.mem_filter, decide_eq_true_eq]
  exact ⟨fun h => h.2, fun h => ⟨hrs c h, h⟩⟩
theorem over_facts {rs K : List Nat} {i : Nat} (h2 : K.Pairwise (fun c d => tokv c < tokv d)) (h3 : ∀ c, c ∈ K ↔ c ∈ rs) (hi : i < K.length) :
    (∀ c, c ∈ K.drop i.succ ↔ c ∈ rs ∧ tokv (K.getD i 0) < tokv c) ∧ (K.drop i.succ).Pairwise (fun c d => tokv c < tokv d) ∧ K.getD i 0 ∈ rs ∧ ∀ j, j < i → K.getD j 0 ∈ rs ∧ tokv (K.getD j 0) < tokv (K.getD i 0) := by
  have gd : ∀ {k : Nat} (hk : k < K.length), K.getD k 0 = K[k] := fun hk => by rw [List.getD_eq_getElem?_getD, List.getElem?_eq_getElem hk]; rfl
  have pw := List.pairwise_iff_getElem.mp h2
  refine ⟨fun c => ?_, h2.sublist (List.drop_sublist _ _), by rw [gd hi]; exact (h3 _).mp (List.getElem_mem hi), fun j hj => ?_⟩
  · rw [gd hi]
    constructor
    · intro hc
      obtain ⟨k, hk, rfl⟩ := List.mem_iff_getElem.mp hc
      rw [List.getElem_drop]
      rw [List.length_drop] at hk
      exact ⟨(h3 _).mp (List.getElem_mem _), pw i (i.succ + k) hi (by omega) (by omega)⟩
    · rintro ⟨hc, hlt⟩
      obtain ⟨k, hk, rfl⟩ := List.mem_iff_getElem.mp ((h3 c).mpr hc)
      have hik : i < k := by
        rcases Nat.lt_trichotomy i k with q | q | q
        · exact q
        · subst q; exact absurd hlt (Int.lt_irrefl _)
        · have := pw k i hk hi q
          omega
      refine List.mem_iff_getElem.mpr ⟨k - i.succ, by rw [List.length_drop]; omega, ?_⟩
      rw [List.getElem_drop]
      congr 1
      omega
  · have hjl : j < K.length := Nat.lt_trans hj hi
    rw [gd hi, gd hjl]
    exact ⟨(h3 _).mp (List.getElem_mem hjl), pw j i hjl hi hj⟩
theorem take_getD {K : List Nat} {i j : Nat} (h : j < i) : (K.take i).getD j 0 = K.getD j 0 := by
  rw [List.getD_eq_getElem?_getD, List.getElem?_take, if_pos h, List.getD_eq_getElem?_getD]
inductive AJ (aK aR : Addr) (nxf : Obj → List (Addr × Obj)) (m₁ : Str → Option Value) (nx : List (Addr × Obj)) : Prop
  | mk (oa : Obj) (va : Option Value) (h : oa.data = .cell va) (hk : m₁ (Str.ofString "kinds") = some (.ref aK)) (hr : m₁ (Str.ofString "rows") = some (.ref aR)) (e : nx = nxf oa)
inductive RJ (aK aR : Addr) (nxf : Obj → Obj → Obj → List (Addr × Obj)) (m₁ : Str → Option Value) (nx : List (Addr × Obj)) : Prop
  | mk (ob oo oa : Obj) (vb vo va : Option Value) (h1 : ob.data = .cell vb) (h2 : oo.data = .cell vo) (h3 : oa.data = .cell va) (hk : m₁ (Str.ofString "kinds") = some (.ref aK)) (hr : m₁ (Str.ofString "rows") = some (.ref aR)) (e : nx = nxf ob oo oa)
theorem forA_law {w : World} {mean : ExcName → Option Value} {mg mb : Str → Option Value} {h₀ : Heap} {L f : Addr} {cdv : Value} {m : Str → Option Value} {aK aR D I : Addr} {ks us : List Value} {oR ob oo oa oI : Obj} {nn n3 i : Nat} {tr t0 t1 t2 tb ti : Tok} {va : Option Value} {r0 r1 r2 r3 r4 : Nat} {rs K : List Nat} {s : Shared} {Q : Flow → Shared → Prop} {E : Value → Shared → Prop}
    (hrl : rs = [r0, r1, r2, r3, r4]) (F : Fr h₀ L s.heap m) (X : (K9 w.params).In h₀) (T : Top q9 l9 mean mg mb h₀)
    (N : News h₀ L s.heap [(D, listOf us.toArray n3), (I, oI), (aK, LCg.lst ks), (aR, listOf #[.str (tx (pileF [] [] rs)) t0, .str (tx (lineG [] [] rs)) t1, .str (tx (handR rs)) t2] nn), (L + 1 + 1, oR), (L + 1 + 1 + 1, ob), (L + 1 + 1 + 1 + 1, oo), (L + 1 + 1 + 1 + 1 + 1, oa)])
    (hmk : m (Str.ofString "kinds") = some (.ref aK)) (hmr : m (Str.ofString "rows") = some (.ref aR)) (hmi : m (Str.ofString "k") = some (.int (i : Int) ti))
    (hoR : oR.data = .cell (some (.str (tx rs) tr))) (hob : ob.data = .cell (some (.str (one (K.getD i 0)) tb))) (hoo : oo.data = .cell (some (.ref D))) (hoa : oa.data = .cell va)
    (d1 : (@Ne Nat D (L + 1 + 1 + 1 + 1 + 1)) ∧ (@Ne Nat I (L + 1 + 1 + 1 + 1 + 1)) ∧ (@Ne Nat aK (L + 1 + 1 + 1 + 1 + 1)) ∧ (@Ne Nat aR (L + 1 + 1 + 1 + 1 + 1)))
    (hrs : ∀ d ∈ rs, d ∈ sgn) (hKg : kindsG rs = K) (hK : StrsAre ks (K.map one)) (hi : i < K.length) (hS : StrsAre us ((K.drop i.succ).map one))
    (hE : PassesOwn (model Challenge.rw_ux0019_01.row.prog w) (callerA.deeper (envOfC (Str.ofString "law") lawScope L f cdv)) (envOfC (Str.ofString "law") lawScope L f cdv) E)
    (hdone : ∀ h' tk' m' oa' va', oa'.data = .cell va' → Fr h₀ L h' m' → m' (Str.ofString "kinds") = some (.ref aK) → m' (Str.ofString "rows") = some (.ref aR) →
      News h₀ L h' [(D, listOf us.toArray n3), (I, oI), (aK, LCg.lst ks), (aR, listOf #[.str (tx (pileF [] [] rs)) t0, .str (tx (lineG [] [] rs)) t1, .str (tx (handR rs)) t2] nn), (L + 1 + 1, oR), (L + 1 + 1 + 1, ob), (L + 1 + 1 + 1 + 1, oo), (L + 1 + 1 + 1 + 1 + 1, oa')] →
      Q .next { s with heap := h', toks := tk' }) :
    wpAny (model Challenge.rw_ux0019_01.row.prog w) (callerA.deeper (envOfC (Str.ofString "law") lawScope L f cdv)) (exec forA (envOfC (Str.ofString "law") lawScope L f cdv)) Q E s := by
  refine (show wpAny _ (callerA.deeper (envOfC _ ⟨_, _, _, _, _⟩ _ _ _)) (exec (.For (.Name _ _) _ _ [] _) (envOfC _ ⟨_, _, _, _, _⟩ _ _ _)) _ _ _ from ?_)
  obtain ⟨hK5, hKp, hKm⟩ := kinds_facts hKg hrs
  refine and6 (offs L) fun _ _ _ _ _ _ => ?_
  refine and4 d1 fun _ _ _ _ => ?_
  obtain ⟨hov, hop, hbr, hlow⟩ := over_facts hKp hKm hi
  have hms : ∀ {m₁ : Str → Option Value}, m₁ (Str.ofString "kinds") = some (.ref aK) → m₁ (Str.ofString "rows") = some (.ref aR) → m₁ = kstB m₁ [(Str.ofString "kinds", .ref aK), (Str.ofString "rows", .ref aR)] := fun {m₁} h1 h2 =>
    (funext fun z => kstB_eq (by intro p hp; simp only [List.mem_cons, List.not_mem_nil, or_false] at hp; rcases hp with rfl | rfl <;> assumption) fun _ => rfl).symm
  have hm3 : m = kstB m [(Str.ofString "kinds", .ref aK), (Str.ofString "rows", .ref aR), (Str.ofString "k", .int (i : Int) ti)] :=
    (funext fun z => kstB_eq (by intro p hp; simp only [List.mem_cons, List.not_mem_nil, or_false] at hp; rcases hp with rfl | rfl | rfl <;> assumption) fun _ => rfl).symm
  rw [hm3] at F
  dsimp only [kstB] at F
  refine For_L (h₀ := h₀) (L := L) (hE := hE) ?_
  walk_at "goD"
  refine and8 l1 fun _ _ _ _ _ _ _ _ => ?_
  refine ⟨w8D', w8us'.toArray, 0, _, _, fun _ m₁ nx => AJ aK aR (fun oa => [(w8D', listOf w8us'.toArray 0), (D, listOf us.toArray n3), (I, oI), (aK, LCg.lst ks), (aR, listOf #[.str (tx (pileF [] [] rs)) t0, .str (tx (lineG [] [] rs)) t1, .str (tx (handR rs)) t2] nn), (L + 1 + 1, oR), (L + 1 + 1 + 1, ob), (L + 1 + 1 + 1 + 1, oo), (L + 1 + 1 + 1 + 1 + 1, oa)]) m₁ nx,
    rfl, rfl, w8F', w8N', (fun i m nx ⟨_, _, _, _, _, e⟩ => by rw [e]; exact List.mem_cons_self), ⟨oa, va, hoa, rfl, rfl, rfl⟩, ?turn, ?done⟩
  case done =>
    rintro m₁ nx h tk ⟨oa, va, hoa, hk1, hr1, rfl⟩ F N
    clear w8F' w8N'
    exact hdone _ _ _ _ _ hoa F hk1 hr1 (fun p hp => N p (.tail _ hp))
  case turn =>
    rintro j v m₁ nx I2 oI2 h tk hj hv ⟨oa, va, hoa, hk1, hr1, rfl⟩ F N offI
    clear w8F' w8N'
    obtain ⟨t, rfl, hj'⟩ := ones_arr w8hS' hv
    clear hv hj
    have hji : j < i := by rw [List.length_take] at hj'; omega
    rw [take_getD hji]
    rw [hms hk1 hr1] at F
    dsimp only [kstB] at F
    simp only [List.mem_cons, List.not_mem_nil, or_false, forall_eq_or_imp, forall_eq] at offI
    replace offI : (@Ne Nat w8D' I2) ∧ (@Ne Nat D I2) ∧ (@Ne Nat I I2) ∧ (@Ne Nat aK I2) ∧ (@Ne Nat aR I2) ∧ (@Ne Nat (L + 1 + 1) I2) ∧ (@Ne Nat (L + 1 + 1 + 1) I2) ∧ (@Ne Nat (L + 1 + 1 + 1 + 1) I2) ∧ (@Ne Nat (L + 1 + 1 + 1 + 1 + 1) I2) := offI
    refine and9 offI fun _ _ _ _ _ _ _ _ _ => ?_
    obtain ⟨hjr, hjl⟩ := hlow j hji
    walk_at "goE"
    refine' body_law hrl ?F X T ?N ?mD ?mA ?mR ?mB ?mO ?mC ?hmk ?hmr hoR hob hoo ?hoa hrs hS hov hop ?h23 hbr hjr hjl hE ?hd
    case F => k_asm
    case N => k_asm
    case hmk => with_unfolding_all rfl
    case hmr => with_unfolding_all rfl
    case mD => k_mem
    case mA => k_mem
    case mR => k_mem
    case mB => k_mem
    case mO => k_mem
    case mC => k_mem
    case hoa => assumption
    case h23 => rw [List.length_drop]; omega
    case hd =>
      intro h' tk' m' F' hk' hr' N'
      refine TEnd.intro F' N' List.mem_cons_self _ (fun p hp => .tail _ hp) ?_ ⟨_, _, by assumption, hk', hr', rfl⟩
      simp only [List.mem_cons, List.not_mem_nil, or_false, forall_eq_or_imp, forall_eq]
      exact offI
theorem ne_cell {h₀ h : Heap} {L a b : Addr} {news : List (Addr × Obj)} {o1 o2 : Obj} {v : Option Value} (N : News h₀ L h news) (h1 : (a, o1) ∈ news) (h2 : (b, o2) ∈ news) (e1 : ∀ v, o1.data ≠ .cell v) (e2 : o2.data = .cell v) : @Ne Nat a b := fun q => by
  have x := (N _ h1).1
  have y := (N _ h2).1
  dsimp only at x y
  rw [q, y] at x
  exact e1 v (Option.some.inj x ▸ e2)
theorem law_tail {w : World} {mean : ExcName → Option Value} {mg mb : Str → Option Value} {h₀ : Heap} {L f : Addr} {cdv : Value} {m : Str → Option Value} {aK aR : Addr} {ks : List Value} {oR ob oo oa : Obj} {nn : Nat} {tr t0 t1 t2 : Tok} {vb vo va : Option Value} {rs : List Nat} {news : List (Addr × Obj)} {s : Shared} {Q : Flow → Shared → Prop} {E : Value → Shared → Prop}
    (F : Fr h₀ L s.heap m) (X : (K9 w.params).In h₀) (T : Top q9 l9 mean mg mb h₀) (N0 : News h₀ L s.heap news)
    (hmk : m (Str.ofString "kinds") = some (.ref aK)) (hmr : m (Str.ofString "rows") = some (.ref aR))
    (n1 : (aK, LCg.lst ks) ∈ news) (n2 : (aR, listOf #[.str (tx (pileF [] [] rs)) t0, .str (tx (lineG [] [] rs)) t1, .str (tx (handR rs)) t2] nn) ∈ news)
    (n3 : (L + 1 + 1, oR) ∈ news) (n4 : (L + 1 + 1 + 1, ob) ∈ news) (n5 : (L + 1 + 1 + 1 + 1, oo) ∈ news) (n6 : (L + 1 + 1 + 1 + 1 + 1, oa) ∈ news)
    (hoR : oR.data = .cell (some (.str (tx rs) tr))) (hob : ob.data = .cell vb) (hoo : oo.data = .cell vo) (hoa : oa.data = .cell va)
    (hrs : ∀ d ∈ rs, d ∈ sgn) (hrl : rs.length = 5) (hK : StrsAre ks ((kindsG rs).map one))
    (hE : PassesOwn (model Challenge.rw_ux0019_01.row.prog w) (callerA.deeper (envOfC (Str.ofString "law") lawScope L f cdv)) (envOfC (Str.ofString "law") lawScope L f cdv) E)
    (hret : ∀ h' tk' m', Fr h₀ L h' m' → Q (.ret (.bool true)) { s with heap := h', toks := tk' }) :
    wpAny (model Challenge.rw_ux0019_01.row.prog w) (callerA.deeper (envOfC (Str.ofString "law") lawScope L f cdv)) (execs lawEnd (envOfC (Str.ofString "law") lawScope L f cdv)) Q E s := by
  refine (show wpAny _ (callerA.deeper (envOfC _ ⟨_, _, _, _, _⟩ _ _ _)) (execs (_ :: _ :: []) (envOfC _ ⟨_, _, _, _, _⟩ _ _ _)) _ _ _ from ?_)
  obtain ⟨r0, r1, r2, r3, r4, hr5⟩ := five_of hrl
  have N : News h₀ L s.heap [(aK, LCg.lst ks), (aR, listOf #[.str (tx (pileF [] [] rs)) t0, .str (tx (lineG [] [] rs)) t1, .str (tx (handR rs)) t2] nn), (L + 1 + 1, oR), (L + 1 + 1 + 1, ob), (L + 1 + 1 + 1 + 1, oo), (L + 1 + 1 + 1 + 1 + 1, oa)] := by
    intro p hp
    refine N0 p ?_
    simp only [List.mem_cons, List.not_mem_nil, or_false] at hp
    rcases hp with rfl | rfl | rfl | rfl | rfl | rfl <;> assumption
  have hls : ∀ {l : List Value} {n : Nat} v, (listOf l.toArray n).data ≠ .cell v := fun v h => by cases h
  refine and3 (show (@Ne Nat aK (L + 1 + 1 + 1)) ∧ (@Ne Nat aK (L + 1 + 1 + 1 + 1)) ∧ (@Ne Nat aK (L + 1 + 1 + 1 + 1 + 1)) from ⟨ne_cell N0 n1 n4 hls hob, ne_cell N0 n1 n5 hls hoo, ne_cell N0 n1 n6 hls hoa⟩) fun _ _ _ => ?_
  refine and3 (show (@Ne Nat aR (L + 1 + 1 + 1)) ∧ (@Ne Nat aR (L + 1 + 1 + 1 + 1)) ∧ (@Ne Nat aR (L + 1 + 1 + 1 + 1 + 1)) from ⟨ne_cell N0 n2 n4 hls hob, ne_cell N0 n2 n5 hls hoo, ne_cell N0 n2 n6 hls hoa⟩) fun _ _ _ => ?_
  clear n1 n2 n3 n4 n5 n6 N0 hls
  obtain ⟨K, hKg⟩ : ∃ K, kindsG rs = K := ⟨_, rfl⟩
  refine and6 (offs L) fun _ _ _ _ _ _ => ?_
  rw [hKg] at hK
  obtain ⟨hK5, hKp, hKm⟩ := kinds_facts hKg hrs
  have hkl : ks.length = K.length := ones_len hK
  have hms : ∀ {m₁ : Str → Option Value}, m₁ (Str.ofString "kinds") = some (.ref aK) → m₁ (Str.ofString "rows") = some (.ref aR) → m₁ = kstB m₁ [(Str.ofString "kinds", .ref aK), (Str.ofString "rows", .ref aR)] := fun {m₁} h1 h2 =>
    (funext fun z => kstB_eq (by intro p hp; simp only [List.mem_cons, List.not_mem_nil, or_false] at hp; rcases hp with rfl | rfl <;> assumption) fun _ => rfl).symm
  rw [hms hmk hmr] at F
  dsimp only [kstB] at F
  walk_at "goD"
  refine For_R (h₀ := h₀) (L := L) (hE := hE) ?_
  walk_at "goD"
  (rename Fr _ _ _ _ => lF'); (rename News _ _ _ _ => lN')
  refine ⟨_, _, _, _, K.length, _, _, fun i m₁ nx => RJ aK aR (fun ob oo oa => [(aK, LCg.lst ks), (aR, listOf #[.str (tx (pileF [] [] rs)) t0, .str (tx (lineG [] [] rs)) t1, .str (tx (handR rs)) t2] nn), (L + 1 + 1, oR), (L + 1 + 1 + 1, ob), (L + 1 + 1 + 1 + 1, oo), (L + 1 + 1 + 1 + 1 + 1, oa)]) m₁ nx,
    rfl, rfl, by assumption, (range_23 K.length (by omega)).1, (range_23 K.length (by omega)).2, lF', lN', ⟨ob, oo, oa, vb, vo, va, hob, hoo, hoa, rfl, rfl, rfl⟩, ?turn, ?done⟩
  case done =>
    rintro m₁ nx h tk ⟨ob, oo, oa, vb, vo, va, hob, hoo, hoa, hk1, hr1, rfl⟩ F N
    clear lF' lN'
    walk_at "goD"
    all_goals exact hret _ _ _ (by assumption)
  case turn =>
    rintro i v m₁ nx I oI h tk hi ⟨t, rfl⟩ ⟨ob, oo, oa, vb, vo, va, hob, hoo, hoa, hk1, hr1, rfl⟩ F N offI
    clear lF' lN'
    rw [hms hk1 hr1] at F
    dsimp only [kstB] at F
    simp only [List.mem_cons, List.not_mem_nil, or_false, forall_eq_or_imp, forall_eq] at offI
    replace offI : (@Ne Nat aK I) ∧ (@Ne Nat aR I) ∧ (@Ne Nat (L + 1 + 1) I) ∧ (@Ne Nat (L + 1 + 1 + 1) I) ∧ (@Ne Nat (L + 1 + 1 + 1 + 1) I) ∧ (@Ne Nat (L + 1 + 1 + 1 + 1 + 1) I) := offI
    refine and6 offI fun _ _ _ _ _ _ => ?_
    walk_at "goD"
    refine' forA_law hr5 ?F X T ?N ?hmk ?hmr ?hmi hoR ?hob ?hoo hoa ?d1 hrs hKg hK hi ?hS hE ?hd
    case F => k_asm
    case N => k_asm
    case hmk => with_unfolding_all rfl
    case hmr => with_unfolding_all rfl
    case hmi => with_unfolding_all rfl
    case hob => assumption
    case hoo => assumption
    case d1 => refine ⟨?_, ?_, ?_, ?_⟩ <;> k_ne
    case hS => assumption
    case hd =>
      intro h' tk' m' oa' va' hoa' F' hk' hr' N'
      walk_at "goD"
      refine TEnd.intro F' N' (.tail _ (.head _)) _ (fun p hp => .tail _ (.tail _ hp)) ?_ ⟨_, _, _, _, _, _, by assumption, by assumption, hoa', hk', hr', rfl⟩
      simp only [List.mem_cons, List.not_mem_nil, or_false, forall_eq_or_imp, forall_eq]
      exact offI
end Mine
end

section
open PySem PySem.W PyProof.Rows
set_option maxRecDepth 100000
namespace Mine
theorem words_f3 : True := by
  w_top off
  first | walk1 | skip
  k_with_none
  k_with "kmem" => (first | exact List.mem_cons_self | (refine List.mem_cons_of_mem _ ?_; k_mem) | assumption)
  trivial
variable {q9 : Program} {l9 : List Str}
set_option maxHeartbeats 40000000
theorem words_f3_a : True := by
  k_with "go" => (repeat' (first | (fail_if_success (first | (with_reducible show wpAny _ _ (exec (Stmt.While _ _ _ _) _) _ _ _) | (with_reducible show wpAny _ _ (exec (Stmt.For _ _ _ _ _) _) _ _ _) | (with_reducible show wpAny _ _ (pyIter _) _ _ _) | (with_reducible show InvEndN _ _ _ _ _ _ _) | (with_reducible show LoopStep3 _ _ _ _ _ _ _ _ _ _) | (with_reducible show SgnEl _) | (with_reducible show wpAny _ _ (call (Value.ref _) _) _ _ _) | (with_reducible show EndEl _) | (with_reducible show LCg.CompSrc _ _ _ _ _ _ _ _ _ _ _ _ _ _) | (with_reducible show LCt.CompSrcT _ _ _ _ _ _ _ _ _ _ _ _ _ _ _) | (with_reducible show KswEnd _ _ _ _ _ _ _ _ _ _ _ _))); first | (k_unfold; (try dsimp only)) | (k_end; wrow_close) | walk1 | (dsimp only; walk1) | (leave1; walk_say "STEP leave1"; try dsimp only) | fail "no step"))
  k_with "goD" => (repeat' (first | (fail_if_success (first | (with_reducible show wpAny _ _ (exec (Stmt.While _ _ _ _) _) _ _ _) | (with_reducible show wpAny _ _ (exec (Stmt.For _ _ _ _ _) _) _ _ _) | (with_reducible show wpAny _ _ (pyIter _) _ _ _) | (with_reducible show InvEndN _ _ _ _ _ _ _) | (with_reducible show LoopStep3 _ _ _ _ _ _ _ _ _ _) | (with_reducible show SgnEl _) | (with_reducible show wpAny _ _ (call (Value.ref _) _) _ _ _) | (with_reducible show EndEl _) | (with_reducible show LCg.CompSrc _ _ _ _ _ _ _ _ _ _ _ _ _ _) | (with_reducible show LCt.CompSrcT _ _ _ _ _ _ _ _ _ _ _ _ _ _ _) | (with_reducible show KswEnd _ _ _ _ _ _ _ _ _ _ _ _)));  first | (k_unfold; (try dsimp only)) | (k_end; wrow_close) | walk1 | (dsimp only; walk1) | (leave1; walk_say "STEP leave1"; try dsimp only) | fail "no step"))
  k_with "goE" => (repeat' (first | (fail_if_success (first | (with_reducible show wpAny _ _ (exec (Stmt.While _ _ _ _) _) _ _ _) | (with_reducible show wpAny _ _ (exec (Stmt.For _ _ _ _ _) _) _ _ _) | (with_reducible show wpAny _ _ (pyIter _) _ _ _) | (with_reducible show InvEndN _ _ _ _ _ _ _) | (with_reducible show LoopStep3 _ _ _ _ _ _ _ _ _ _) | (with_reducible show wpAny _ _ (execs (Stmt.For _ _ _ _ _ :: _) _) _ _ _) | (with_reducible show SgnEl _) | (with_reducible show wpAny _ _ (call (Value.ref _) _) _ _ _) | (with_reducible show EndEl _) | (with_reducible show LCg.CompSrc _ _ _ _ _ _ _ _ _ _ _ _ _ _) | (with_reducible show LCt.CompSrcT _ _ _ _ _ _ _ _ _ _ _ _ _ _ _) | (with_reducible show KswEnd _ _ _ _ _ _ _ _ _ _ _ _)));  first | (k_unfold; (try dsimp only)) | (k_end; wrow_close) | walk1 | (dsimp only; walk1) | (leave1; walk_say "STEP leave1"; try dsimp only) | fail "no step"))
  k_with "goK" => (repeat' (first | (fail_if_success (first | (with_reducible show wpAny _ _ (exec (Stmt.While _ _ _ _) _) _ _ _) | (with_reducible show wpAny _ _ (exec (Stmt.For _ _ _ _ _) _) _ _ _) | (with_reducible show wpAny _ _ (pyIter _) _ _ _) | (with_reducible show InvEndN _ _ _ _ _ _ _) | (with_reducible show LoopStep3 _ _ _ _ _ _ _ _ _ _) | (with_reducible show wpAny _ _ (exec (Stmt.Assign _ (Expr.ListComp _ [Comprehension.mk _ _ [_] _] _ _) _) _) _ _ _) | (with_reducible show SgnEl _) | (with_reducible show wpAny _ _ (call (Value.ref _) _) _ _ _) | (with_reducible show EndEl _) | (with_reducible show LCg.CompSrc _ _ _ _ _ _ _ _ _ _ _ _ _ _) | (with_reducible show LCt.CompSrcT _ _ _ _ _ _ _ _ _ _ _ _ _ _ _) | (with_reducible show KswEnd _ _ _ _ _ _ _ _ _ _ _ _)));  first | (k_unfold; (try dsimp only)) | (k_end; wrow_close) | walk1 | (dsimp only; walk1) | (leave1; walk_say "STEP leave1"; try dsimp only) | fail "no step"))
  k_with "setItem ref int int" => ((k_here; refine' cells_set ?w8F ?w8N ?w8ho ?w8ha ?w8hi ?w8h0 ?w8h1 ?w8h2 ?_; (case w8F => assumption); (case w8N => assumption); (case w8ho => assumption); (case w8ha => assumption); (case w8hi => assumption); (case w8h0 => omega); (case w8h1 => omega); (case w8h2 => omega); intro w8h' w8F' w8N' w8hi'))
  k_with "eval ListComp" => ((k_here; first
  | ((with_reducible show wpAny _ _ (eval (Expr.ListComp _ [Comprehension.mk _ _ [] _] _ _) _) _ _ _); k_dflt (refine LCg.ListComp_U (F₀ := by k_asm) (by with_unfolding_all rfl) (by decide) (by rfl) (by decide) (by rfl) ?_))
  | ((with_reducible show wpAny _ _ (eval (Expr.ListComp _ [Comprehension.mk _ _ [_] _] _ _) _) _ _ _); k_dflt (refine LCt.ListComp_T (F₀ := by k_asm) (by with_unfolding_all rfl) (by decide) (by rfl) (by decide) (by rfl) ?_))))
  k_with "exec Assign cons ListComp" => ((k_here; first
  | ((with_reducible show wpAny _ _ (exec (Stmt.Assign _ (Expr.ListComp _ [Comprehension.mk _ _ [] _] _ _) _) _) _ _ _); k_dflt (refine LCg.Assign_ListComp_U (F₀ := by k_asm) (by rfl) (by with_unfolding_all rfl) (by with_unfolding_all rfl) (by decide) (by rfl) (by decide) (by rfl) (by rfl) (by rfl) ?_))
  | ((with_reducible show wpAny _ _ (exec (Stmt.Assign _ (Expr.ListComp _ [Comprehension.mk _ _ [_] _] _ _) _) _) _ _ _); k_dflt (refine LCt.Assign_ListComp_T (F₀ := by k_asm) (by rfl) (by with_unfolding_all rfl) (by with_unfolding_all rfl) (by decide) (by rfl) (by decide) (by rfl) (by rfl) (by rfl) ?_))))
  k_with "call builtin:str.join" => ((k_here; k_dflt (refine' call_join_signs ?w8a ?w8b ?w8c ?_; (case w8a => exact News.isList (by assumption) (by k_mem)); (case w8b => assumption); (case w8c => omega)); intro w8tj' w8kj'))
  k_with "CompEnd" => (first
  | (refine comp_end (by assumption) (by assumption) (by kcf_all) (by first | assumption | (simp only [LCg.Off3, and_true]; assumption)) (by first | lcg_src | assumption) ?_)
  | (exact comp_endF (by assumption) (by assumption) (by kcf_all) (by first | assumption | (simp only [LCg.Off3, and_true]; assumption)) (by first | lcg_src | assumption)))
  k_with "conArgs" => (((case k2 => k_asm); (case k3 => k_asm); (case k4 => k_asm); (case k5 => k_asm); (case k6 => first | trivial | assumption); (case k7 => ktr_room); (case k8 => ktr_units)))
  k_with "callFront" => ((k_here; (with_reducible show wpAny _ _ (call _ [Value.str (tx _ ++ tx _) _]) _ _ _); k_dflt (refine' con_use (con_front ?w8hf ?w8hr ?w8hl _) ?k2 ?k3 ?k4 ?k5 ?k6 ?k7 ?k8 ?_; (case w8hf => assumption); (case w8hr => assumption); (case w8hl => assumption); walk_at "conArgs"; k_whole; intro w8v' w8h' w8tk' w8hv' w8F' w8N'; (obtain ⟨w8t', w8hv''⟩ := w8hv'); subst w8hv''; (try dsimp only); (try k_fold))))
  k_with "compareOp NotEq ref ref" => ((k_here; (with_reducible show wpAny _ _ (compareOp _ (Value.ref _) (Value.ref _)) _ _ _); k_dflt (refine' ne_strs ?w8a ?w8b ?w8c ?w8d ?w8e ?w8f ?w8g ?_; (case w8a => exact News.isList (by assumption) (by k_mem)); (case w8b => exact News.isList (by assumption) (by k_mem)); (case w8c => first | assumption | exact .nil); (case w8d => first | assumption | exact .nil); (case w8e => first | assumption | exact List.forall_mem_nil _); (case w8f => first | assumption | exact List.forall_mem_nil _); (case w8g => first | ktr_units | decide +kernel))))
  k_with "compareOp NotEq ref ref" => ((k_here; (with_reducible show wpAny _ _ (compareOp _ (Value.ref _) (Value.ref _)) _ _ _); k_dflt (refine' ne_sorted ?w8a ?w8b ?w8c ?w8d ?w8e ?w8f ?w8g ?w8h ?w8i ?w8j ?w8k ?_; (case w8a => exact News.isList (by assumption) (by k_mem)); (case w8b => exact News.isList (by assumption) (by k_mem)); (case w8c => assumption); (case w8d => assumption); (case w8e => assumption); (case w8f => assumption); (case w8g => assumption); (case w8h => assumption); (case w8i => assumption); (case w8j => assumption); (case w8k => first | ktr_units | decide +kernel))))
  k_with "callBlank" => ((k_here; k_dflt (refine' con_use (con_blank rfl ?w8hr ?w8hl _) ?k2 ?k3 ?k4 ?k5 ?k6 ?k7 ?k8 ?_; (case w8hr => assumption); (case w8hl => assumption); walk_at "conArgs"; k_whole; intro w8v' w8h' w8tk' w8hv' w8F' w8N'; (obtain ⟨w8t', w8hv''⟩ := w8hv'); subst w8hv''; (try dsimp only); (try k_fold))))
  k_with "callPile" => ((k_here; k_dflt (refine' con_pile ?w8hs ?w8hl ?w8hv ?w8B ?w8F ?w8X ?w8N ?w8T ?w8XB ?w8TB ?w8hf ?w8hke ?w8hR ?w8hdp ?w8hun ?_; (case w8hs => assumption); (case w8hl => assumption); (case w8hv => assumption); (case w8B => assumption); (case w8F => k_asm); (case w8X => k_asm); (case w8N => k_asm); (case w8T => k_asm); (case w8XB => assumption); (case w8TB => assumption); (case w8hf => exact rfl); (case w8hke => exact rfl); (case w8hR => k_mem); (case w8hdp => first | ktr_room | decide +kernel); (case w8hun => first | ktr_units | decide +kernel); k_whole; intro w8h' w8tk' w8t' w8F' w8N'; (try dsimp only); (try k_fold))))
  k_with "callLine" => ((k_here; k_dflt (refine' con_use (con_line ?w8hr ?w8hl) ?k2 ?k3 ?k4 ?k5 ?k6 ?k7 ?k8 ?_; (case w8hr => assumption); (case w8hl => omega); walk_at "conArgs"; k_whole; intro w8v' w8h' w8tk' w8hv' w8F' w8N'; (obtain ⟨w8t', w8hv''⟩ := w8hv'); subst w8hv''; (try dsimp only); (try k_fold))))
  k_with "callHand" => ((k_here; k_dflt (refine' con_use (con_hand5 ?w8hr ?w8hl) ?k2 ?k3 ?k4 ?k5 ?k6 ?k7 ?k8 ?_; (case w8hr => assumption); (case w8hl => assumption); walk_at "conArgs"; k_whole; intro w8v' w8h' w8tk' w8hv' w8F' w8N'; (obtain ⟨w8t', w8hv''⟩ := w8hv'); subst w8hv''; (try dsimp only); (try k_fold))))
  k_with "call builtin:sorted" => ((k_here; k_dflt (refine' sorted_text rfl ?w8F ?w8N ?w8hx ?_; (case w8F => k_asm); (case w8N => k_asm); (case w8hx => assumption); k_whole; intro w8h' w8vs' w8ss' w8e' w8D' w8tk' w8F' w8N' w8hap' w8hS' w8hP' w8hO'; (try dsimp only); (try k_fold))))
  trivial

def lawMid : List Stmt := lawParts.1.drop 5
theorem law_rest {w : World} {mean : ExcName → Option Value} {mg mb : Str → Option Value} {h₀ : Heap} {L f : Addr} {cdv : Value} {m : Str → Option Value} {De : Addr} {es : List Value} {ne : Nat} {oS oR ob oo oa : Obj} {ts tr : Tok} {vb vo va : Option Value} {rs : List Nat} {NW : List (Addr × Obj)} {s : Shared} {Q : Flow → Shared → Prop} {E : Value → Shared → Prop}
    (B : Below callerA h₀ [] h₀) (F : Fr h₀ L s.heap m) (X : (K9 w.params).In h₀) (T : Top q9 l9 mean mg mb h₀) (N : News h₀ L s.heap NW)
    (hme : m (Str.ofString "ends") = some (.ref De)) (mE : (De, listOf es.toArray ne) ∈ NW)
    (mS : (L + 1, oS) ∈ NW) (mR : (L + 1 + 1, oR) ∈ NW) (m3 : (L + 1 + 1 + 1, ob) ∈ NW) (m4 : (L + 1 + 1 + 1 + 1, oo) ∈ NW) (m5 : (L + 1 + 1 + 1 + 1 + 1, oa) ∈ NW)
    (hoS : oS.data = .cell (some (.str (Str.ofString "()[]:,;+-*/|&<>=%{}~^@!") ts))) (hoR : oR.data = .cell (some (.str (tx rs) tr))) (hob : ob.data = .cell vb) (hoo : oo.data = .cell vo) (hoa : oa.data = .cell va)
    (hrs : ∀ d ∈ rs, d ∈ sgn) (hrl : rs.length = 5) (hel : es.length = 5) (hee : ∀ (i : Nat) (y : Value), es[i]? = some y → EndEl y)
    (hE : PassesOwn (model Challenge.rw_ux0019_01.row.prog w) (callerA.deeper (envOfC (Str.ofString "law") lawScope L f cdv)) (envOfC (Str.ofString "law") lawScope L f cdv) E)
    (hret : ∀ h' tk' m', Fr h₀ L h' m' → Q (.ret (.bool true)) { s with heap := h', toks := tk' }) :
    wpAny (model Challenge.rw_ux0019_01.row.prog w) (callerA.deeper (envOfC (Str.ofString "law") lawScope L f cdv)) (execs lawMid (envOfC (Str.ofString "law") lawScope L f cdv)) Q E s := by
  refine (show wpAny _ (callerA.deeper (envOfC _ ⟨_, _, _, _, _⟩ _ _ _)) (execs (_ :: _ :: _ :: _ :: _ :: _ :: _ :: _ :: []) (envOfC _ ⟨_, _, _, _, _⟩ _ _ _)) _ _ _ from ?_)
  replace F := fr_names' (ps := [(Str.ofString "ends", .ref De)]) (by intro p hp; rw [List.mem_singleton.mp hp]; exact hme) F
  dsimp only [kstB] at F
  walk_at "goD"
  k_dflt (refine LCt.CompSrcT.ledger (by rfl) (by k_asm) (by k_asm) (by k_mem) (by rw [sizeLine_eq]; exact Nat.le_of_ble_eq_true rfl) ?_); intro g'
  have hrl8 : (tx rs).length = 5 := by rw [tx_len, hrl]
  refine' ct_texts (fun _ => false) (fun _ => Str.ofString "") ?turn3 ?fin3
  case turn3 =>
    intro i v I' oI' C' oC' D' m' ys' h' tk' E' hi' hv' hC' hx' F' N' off' ne'
    obtain ⟨f, t, rfl, hfo, hfl⟩ := five_fronts hv'
    clear hv'
    try simp only [LCg.Off3, and_true] at off'
    walk_at "goD"
    walk_at "callFront"
    walk_at "goD"
  case fin3 =>
    intro fs hfs
    obtain rfl := strs_none hfs
    clear hfs
    have hends := ends_at rfl hel hee
    clear hee hel
    walk_at "goD"
    walk_at "callBlank"
    walk_at "goD"
    all_goals first
      | (exfalso; (rename (_ != _) = true => hq9); simp at hq9; done)
      | skip
    walk_at "callPile"
    walk_at "goD"
    walk_at "callLine"
    walk_at "goD"
    walk_at "callHand"
    walk_at "goD"
    k_dflt (refine LCt.CompSrcT.ledger (by rfl) (by k_asm) (by k_asm) (by k_mem) (by rw [sizeLine_eq]; exact Nat.le_of_ble_eq_true rfl) ?_); intro g'
    refine' ct_texts (fun _ => false) (fun _ => Str.ofString "") ?turn4 ?fin4
    case turn4 =>
      intro i v I' oI' C' oC' D' m' ys' h' tk' E' hi' hv' hC' hx' F' N' off' ne'
      obtain ⟨o, t, rfl, hop, hos⟩ := three_outs hv' hrl
      clear hv'
      have hrs64 : (tx rs).cps.size < 64 := by show rs.toArray.size < 64; rw [List.size_toArray]; omega
      try simp only [LCg.Off3, and_true] at off'
      walk_at "goD"
      all_goals trivial
    case fin4 =>
      intro fs2 hfs2
      obtain rfl := strs_none hfs2
      clear hfs2
      walk_at "goK"
      k_dflt (refine Assign_S (F₀ := by k_asm) (by rfl) (by with_unfolding_all rfl) (by with_unfolding_all rfl) (by decide) (by rfl) (by decide) (by rfl) (by rfl) (by rfl) ?_)
      walk_at "goD"
      refine ⟨_, _, _, rfl, (by decide +kernel), rfl, (by k_asm), (by k_asm), (by rw [sizeLine_eq]; exact Nat.le_of_ble_eq_true rfl), ?_⟩
      intro g'
      refine' ct_texts (fun i => decide (sgn.getD i 0 ∈ rs)) (fun i => one (sgn.getD i 0)) ?turn5 ?fin5
      case turn5 =>
        intro i v I' oI' C' oC' D' m' ys' h' tk' E' hi' hv' hC' hx' F' N' off' ne'
        obtain ⟨t, rfl, hi23⟩ := sign_at hv'
        clear hv' hi'
        have hrs64 : (tx rs).cps.size < 64 := by show rs.toArray.size < 64; rw [List.size_toArray]; omega
        try simp only [LCg.Off3, and_true] at off'
        walk_at "goD"
        · (rename (Builtin.Str.occurrences _ _ _ _ _).isEmpty = true => hoc); rw [in_row] at hoc; simpa using hoc
        · (rename (Builtin.Str.occurrences _ _ _ _ _).isEmpty = false => hoc); rw [in_row] at hoc; simpa using hoc
      case fin5 =>
        intro ks hks
        have hK := kinds_of hks
        clear hks
        walk_at "goE"
        refine' law_tail ?cF ?cX ?cT ?cN ?hmk ?hmr ?n1 ?n2 ?n3 ?n4 ?n5 ?n6 ?hoR ?hob ?hoo ?hoa hrs hrl hK ?hE ?hret9
        case cF => k_asm
        case cX => k_asm
        case cT => k_asm
        case cN => k_asm
        case hmk => with_unfolding_all rfl
        case hmr => with_unfolding_all rfl
        case n1 => k_mem
        case n2 => k_mem
        case n3 => k_mem
        case n4 => k_mem
        case n5 => k_mem
        case n6 => k_mem
        case hoR => assumption
        case hob => assumption
        case hoo => assumption
        case hoa => assumption
        case hE => exact hE
        case hret9 => exact fun h' tk' m' F' => hret h' tk' m' F'
end Mine
end

section
open PySem PySem.W PyProof.Rows
set_option maxRecDepth 100000
namespace Mine
theorem words_y3 : True := by
  w_top off
  first | walk1 | skip
  k_with_none
  k_with "kmem" => (first | exact List.mem_cons_self | (refine List.mem_cons_of_mem _ ?_; k_mem) | assumption)
  trivial
set_option maxHeartbeats 40000000
theorem words_y3_a : True := by
  k_with "go" => (repeat' (first | (fail_if_success (first | (with_reducible show wpAny _ _ (exec (Stmt.While _ _ _ _) _) _ _ _) | (with_reducible show wpAny _ _ (exec (Stmt.For _ _ _ _ _) _) _ _ _) | (with_reducible show wpAny _ _ (pyIter _) _ _ _) | (with_reducible show InvEndN _ _ _ _ _ _ _) | (with_reducible show LoopStep3 _ _ _ _ _ _ _ _ _ _) | (with_reducible show SgnEl _) | (with_reducible show wpAny _ _ (call (Value.ref _) _) _ _ _) | (with_reducible show EndEl _) | (with_reducible show LCg.CompSrc _ _ _ _ _ _ _ _ _ _ _ _ _ _) | (with_reducible show LCt.CompSrcT _ _ _ _ _ _ _ _ _ _ _ _ _ _ _) | (with_reducible show KswEnd _ _ _ _ _ _ _ _ _ _ _ _))); first | (k_unfold; (try dsimp only)) | (k_end; wrow_close) | walk1 | (dsimp only; walk1) | (leave1; walk_say "STEP leave1"; try dsimp only) | fail "no step"))
  k_with "goD" => (repeat' (first | (fail_if_success (first | (with_reducible show wpAny _ _ (exec (Stmt.While _ _ _ _) _) _ _ _) | (with_reducible show wpAny _ _ (exec (Stmt.For _ _ _ _ _) _) _ _ _) | (with_reducible show wpAny _ _ (pyIter _) _ _ _) | (with_reducible show InvEndN _ _ _ _ _ _ _) | (with_reducible show LoopStep3 _ _ _ _ _ _ _ _ _ _) | (with_reducible show SgnEl _) | (with_reducible show wpAny _ _ (call (Value.ref _) _) _ _ _) | (with_reducible show EndEl _) | (with_reducible show LCg.CompSrc _ _ _ _ _ _ _ _ _ _ _ _ _ _) | (with_reducible show LCt.CompSrcT _ _ _ _ _ _ _ _ _ _ _ _ _ _ _) | (with_reducible show KswEnd _ _ _ _ _ _ _ _ _ _ _ _)));  first | (k_unfold; (try dsimp only)) | (k_end; wrow_close) | walk1 | (dsimp only; walk1) | (leave1; walk_say "STEP leave1"; try dsimp only) | fail "no step"))
  k_with "goS" => (repeat' (first | (fail_if_success (first | (with_reducible show wpAny _ _ (execs (Stmt.Assign _ (Expr.List (Expr.Constant _ _ _ :: _) _) _ :: _) _) _ _ _) | (with_reducible show wpAny _ _ (exec (Stmt.While _ _ _ _) _) _ _ _) | (with_reducible show wpAny _ _ (exec (Stmt.For _ _ _ _ _) _) _ _ _) | (with_reducible show wpAny _ _ (pyIter _) _ _ _) | (with_reducible show InvEndN _ _ _ _ _ _ _) | (with_reducible show LoopStep3 _ _ _ _ _ _ _ _ _ _) | (with_reducible show SgnEl _) | (with_reducible show wpAny _ _ (call (Value.ref _) _) _ _ _) | (with_reducible show EndEl _) | (with_reducible show LCg.CompSrc _ _ _ _ _ _ _ _ _ _ _ _ _ _) | (with_reducible show LCt.CompSrcT _ _ _ _ _ _ _ _ _ _ _ _ _ _ _) | (with_reducible show KswEnd _ _ _ _ _ _ _ _ _ _ _ _)));  first | (k_unfold; (try dsimp only)) | (k_end; wrow_close) | walk1 | (dsimp only; walk1) | (leave1; walk_say "STEP leave1"; try dsimp only) | fail "no step"))
  k_with "goE" => (repeat' (first | (fail_if_success (first | (with_reducible show wpAny _ _ (exec (Stmt.While _ _ _ _) _) _ _ _) | (with_reducible show wpAny _ _ (exec (Stmt.For _ _ _ _ _) _) _ _ _) | (with_reducible show wpAny _ _ (pyIter _) _ _ _) | (with_reducible show InvEndN _ _ _ _ _ _ _) | (with_reducible show LoopStep3 _ _ _ _ _ _ _ _ _ _) | (with_reducible show wpAny _ _ (execs (Stmt.For _ _ _ _ _ :: _) _) _ _ _) | (with_reducible show SgnEl _) | (with_reducible show wpAny _ _ (call (Value.ref _) _) _ _ _) | (with_reducible show EndEl _) | (with_reducible show LCg.CompSrc _ _ _ _ _ _ _ _ _ _ _ _ _ _) | (with_reducible show LCt.CompSrcT _ _ _ _ _ _ _ _ _ _ _ _ _ _ _) | (with_reducible show KswEnd _ _ _ _ _ _ _ _ _ _ _ _)));  first | (k_unfold; (try dsimp only)) | (k_end; wrow_close) | walk1 | (dsimp only; walk1) | (leave1; walk_say "STEP leave1"; try dsimp only) | fail "no step"))
  k_with "goK" => (repeat' (first | (fail_if_success (first | (with_reducible show wpAny _ _ (exec (Stmt.While _ _ _ _) _) _ _ _) | (with_reducible show wpAny _ _ (exec (Stmt.For _ _ _ _ _) _) _ _ _) | (with_reducible show wpAny _ _ (pyIter _) _ _ _) | (with_reducible show InvEndN _ _ _ _ _ _ _) | (with_reducible show LoopStep3 _ _ _ _ _ _ _ _ _ _) | (with_reducible show wpAny _ _ (exec (Stmt.Assign _ (Expr.ListComp _ [Comprehension.mk _ _ [_] _] _ _) _) _) _ _ _) | (with_reducible show SgnEl _) | (with_reducible show wpAny _ _ (call (Value.ref _) _) _ _ _) | (with_reducible show EndEl _) | (with_reducible show LCg.CompSrc _ _ _ _ _ _ _ _ _ _ _ _ _ _) | (with_reducible show LCt.CompSrcT _ _ _ _ _ _ _ _ _ _ _ _ _ _ _) | (with_reducible show KswEnd _ _ _ _ _ _ _ _ _ _ _ _)));  first | (k_unfold; (try dsimp only)) | (k_end; wrow_close) | walk1 | (dsimp only; walk1) | (leave1; walk_say "STEP leave1"; try dsimp only) | fail "no step"))
  k_with "setItem ref int int" => ((k_here; refine' cells_set ?w8F ?w8N ?w8ho ?w8ha ?w8hi ?w8h0 ?w8h1 ?w8h2 ?_; (case w8F => assumption); (case w8N => assumption); (case w8ho => assumption); (case w8ha => assumption); (case w8hi => assumption); (case w8h0 => omega); (case w8h1 => omega); (case w8h2 => omega); intro w8h' w8F' w8N' w8hi'))
  k_with "eval ListComp" => ((k_here; first
  | ((with_reducible show wpAny _ _ (eval (Expr.ListComp _ [Comprehension.mk _ _ [] _] _ _) _) _ _ _); k_dflt (refine LCg.ListComp_U (F₀ := by k_asm) (by with_unfolding_all rfl) (by decide) (by rfl) (by decide) (by rfl) ?_))
  | ((with_reducible show wpAny _ _ (eval (Expr.ListComp _ [Comprehension.mk _ _ [_] _] _ _) _) _ _ _); k_dflt (refine LCt.ListComp_T (F₀ := by k_asm) (by with_unfolding_all rfl) (by decide) (by rfl) (by decide) (by rfl) ?_))))
  k_with "exec Assign cons ListComp" => ((k_here; first
  | ((with_reducible show wpAny _ _ (exec (Stmt.Assign _ (Expr.ListComp _ [Comprehension.mk _ _ [] _] _ _) _) _) _ _ _); k_dflt (refine LCg.Assign_ListComp_U (F₀ := by k_asm) (by rfl) (by with_unfolding_all rfl) (by with_unfolding_all rfl) (by decide) (by rfl) (by decide) (by rfl) (by rfl) (by rfl) ?_))
  | ((with_reducible show wpAny _ _ (exec (Stmt.Assign _ (Expr.ListComp _ [Comprehension.mk _ _ [_] _] _ _) _) _) _ _ _); k_dflt (refine LCt.Assign_ListComp_T (F₀ := by k_asm) (by rfl) (by with_unfolding_all rfl) (by with_unfolding_all rfl) (by decide) (by rfl) (by decide) (by rfl) (by rfl) (by rfl) ?_))))
  k_with "call builtin:str.join" => ((k_here; k_dflt (refine' call_join_signs ?w8a ?w8b ?w8c ?_; (case w8a => exact News.isList (by assumption) (by k_mem)); (case w8b => assumption); (case w8c => omega)); intro w8tj' w8kj'))
  k_with "CompEnd" => (first
  | (refine comp_end (by assumption) (by assumption) (by kcf_all) (by first | assumption | (simp only [LCg.Off3, and_true]; assumption)) (by first | lcg_src | assumption) ?_)
  | (exact comp_endF (by assumption) (by assumption) (by kcf_all) (by first | assumption | (simp only [LCg.Off3, and_true]; assumption)) (by first | lcg_src | assumption)))
  k_with "conArgs" => (((case k2 => k_asm); (case k3 => k_asm); (case k4 => k_asm); (case k5 => k_asm); (case k6 => first | trivial | assumption); (case k7 => ktr_room); (case k8 => ktr_units)))
  k_with "callFront" => ((k_here; (with_reducible show wpAny _ _ (call _ [Value.str (tx _ ++ tx _) _]) _ _ _); k_dflt (refine' con_use (con_front ?w8hf ?w8hr ?w8hl _) ?k2 ?k3 ?k4 ?k5 ?k6 ?k7 ?k8 ?_; (case w8hf => assumption); (case w8hr => assumption); (case w8hl => assumption); walk_at "conArgs"; k_whole; intro w8v' w8h' w8tk' w8hv' w8F' w8N'; (obtain ⟨w8t', w8hv''⟩ := w8hv'); subst w8hv''; (try dsimp only); (try k_fold))))
  k_with "compareOp NotEq ref ref" => ((k_here; (with_reducible show wpAny _ _ (compareOp _ (Value.ref _) (Value.ref _)) _ _ _); k_dflt (refine' ne_strs ?w8a ?w8b ?w8c ?w8d ?w8e ?w8f ?w8g ?_; (case w8a => exact News.isList (by assumption) (by k_mem)); (case w8b => exact News.isList (by assumption) (by k_mem)); (case w8c => first | assumption | exact .nil); (case w8d => first | assumption | exact .nil); (case w8e => first | assumption | exact List.forall_mem_nil _); (case w8f => first | assumption | exact List.forall_mem_nil _); (case w8g => first | ktr_units | decide +kernel))))
  k_with "compareOp NotEq ref ref" => ((k_here; (with_reducible show wpAny _ _ (compareOp _ (Value.ref _) (Value.ref _)) _ _ _); k_dflt (refine' ne_sorted ?w8a ?w8b ?w8c ?w8d ?w8e ?w8f ?w8g ?w8h ?w8i ?w8j ?w8k ?_; (case w8a => exact News.isList (by assumption) (by k_mem)); (case w8b => exact News.isList (by assumption) (by k_mem)); (case w8c => assumption); (case w8d => assumption); (case w8e => assumption); (case w8f => assumption); (case w8g => assumption); (case w8h => assumption); (case w8i => assumption); (case w8j => assumption); (case w8k => first | ktr_units | decide +kernel))))
  k_with "callBlank" => ((k_here; k_dflt (refine' con_use (con_blank rfl ?w8hr ?w8hl _) ?k2 ?k3 ?k4 ?k5 ?k6 ?k7 ?k8 ?_; (case w8hr => assumption); (case w8hl => assumption); walk_at "conArgs"; k_whole; intro w8v' w8h' w8tk' w8hv' w8F' w8N'; (obtain ⟨w8t', w8hv''⟩ := w8hv'); subst w8hv''; (try dsimp only); (try k_fold))))
  k_with "callPile" => ((k_here; k_dflt (refine' con_pile ?w8hs ?w8hl ?w8hv ?w8B ?w8F ?w8X ?w8N ?w8T ?w8XB ?w8TB ?w8hf ?w8hke ?w8hR ?w8hdp ?w8hun ?_; (case w8hs => assumption); (case w8hl => assumption); (case w8hv => assumption); (case w8B => assumption); (case w8F => k_asm); (case w8X => k_asm); (case w8N => k_asm); (case w8T => k_asm); (case w8XB => assumption); (case w8TB => assumption); (case w8hf => exact rfl); (case w8hke => exact rfl); (case w8hR => k_mem); (case w8hdp => first | ktr_room | decide +kernel); (case w8hun => first | ktr_units | decide +kernel); k_whole; intro w8h' w8tk' w8t' w8F' w8N'; (try dsimp only); (try k_fold))))
  k_with "callLine" => ((k_here; k_dflt (refine' con_use (con_line ?w8hr ?w8hl) ?k2 ?k3 ?k4 ?k5 ?k6 ?k7 ?k8 ?_; (case w8hr => assumption); (case w8hl => omega); walk_at "conArgs"; k_whole; intro w8v' w8h' w8tk' w8hv' w8F' w8N'; (obtain ⟨w8t', w8hv''⟩ := w8hv'); subst w8hv''; (try dsimp only); (try k_fold))))
  k_with "callHand" => ((k_here; k_dflt (refine' con_use (con_hand5 ?w8hr ?w8hl) ?k2 ?k3 ?k4 ?k5 ?k6 ?k7 ?k8 ?_; (case w8hr => assumption); (case w8hl => assumption); walk_at "conArgs"; k_whole; intro w8v' w8h' w8tk' w8hv' w8F' w8N'; (obtain ⟨w8t', w8hv''⟩ := w8hv'); subst w8hv''; (try dsimp only); (try k_fold))))
  k_with "call builtin:sorted" => ((k_here; k_dflt (refine' sorted_text rfl ?w8F ?w8N ?w8hx ?_; (case w8F => k_asm); (case w8N => k_asm); (case w8hx => assumption); k_whole; intro w8h' w8vs' w8ss' w8e' w8D' w8tk' w8F' w8N' w8hap' w8hS' w8hP' w8hO'; (try dsimp only); (try k_fold))))
  trivial

theorem law_holds : Challenge.rw_ux0019_01.Holds := by
  w_on
  o_law
  o_head (kHook K9 as9 (fun _ => by kernel_rfl))
  (case hw => w_witness2)
  k_go0
  all_goals try k_fold
  walk_at "go"
  (rename Fr _ _ _ _ => lF0)
  refine for_pair3 lF0 rfl rfl rfl rfl ?_ (by intro _; rfl)
  walk_at "go"
  (rename PairSrcL _ _ _ _ _ _ _ _ _ _ _ _ => lS)
  refine' cells_loop lS rfl ?hm ?hap ?step ?done
  case hap =>
    clear lF0 lS
    intro p hp
    simp only [List.mem_cons, List.not_mem_nil, or_false] at hp
    rcases hp with rfl | rfl | rfl | rfl | rfl <;> exact Nat.ne_of_lt (by (try dsimp only); omega)
  case hm => with_unfolding_all rfl
  case step =>
    intro i x t tx c vs m₁ h tk own hap hx hc hcm hoff F8 N8
    clear lF0 lS
    dsimp only [kstB] at F8
    obtain ⟨hi, hl, hb⟩ := id hc
    have h5a : 0 ≤ (i : Int).fmod 5 := Int.fmod_nonneg_of_pos _ (by decide)
    have h5b : (i : Int).fmod 5 < 5 := Int.fmod_lt_of_pos _ (by decide)
    walk_at "go"
    exact cells_end (by assumption) (by assumption) (by with_unfolding_all rfl) (cls_set hc (by assumption) (by omega))
  case done =>
    intro c vs m' h' tk' hc F8 N8
    clear lF0 lS
    dsimp only [kstB] at F8
    obtain ⟨c0, c1, c2, c3, c4, t0, t1, t2, t3, t4, rfl, hc0, hc1, hc2, hc3, hc4⟩ := cls_open hc (by omega)
    clear hc
    walk_at "go"
    k_dflt (refine LCg.CompSrc.ledger (by rfl) (by k_asm) (by k_asm) (by k_mem) (by rw [sizeLine_eq]; exact Nat.le_of_ble_eq_true rfl) ?_); intro g'
    refine' cg_any (fun _ y => SgnEl y) ?turn1 ?fin1
    case turn1 =>
      intro i v I' oI' C' oC' D' m' ys' h' tk' E' hi' hv' hC' hx' F' N' off' ne'
      obtain ⟨k, t, rfl, hk0, hk1⟩ := five_ints hv' hc0 hc1 hc2 hc3 hc4
      clear hv'
      simp only [LCg.Off3, and_true] at off'
      have hf0 : 0 ≤ k.fmod 23 := Int.fmod_nonneg_of_pos _ (by decide)
      have hf1 : k.fmod 23 < 23 := Int.fmod_lt_of_pos _ (by decide)
      walk_at "go"
      exact sgn_el hf0 hf1
    case fin1 =>
      intro ys hyl hye
      obtain ⟨rs, hrs, hrl, hry⟩ := strs_signs hye
      replace hrl : rs.length = 5 := hrl.trans hyl
      clear hye
      walk_at "go"
      k_dflt (refine LCg.CompSrc.ledger (by rfl) (by k_asm) (by k_asm) (by k_mem) (by rw [sizeLine_eq]; exact Nat.le_of_ble_eq_true rfl) ?_); intro g'
      refine' cg_any (fun _ y => EndEl y) ?turn2 ?fin2
      case turn2 =>
        intro i v I' oI' C' oC' D' m' ys' h' tk' E' hi' hv' hC' hx' F' N' off' ne'
        obtain ⟨k, t, rfl, hk0, hk1⟩ := five_ints hv' hc0 hc1 hc2 hc3 hc4
        clear hv'
        simp only [LCg.Off3, and_true] at off'
        walk_at "goD"
        all_goals first | exact end_el0 | exact end_el1 | exact end_el2
      case fin2 =>
        intro es hel hee
        walk_at "goS"
        refine' law_rest ?cB ?cF ?cX ?cT ?cN ?hme ?mE ?mS ?mR ?m3 ?m4 ?m5 ?hoS ?hoR ?hob ?hoo ?hoa hrs hrl hel hee ?hE9 ?hret9
        case cB => assumption
        case cF => k_asm
        case cX => k_asm
        case cT => k_asm
        case cN => k_asm
        case hme => with_unfolding_all rfl
        case mE => k_mem
        case mS => k_mem
        case mR => k_mem
        case m3 => k_mem
        case m4 => k_mem
        case m5 => k_mem
        case hoS => assumption
        case hoR => assumption
        case hob => assumption
        case hoo => assumption
        case hoa => assumption
        case hE9 => passes_own
        case hret9 =>
          intro h' tk' m' F'
          walk_at "goD"
end Mine
end
theorem PySem.Challenge.cw_ux0019_01_holds : PySem.Challenge.rw_ux0019_01.Holds := by
  exact Mine.law_holds
